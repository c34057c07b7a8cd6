/- The program may be entered: its head's words, read off letter by letter. -/
import Derived.Test.YtpdmmmcelkinjaaFmtChecked
import GoSem.ClaimOpen
import GoSem.ClaimOpenFrom
import GoSem.ClaimJoined
import GoSem.ClaimWrapper
import Derived.KernelRfl
namespace Go.Proofs.YtpdmmmcelkinjaaFmt
open Go
theorem strip_none (w : List Char) (ws : List (List Char)) : ∀ os : List String, (os.all fun o => !(w == o.toList)) = true → stripLifts os (w :: ws) = ([], w :: ws)
  | [], _ => rfl
  | o :: os, h => by
    rw [List.all_cons, Bool.and_eq_true] at h
    have h1 : (w == o.toList) = false := by simpa using h.1
    rw [stripLifts, h1]
    exact strip_none w ws os h.2
theorem mayEnter_of {P : Program} (h : (behindMainWord (wordsSigns P.initOrder.toList)).head? = some "cut".toList) (hl : P.laysLater = false) (hb : P.bearsReflect = false) (hd : P.doorFits [] = true) : P.mayEnter = true := by
  unfold Program.mayEnter
  generalize behindMainWord (wordsSigns P.initOrder.toList) = L at h
  match L, h with
  | c :: rest, h =>
    have hc : c = "cut".toList := by simpa using h
    subst hc
    have hs : stripLifts liftWords ("cut".toList :: rest) = ([], "cut".toList :: rest) := strip_none _ _ _ (by decide +kernel)
    simp only [hs]
    simp [hl, hb, hd]
/-- The signs of the head's row. -/
def headSigns : List Nat := [104, 97, 114, 110, 101, 115, 115, 32, 53, 57, 97, 50, 102, 50, 99, 51, 54, 101, 51, 54, 53, 99, 57, 101, 57, 56, 100, 99, 49, 57, 48, 50, 52, 101, 56, 51, 57, 100, 99, 56, 99, 52, 99, 49, 54, 51, 99, 55, 56, 50, 55, 57, 57, 102, 56, 50, 101, 98, 97, 55, 100, 102, 56, 57, 53, 100, 101, 52, 53, 48, 53, 98, 32, 99, 117, 116, 32, 97, 116, 32, 108, 111, 111, 112, 46, 101, 120, 97, 109, 112, 108, 101, 47, 112, 117, 98, 45, 108, 111, 103, 112, 114, 111, 111, 102, 115, 47, 108, 97, 119, 115, 46, 70, 110, 78, 101, 119, 82, 97, 110, 103, 101, 82, 111, 111, 116, 32, 108, 111, 111, 112, 46, 101, 120, 97, 109, 112, 108, 101, 47, 112, 117, 98, 45, 108, 111, 103, 112, 114, 111, 111, 102, 115, 47, 108, 97, 119, 115, 46, 70, 110, 69, 120, 97, 99, 116, 78, 101, 119, 82, 97, 110, 103, 101, 32, 108, 111, 111, 112, 46, 101, 120, 97, 109, 112, 108, 101, 47, 112, 117, 98, 45, 108, 111, 103, 112, 114, 111, 111, 102, 115, 47, 108, 97, 119, 115, 46, 70, 110, 65, 112, 112, 101, 110, 100, 69, 100, 103, 101, 65, 108, 108, 32, 108, 111, 111, 112, 46, 101, 120, 97, 109, 112, 108, 101, 47, 112, 117, 98, 45, 108, 111, 103, 112, 114, 111, 111, 102, 115, 47, 108, 97, 119, 115, 46, 70, 110, 65, 112, 112, 101, 110, 100, 82, 111, 111, 116, 32, 108, 111, 111, 112, 46, 101, 120, 97, 109, 112, 108, 101, 47, 112, 117, 98, 45, 108, 111, 103, 112, 114, 111, 111, 102, 115, 47, 108, 97, 119, 115, 46, 70, 110, 65, 112, 112, 101, 110, 100, 71, 114, 111, 119, 110, 32, 108, 111, 111, 112, 46, 101, 120, 97, 109, 112, 108, 101, 47, 112, 117, 98, 45, 108, 111, 103, 112, 114, 111, 111, 102, 115, 47, 108, 97, 119, 115, 46, 70, 110, 65, 112, 112, 101, 110, 100, 78, 111, 82, 111, 111, 116, 32, 108, 111, 111, 112, 46, 101, 120, 97, 109, 112, 108, 101, 47, 112, 117, 98, 45, 108, 111, 103, 112, 114, 111, 111, 102, 115, 47, 108, 97, 119, 115, 46, 70, 110, 69, 120, 97, 99, 116, 65, 112, 112, 101, 110, 100, 32, 108, 111, 111, 112, 46, 101, 120, 97, 109, 112, 108, 101, 47, 112, 117, 98, 45, 108, 111, 103, 112, 114, 111, 111, 102, 115, 47, 108, 97, 119, 115, 46, 70, 110, 65, 112, 112, 101, 110, 100, 69, 100, 103, 101, 32, 108, 111, 111, 112, 46, 101, 120, 97, 109, 112, 108, 101, 47, 112, 117, 98, 45, 108, 111, 103, 112, 114, 111, 111, 102, 115, 47, 108, 97, 119, 115, 46, 70, 110, 65, 112, 112, 101, 110, 100, 82, 97, 110, 103, 101, 71, 114, 111, 119, 110, 32, 108, 111, 111, 112, 46, 101, 120, 97, 109, 112, 108, 101, 47, 112, 117, 98, 45, 108, 111, 103, 112, 114, 111, 111, 102, 115, 47, 108, 97, 119, 115, 46, 70, 110, 69, 120, 97, 99, 116, 65, 112, 112, 101, 110, 100, 82, 97, 110, 103, 101, 32, 108, 111, 111, 112, 46, 101, 120, 97, 109, 112, 108, 101, 47, 112, 117, 98, 45, 108, 111, 103, 112, 114, 111, 111, 102, 115, 47, 108, 97, 119, 115, 46, 70, 110, 65, 112, 112, 101, 110, 100, 77, 97, 107, 101, 114, 32, 115, 116, 111, 112, 32, 102, 109, 116, 46, 101, 114, 114, 111, 114, 102]
theorem initSigns : Tryf.prog.initOrder = String.ofList (headSigns.map Char.ofNat) := by kernel_rfl
theorem initList : Tryf.prog.initOrder.toList = headSigns.map Char.ofNat := by rw [initSigns]; exact String.toList_ofList
theorem headWord : (behindMainWord (wordsSigns (headSigns.map Char.ofNat))).head? = some "cut".toList := by kernel_rfl
theorem mayEnter : Tryf.prog.mayEnter = true := mayEnter_of (by rw [initList]; exact headWord) (by kernel_rfl) (by kernel_rfl) (by kernel_rfl)
theorem mainIs_of {P : Program} {w : String} {b : Bool} {s : List Char} (hw : w = "harness" ∧ b = true ∨ w = "ownmain" ∧ b = false) (h : (wordsSigns P.initOrder.toList).take 2 = [w.toList, s]) (hs : isSumSigns s = true) : P.mainIs = some (b, s) := by
  unfold Program.mainIs
  generalize wordsSigns P.initOrder.toList = L at h
  match L, h with
  | x :: y :: rest, h =>
    obtain ⟨rfl, rfl⟩ : x = w.toList ∧ y = s := by simpa using h
    rcases hw with ⟨rfl, rfl⟩ | ⟨rfl, rfl⟩
    · simp [hs]
    · simp [hs]
theorem headLifts_of {P : Program} (h : (behindMainWord (wordsSigns P.initOrder.toList)).head? = some "cut".toList) : P.headLifts = [] := by
  unfold Program.headLifts
  generalize behindMainWord (wordsSigns P.initOrder.toList) = L at h
  match L, h with
  | c :: rest, h =>
    have hc : c = "cut".toList := by simpa using h
    subst hc
    have hs : stripLifts liftWords ("cut".toList :: rest) = ([], "cut".toList :: rest) := strip_none _ _ _ (by decide +kernel)
    simp only [hs]
    simp
theorem make_of {P : Program} (h : (behindMainWord (wordsSigns P.initOrder.toList)).head? = some "cut".toList) : P.make = some .cut := by
  unfold Program.make
  generalize behindMainWord (wordsSigns P.initOrder.toList) = L at h
  match L, h with
  | c :: rest, h =>
    have hc : c = "cut".toList := by simpa using h
    subst hc
    simp
theorem liftsFinal_of {P : Program} (h : (behindMainWord (wordsSigns P.initOrder.toList)).head? = some "cut".toList) : P.liftsFinal = false := by
  unfold Program.liftsFinal
  rw [headLifts_of h]
  generalize behindMainWord (wordsSigns P.initOrder.toList) = L at h
  match L, h with
  | c :: rest, h =>
    have hc : c = "cut".toList := by simpa using h
    subst hc
    simp
theorem headTwo : (wordsSigns (headSigns.map Char.ofNat)).take 2 = ["harness".toList, "59a2f2c36e365c9e98dc19024e839dc8c4c163c782799f82eba7df895de4505b".toList] := by kernel_rfl
theorem sumOk : isSumSigns "59a2f2c36e365c9e98dc19024e839dc8c4c163c782799f82eba7df895de4505b".toList = true := by kernel_rfl
theorem mainIs : Tryf.prog.mainIs = some (true, "59a2f2c36e365c9e98dc19024e839dc8c4c163c782799f82eba7df895de4505b".toList) := mainIs_of (w := "harness") (by decide +kernel) (by rw [initList]; exact headTwo) sumOk
theorem make : Tryf.prog.make = some .cut := make_of (by rw [initList]; exact headWord)
theorem liftsFinal : Tryf.prog.liftsFinal = false := liftsFinal_of (by rw [initList]; exact headWord)
end Go.Proofs.YtpdmmmcelkinjaaFmt
