/- The program may be entered: its head's words, read off letter by letter. -/
import Derived.Test.YtklofjhmgoejiaaFmtChecked
import GoSem.ClaimOpen
import GoSem.ClaimOpenFrom
import GoSem.ClaimJoined
import GoSem.ClaimWrapper
import Derived.KernelRfl
namespace Go.Proofs.YtklofjhmgoejiaaFmt
open Go
theorem strip_none (w : List Char) (ws : List (List Char)) : ∀ os : List String, (os.all fun o => !(w == o.toList)) = true → stripLifts os (w :: ws) = ([], w :: ws)
  | [], _ => rfl
  | o :: os, h => by
    rw [List.all_cons, Bool.and_eq_true] at h
    have h1 : (w == o.toList) = false := by simpa using h.1
    rw [stripLifts, h1]
    exact strip_none w ws os h.2
theorem mayEnter_of {P : Program} (h : (behindMainWord (wordsSigns P.initOrder.toList)).head? = some "cut".toList) (hl : P.laysLater = false) (hb : P.bearsReflect = false) (hd : P.doorFits [] = true) : P.mayEnter = true := by
  unfold Program.mayEnter
  generalize behindMainWord (wordsSigns P.initOrder.toList) = L at h
  match L, h with
  | c :: rest, h =>
    have hc : c = "cut".toList := by simpa using h
    subst hc
    have hs : stripLifts liftWords ("cut".toList :: rest) = ([], "cut".toList :: rest) := strip_none _ _ _ (by decide +kernel)
    simp only [hs]
    simp [hl, hb, hd]
/-- The signs of the head's row. -/
def headSigns : List Nat := [104, 97, 114, 110, 101, 115, 115, 32, 98, 102, 50, 99, 56, 50, 51, 99, 100, 50, 100, 57, 102, 52, 49, 51, 54, 48, 56, 98, 97, 50, 97, 97, 98, 52, 52, 48, 56, 102, 49, 56, 50, 56, 57, 97, 102, 49, 52, 48, 102, 56, 57, 53, 101, 48, 53, 98, 98, 101, 97, 102, 97, 52, 53, 99, 99, 56, 49, 101, 98, 57, 50, 98, 32, 99, 117, 116, 32, 97, 116, 32, 108, 111, 111, 112, 46, 101, 120, 97, 109, 112, 108, 101, 47, 112, 117, 98, 45, 108, 111, 103, 112, 114, 111, 111, 102, 115, 47, 108, 97, 119, 115, 46, 70, 110, 69, 120, 97, 99, 116, 86, 101, 114, 105, 102, 121, 73, 110, 99, 108, 117, 115, 105, 111, 110, 32, 108, 111, 111, 112, 46, 101, 120, 97, 109, 112, 108, 101, 47, 112, 117, 98, 45, 108, 111, 103, 112, 114, 111, 111, 102, 115, 47, 108, 97, 119, 115, 46, 70, 110, 73, 110, 99, 108, 117, 115, 105, 111, 110, 67, 111, 109, 112, 108, 101, 116, 101, 32, 108, 111, 111, 112, 46, 101, 120, 97, 109, 112, 108, 101, 47, 112, 117, 98, 45, 108, 111, 103, 112, 114, 111, 111, 102, 115, 47, 108, 97, 119, 115, 46, 70, 110, 73, 110, 99, 108, 117, 115, 105, 111, 110, 83, 111, 117, 110, 100, 32, 108, 111, 111, 112, 46, 101, 120, 97, 109, 112, 108, 101, 47, 112, 117, 98, 45, 108, 111, 103, 112, 114, 111, 111, 102, 115, 47, 108, 97, 119, 115, 46, 70, 110, 86, 101, 114, 105, 102, 121, 73, 110, 99, 108, 117, 115, 105, 111, 110, 76, 101, 110, 103, 116, 104, 32, 108, 111, 111, 112, 46, 101, 120, 97, 109, 112, 108, 101, 47, 112, 117, 98, 45, 108, 111, 103, 112, 114, 111, 111, 102, 115, 47, 108, 97, 119, 115, 46, 70, 110, 86, 101, 114, 105, 102, 121, 73, 110, 99, 108, 117, 115, 105, 111, 110, 77, 105, 115, 109, 97, 116, 99, 104, 32, 108, 111, 111, 112, 46, 101, 120, 97, 109, 112, 108, 101, 47, 112, 117, 98, 45, 108, 111, 103, 112, 114, 111, 111, 102, 115, 47, 108, 97, 119, 115, 46, 70, 110, 69, 120, 97, 99, 116, 82, 111, 111, 116, 70, 114, 111, 109, 73, 110, 99, 108, 117, 115, 105, 111, 110, 80, 114, 111, 111, 102, 32, 108, 111, 111, 112, 46, 101, 120, 97, 109, 112, 108, 101, 47, 112, 117, 98, 45, 108, 111, 103, 112, 114, 111, 111, 102, 115, 47, 108, 97, 119, 115, 46, 70, 110, 73, 110, 99, 108, 117, 115, 105, 111, 110, 76, 101, 97, 102, 32, 108, 111, 111, 112, 46, 101, 120, 97, 109, 112, 108, 101, 47, 112, 117, 98, 45, 108, 111, 103, 112, 114, 111, 111, 102, 115, 47, 108, 97, 119, 115, 46, 70, 110, 73, 110, 99, 108, 117, 115, 105, 111, 110, 79, 110, 101, 32, 108, 111, 111, 112, 46, 101, 120, 97, 109, 112, 108, 101, 47, 112, 117, 98, 45, 108, 111, 103, 112, 114, 111, 111, 102, 115, 47, 108, 97, 119, 115, 46, 70, 110, 73, 110, 99, 108, 117, 115, 105, 111, 110, 82, 111, 111, 116, 115, 32, 115, 116, 111, 112, 32, 102, 109, 116, 46, 101, 114, 114, 111, 114, 102]
theorem initSigns : Tryf.prog.initOrder = String.ofList (headSigns.map Char.ofNat) := by kernel_rfl
theorem initList : Tryf.prog.initOrder.toList = headSigns.map Char.ofNat := by rw [initSigns]; exact String.toList_ofList
theorem headWord : (behindMainWord (wordsSigns (headSigns.map Char.ofNat))).head? = some "cut".toList := by kernel_rfl
theorem mayEnter : Tryf.prog.mayEnter = true := mayEnter_of (by rw [initList]; exact headWord) (by kernel_rfl) (by kernel_rfl) (by kernel_rfl)
theorem mainIs_of {P : Program} {w : String} {b : Bool} {s : List Char} (hw : w = "harness" ∧ b = true ∨ w = "ownmain" ∧ b = false) (h : (wordsSigns P.initOrder.toList).take 2 = [w.toList, s]) (hs : isSumSigns s = true) : P.mainIs = some (b, s) := by
  unfold Program.mainIs
  generalize wordsSigns P.initOrder.toList = L at h
  match L, h with
  | x :: y :: rest, h =>
    obtain ⟨rfl, rfl⟩ : x = w.toList ∧ y = s := by simpa using h
    rcases hw with ⟨rfl, rfl⟩ | ⟨rfl, rfl⟩
    · simp [hs]
    · simp [hs]
theorem headLifts_of {P : Program} (h : (behindMainWord (wordsSigns P.initOrder.toList)).head? = some "cut".toList) : P.headLifts = [] := by
  unfold Program.headLifts
  generalize behindMainWord (wordsSigns P.initOrder.toList) = L at h
  match L, h with
  | c :: rest, h =>
    have hc : c = "cut".toList := by simpa using h
    subst hc
    have hs : stripLifts liftWords ("cut".toList :: rest) = ([], "cut".toList :: rest) := strip_none _ _ _ (by decide +kernel)
    simp only [hs]
    simp
theorem make_of {P : Program} (h : (behindMainWord (wordsSigns P.initOrder.toList)).head? = some "cut".toList) : P.make = some .cut := by
  unfold Program.make
  generalize behindMainWord (wordsSigns P.initOrder.toList) = L at h
  match L, h with
  | c :: rest, h =>
    have hc : c = "cut".toList := by simpa using h
    subst hc
    simp
theorem liftsFinal_of {P : Program} (h : (behindMainWord (wordsSigns P.initOrder.toList)).head? = some "cut".toList) : P.liftsFinal = false := by
  unfold Program.liftsFinal
  rw [headLifts_of h]
  generalize behindMainWord (wordsSigns P.initOrder.toList) = L at h
  match L, h with
  | c :: rest, h =>
    have hc : c = "cut".toList := by simpa using h
    subst hc
    simp
theorem headTwo : (wordsSigns (headSigns.map Char.ofNat)).take 2 = ["harness".toList, "bf2c823cd2d9f413608ba2aab4408f18289af140f895e05bbeafa45cc81eb92b".toList] := by kernel_rfl
theorem sumOk : isSumSigns "bf2c823cd2d9f413608ba2aab4408f18289af140f895e05bbeafa45cc81eb92b".toList = true := by kernel_rfl
theorem mainIs : Tryf.prog.mainIs = some (true, "bf2c823cd2d9f413608ba2aab4408f18289af140f895e05bbeafa45cc81eb92b".toList) := mainIs_of (w := "harness") (by decide +kernel) (by rw [initList]; exact headTwo) sumOk
theorem make : Tryf.prog.make = some .cut := make_of (by rw [initList]; exact headWord)
theorem liftsFinal : Tryf.prog.liftsFinal = false := liftsFinal_of (by rw [initList]; exact headWord)
end Go.Proofs.YtklofjhmgoejiaaFmt
