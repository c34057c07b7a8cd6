/- The program may be entered: its head's words, read off letter by letter. -/
import Derived.Test.YtobnmgnnidhfkaaFmtChecked
import GoSem.ClaimOpen
import GoSem.ClaimOpenFrom
import GoSem.ClaimJoined
import GoSem.ClaimWrapper
import Derived.KernelRfl
namespace Go.Proofs.YtobnmgnnidhfkaaFmt
open Go
theorem strip_none (w : List Char) (ws : List (List Char)) : ∀ os : List String, (os.all fun o => !(w == o.toList)) = true → stripLifts os (w :: ws) = ([], w :: ws)
  | [], _ => rfl
  | o :: os, h => by
    rw [List.all_cons, Bool.and_eq_true] at h
    have h1 : (w == o.toList) = false := by simpa using h.1
    rw [stripLifts, h1]
    exact strip_none w ws os h.2
theorem mayEnter_of {P : Program} (h : (behindMainWord (wordsSigns P.initOrder.toList)).head? = some "cut".toList) (hl : P.laysLater = false) (hb : P.bearsReflect = false) (hd : P.doorFits [] = true) : P.mayEnter = true := by
  unfold Program.mayEnter
  generalize behindMainWord (wordsSigns P.initOrder.toList) = L at h
  match L, h with
  | c :: rest, h =>
    have hc : c = "cut".toList := by simpa using h
    subst hc
    have hs : stripLifts liftWords ("cut".toList :: rest) = ([], "cut".toList :: rest) := strip_none _ _ _ (by decide +kernel)
    simp only [hs]
    simp [hl, hb, hd]
/-- The signs of the head's row. -/
def headSigns : List Nat := [104, 97, 114, 110, 101, 115, 115, 32, 101, 99, 51, 50, 52, 56, 98, 52, 55, 54, 54, 57, 52, 51, 53, 56, 100, 99, 99, 100, 102, 49, 56, 52, 57, 101, 53, 53, 101, 99, 49, 100, 101, 56, 50, 99, 102, 57, 49, 99, 98, 48, 100, 100, 56, 101, 57, 99, 101, 57, 52, 101, 50, 100, 55, 100, 53, 99, 98, 55, 49, 56, 57, 51, 32, 99, 117, 116, 32, 97, 116, 32, 108, 111, 111, 112, 46, 101, 120, 97, 109, 112, 108, 101, 47, 112, 117, 98, 45, 108, 111, 103, 112, 114, 111, 111, 102, 115, 47, 108, 97, 119, 115, 46, 70, 110, 73, 110, 99, 108, 117, 115, 105, 111, 110, 66, 101, 121, 111, 110, 100, 32, 108, 111, 111, 112, 46, 101, 120, 97, 109, 112, 108, 101, 47, 112, 117, 98, 45, 108, 111, 103, 112, 114, 111, 111, 102, 115, 47, 108, 97, 119, 115, 46, 70, 110, 82, 97, 110, 103, 101, 80, 114, 111, 111, 102, 32, 108, 111, 111, 112, 46, 101, 120, 97, 109, 112, 108, 101, 47, 112, 117, 98, 45, 108, 111, 103, 112, 114, 111, 111, 102, 115, 47, 108, 97, 119, 115, 46, 70, 110, 82, 97, 110, 103, 101, 73, 110, 99, 108, 117, 115, 105, 111, 110, 32, 108, 111, 111, 112, 46, 101, 120, 97, 109, 112, 108, 101, 47, 112, 117, 98, 45, 108, 111, 103, 112, 114, 111, 111, 102, 115, 47, 108, 97, 119, 115, 46, 70, 110, 82, 97, 110, 103, 101, 67, 111, 110, 115, 105, 115, 116, 101, 110, 99, 121, 32, 115, 116, 111, 112, 32, 102, 109, 116, 46, 101, 114, 114, 111, 114, 102]
theorem initSigns : Tryf.prog.initOrder = String.ofList (headSigns.map Char.ofNat) := by kernel_rfl
theorem initList : Tryf.prog.initOrder.toList = headSigns.map Char.ofNat := by rw [initSigns]; exact String.toList_ofList
theorem headWord : (behindMainWord (wordsSigns (headSigns.map Char.ofNat))).head? = some "cut".toList := by kernel_rfl
theorem mayEnter : Tryf.prog.mayEnter = true := mayEnter_of (by rw [initList]; exact headWord) (by kernel_rfl) (by kernel_rfl) (by kernel_rfl)
theorem mainIs_of {P : Program} {w : String} {b : Bool} {s : List Char} (hw : w = "harness" ∧ b = true ∨ w = "ownmain" ∧ b = false) (h : (wordsSigns P.initOrder.toList).take 2 = [w.toList, s]) (hs : isSumSigns s = true) : P.mainIs = some (b, s) := by
  unfold Program.mainIs
  generalize wordsSigns P.initOrder.toList = L at h
  match L, h with
  | x :: y :: rest, h =>
    obtain ⟨rfl, rfl⟩ : x = w.toList ∧ y = s := by simpa using h
    rcases hw with ⟨rfl, rfl⟩ | ⟨rfl, rfl⟩
    · simp [hs]
    · simp [hs]
theorem headLifts_of {P : Program} (h : (behindMainWord (wordsSigns P.initOrder.toList)).head? = some "cut".toList) : P.headLifts = [] := by
  unfold Program.headLifts
  generalize behindMainWord (wordsSigns P.initOrder.toList) = L at h
  match L, h with
  | c :: rest, h =>
    have hc : c = "cut".toList := by simpa using h
    subst hc
    have hs : stripLifts liftWords ("cut".toList :: rest) = ([], "cut".toList :: rest) := strip_none _ _ _ (by decide +kernel)
    simp only [hs]
    simp
theorem make_of {P : Program} (h : (behindMainWord (wordsSigns P.initOrder.toList)).head? = some "cut".toList) : P.make = some .cut := by
  unfold Program.make
  generalize behindMainWord (wordsSigns P.initOrder.toList) = L at h
  match L, h with
  | c :: rest, h =>
    have hc : c = "cut".toList := by simpa using h
    subst hc
    simp
theorem liftsFinal_of {P : Program} (h : (behindMainWord (wordsSigns P.initOrder.toList)).head? = some "cut".toList) : P.liftsFinal = false := by
  unfold Program.liftsFinal
  rw [headLifts_of h]
  generalize behindMainWord (wordsSigns P.initOrder.toList) = L at h
  match L, h with
  | c :: rest, h =>
    have hc : c = "cut".toList := by simpa using h
    subst hc
    simp
theorem headTwo : (wordsSigns (headSigns.map Char.ofNat)).take 2 = ["harness".toList, "ec3248b476694358dccdf1849e55ec1de82cf91cb0dd8e9ce94e2d7d5cb71893".toList] := by kernel_rfl
theorem sumOk : isSumSigns "ec3248b476694358dccdf1849e55ec1de82cf91cb0dd8e9ce94e2d7d5cb71893".toList = true := by kernel_rfl
theorem mainIs : Tryf.prog.mainIs = some (true, "ec3248b476694358dccdf1849e55ec1de82cf91cb0dd8e9ce94e2d7d5cb71893".toList) := mainIs_of (w := "harness") (by decide +kernel) (by rw [initList]; exact headTwo) sumOk
theorem make : Tryf.prog.make = some .cut := make_of (by rw [initList]; exact headWord)
theorem liftsFinal : Tryf.prog.liftsFinal = false := liftsFinal_of (by rw [initList]; exact headWord)
end Go.Proofs.YtobnmgnnidhfkaaFmt
