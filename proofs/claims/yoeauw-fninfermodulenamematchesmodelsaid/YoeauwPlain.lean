/-
  THE PLAIN FUNCTIONS, no Go in sight: which name the two lists of entries give.
-/
import Derived.Laws.Strings
namespace Go.Proofs.Yoeauw

/-- Is it the key's text? (spelt as the walk spells Go's '==' on strings) -/
def isKey (s : ByteArray) : Bool := s.toList == [95, 95, 109, 111, 100, 117, 108, 101, 95, 110, 97, 109, 101, 95, 95]
theorem isKey_yes {s : ByteArray} (h : isKey s = true) : s.data.toList = [95, 95, 109, 111, 100, 117, 108, 101, 95, 110, 97, 109, 101, 95, 95] := by
  rw [← ByteArray.toList_eq]; exact eq_of_beq h
theorem isKey_no {s : ByteArray} (h : isKey s = false) : s.data.toList ≠ [95, 95, 109, 111, 100, 117, 108, 101, 95, 110, 97, 109, 101, 95, 95] := by
  rw [← ByteArray.toList_eq]; intro e
  unfold isKey at h
  rw [e] at h
  simp at h

/-- The name that the first k string entries give: the last one at the key, else the empty text. -/
def wantTo (sk sv : List ByteArray) : Nat → ByteArray
  | 0 => ⟨#[]⟩
  | k + 1 => if isKey (sk.getD k ⟨#[]⟩) then sv.getD k ⟨#[]⟩ else wantTo sk sv k
/-- Is the key among the first k integer entries? -/
def hitTo (ik : List ByteArray) : Nat → Bool
  | 0 => false
  | k + 1 => isKey (ik.getD k ⟨#[]⟩) || hitTo ik k
def want (sk sv ik : List ByteArray) (n m : Nat) : ByteArray := if hitTo ik m then ⟨#[]⟩ else wantTo sk sv n

theorem wantTo_hit {sk sv : List ByteArray} {k : Nat} {s v : ByteArray} (h : sk[k]? = some s) (hv : sv[k]? = some v) (hs : isKey s = true) : wantTo sk sv (k + 1) = v := by
  simp [wantTo, List.getD_eq_getElem?_getD, h, hv, hs]
theorem wantTo_miss {sk sv : List ByteArray} {k : Nat} {s : ByteArray} (h : sk[k]? = some s) (hs : isKey s = false) : wantTo sk sv (k + 1) = wantTo sk sv k := by
  simp [wantTo, List.getD_eq_getElem?_getD, h, hs]
theorem hitTo_hit {ik : List ByteArray} {k : Nat} {s : ByteArray} (h : ik[k]? = some s) (hs : isKey s = true) : hitTo ik (k + 1) = true := by
  simp [hitTo, List.getD_eq_getElem?_getD, h, hs]
theorem hitTo_miss {ik : List ByteArray} {k : Nat} {s : ByteArray} (h : ik[k]? = some s) (hs : isKey s = false) : hitTo ik (k + 1) = hitTo ik k := by
  simp [hitTo, List.getD_eq_getElem?_getD, h, hs]
theorem hitTo_mono {ik : List ByteArray} {k m : Nat} (hk : k ≤ m) (h : hitTo ik k = true) : hitTo ik m = true := by
  induction m with
  | zero => have : k = 0 := by omega
            subst this; exact h
  | succ m ih =>
    by_cases e : k = m + 1
    · subst e; exact h
    · simp [hitTo, ih (by omega)]
theorem want_hit {sk sv ik : List ByteArray} {n m : Nat} (h : hitTo ik m = true) : want sk sv ik n m = ⟨#[]⟩ := by simp [want, h]
theorem want_miss {sk sv ik : List ByteArray} {n m : Nat} (h : hitTo ik m = false) : want sk sv ik n m = wantTo sk sv n := by simp [want, h]

end Go.Proofs.Yoeauw
