/-
  WHAT THE ROUNDS OF ZZnewMixedImmutableMap (9) DO TO THE MAP: the relations of her two loops, and their steps, outside the walk.
-/
import Derived.Test.YoeauwBase
import Derived.Test.YoeauwPlain
import Derived.Test.YoeauwRound
namespace Go.Proofs.Yoeauw
open Go.RowKit Go.Maps

/-- 'm[s] = v' in the world in which the new block (c, t) has been laid: the map reads as it must; the old cells read as they did; the new one reads. -/
theorem put_step {wr : World} {B n : Nat} {D : DataW Value} (c : Array Value) (t : TypeId) (v : Value) {s : ByteArray} (hown : wr.ownsMap Eaug.prog 9 asIs B n D) (hn : n < maxLen) (hl : s.size ≤ maxLen) :
    ∃ w2, (Instr.mapUpdate 33 (.map (some B)) (.string s) v).run Eaug.prog ((wr.alloc (.cells c t)).drew) = .ok () w2 ∧ w2.ownsMap Eaug.prog 9 asIs B (n + 1) (D.put (.string s.data.toList) (.held v)) ∧
      (wr.alloc (.cells c t)).drew.grownBy w2 (some B) ∧ (∀ q u, wr.cell? ⟨q, 0, none⟩ = some u → w2.cell? ⟨q, 0, none⟩ = some u) ∧ ∀ u, c[0]? = some u → w2.cell? ⟨wr.heap.size, 0, none⟩ = some u := by
  have hkey := WideMaps.keyOf_string_mk Eaug.underlying9 hl
  obtain ⟨w2, hrun, hown2, hg⟩ := ((hown.alloc (.cells c t)).drew).update law9 Eaug.underlying33 hn hkey (val := v) (d := .held v) (ps := []) rfl
  have hlt := hown.lt
  have hold : ∀ q u, q ≠ B → q < wr.heap.size + 1 → (wr.alloc (.cells c t)).cell? ⟨q, 0, none⟩ = some u → w2.cell? ⟨q, 0, none⟩ = some u := fun q u hq hlq hv => by
    rw [World.cell?_of_block (w := (wr.alloc (.cells c t)).drew) (hg.block q (by simpa using hlq) (by simpa using hq))]; exact hv
  refine ⟨w2, hrun, hown2, hg, fun q u hq => ?_, fun u hu => hold _ _ (by omega) (by omega) (by simpa using hu)⟩
  have hqs : q < wr.heap.size := by
    apply Classical.byContradiction
    intro h
    have : wr.heap[q]? = none := by simp; omega
    simp [World.cell?, this] at hq
  refine hold q u ?_ (by omega) ?_
  · intro e; subst e
    obtain ⟨es, clock, hb, _⟩ := hown
    simp [World.cell?, hb] at hq
  · rw [World.cell?_alloc_past (w := wr) (n := q) (hn := hqs)]; exact hq

/-- What the map says at the key behind string entries alone: nothing (and the name is empty), or a *String that holds the name. -/
def St1 (wr : World) (D : DataW Value) (s : ByteArray) : Prop :=
  (D.atKey kl (.held .nilIface) = .held .nilIface ∧ s = ⟨#[]⟩) ∨ ∃ q, D.atKey kl (.held .nilIface) = .held (.iface 37 (.pointer (some ⟨q, 0, none⟩))) ∧ wr.cell? ⟨q, 0, none⟩ = some (.string s)

/-- The first loop's relation. -/
def Rel1 (w : World) (s0 s1 : List ByteArray) (k : Nat) (wr : World) : Prop :=
  ∃ D, wr.ownsMap Eaug.prog 9 asIs w.heap.size k D ∧ St1 wr D (wantTo s0 s1 k) ∧ Below w.heap.size w wr

theorem kl_ne {s : ByteArray} (h : isKey s = false) : kl ≠ .string s.data.toList := fun e => isKey_no h (Lit.string.inj e).symm
theorem kl_eq {s : ByteArray} (h : isKey s = true) : Lit.string s.data.toList = kl := by rw [isKey_yes h]; rfl

theorem Rel1.start (w : World) (s0 s1 : List ByteArray) : Rel1 w s0 s1 0 (w.alloc (.map #[] 0)) :=
  ⟨.map [], World.ownsMap_made _ _ _ _, .inl ⟨rfl, rfl⟩, (Below.refl _ _).alloc (Nat.le_refl _) _⟩

theorem Rel1.step {w wr : World} {s0 s1 : List ByteArray} {k : Nat} {s t : ByteArray} (h : Rel1 w s0 s1 k wr) (hk : k ≤ 65536) (hs : s0[k]? = some s) (ht : s1[k]? = some t) (hl : s.size ≤ maxLen) :
    ∃ w2, (Instr.mapUpdate 33 (.map (some w.heap.size)) (.string s) (.iface 37 (.pointer (some ⟨wr.heap.size, 0, none⟩)))).run Eaug.prog ((wr.alloc (.cells #[.string t, .slice none 0 0] 42)).drew) = .ok () w2 ∧ Rel1 w s0 s1 (k + 1) w2 := by
  obtain ⟨D, hown, hst, hbel⟩ := h
  obtain ⟨w2, hrun, hown2, hg, hold, hnew⟩ := put_step (s := s) #[.string t, .slice none 0 0] 42 (.iface 37 (.pointer (some ⟨wr.heap.size, 0, none⟩))) hown (by unfold maxLen; omega) hl
  refine ⟨w2, hrun, _, hown2, ?_, (hbel.alloc hbel.size _).drew.grown hg (by have := hbel.size; simp; omega) (fun j hj => by cases hj; exact Nat.le_refl _)⟩
  cases hi : isKey s
  · rw [wantTo_miss hs hi]
    rcases hst with ⟨h1, h2⟩ | ⟨q, h1, h2⟩
    · exact .inl ⟨by rw [atKey_put_other (kl_ne hi)]; exact h1, h2⟩
    · exact .inr ⟨q, by rw [atKey_put_other (kl_ne hi)]; exact h1, hold q _ h2⟩
  · rw [wantTo_hit hs ht hi, kl_eq hi]
    exact .inr ⟨wr.heap.size, atKey_put_same hown.isMap isKl _ _, hnew _ rfl⟩

/-- The second loop's relation: an *Int at the key as soon as an integer entry has met it. -/
def Rel2 (w : World) (s0 s1 s2 : List ByteArray) (n k : Nat) (wr : World) : Prop :=
  ∃ D, wr.ownsMap Eaug.prog 9 asIs w.heap.size (n + k) D ∧ (if hitTo s2 k then ∃ v, D.atKey kl (.held .nilIface) = .held (.iface 45 v) else St1 wr D (wantTo s0 s1 n)) ∧ Below w.heap.size w wr

theorem Rel2.start {w wr : World} {s0 s1 : List ByteArray} (s2 : List ByteArray) {n : Nat} (h : Rel1 w s0 s1 n wr) : Rel2 w s0 s1 s2 n 0 wr := h

theorem Rel2.step {w wr : World} {s0 s1 s2 : List ByteArray} {n k : Nat} {s : ByteArray} {z : Int} (h : Rel2 w s0 s1 s2 n k wr) (hn : n ≤ 65536) (hk : k ≤ 65536) (hs : s2[k]? = some s) (hl : s.size ≤ maxLen) :
    ∃ w2, (Instr.mapUpdate 33 (.map (some w.heap.size)) (.string s) (.iface 45 (.pointer (some ⟨wr.heap.size, 0, none⟩)))).run Eaug.prog ((wr.alloc (.cells #[.int .i64 z] 47)).drew) = .ok () w2 ∧ Rel2 w s0 s1 s2 n (k + 1) w2 := by
  obtain ⟨D, hown, hst, hbel⟩ := h
  obtain ⟨w2, hrun, hown2, hg, hold, _⟩ := put_step (s := s) #[.int .i64 z] 47 (.iface 45 (.pointer (some ⟨wr.heap.size, 0, none⟩))) hown (by unfold maxLen; omega) hl
  refine ⟨w2, hrun, _, hown2, ?_, (hbel.alloc hbel.size _).drew.grown hg (by have := hbel.size; simp; omega) (fun j hj => by cases hj; exact Nat.le_refl _)⟩
  cases hi : isKey s
  · rw [hitTo_miss hs hi]
    split at hst
    · rename_i hh
      rw [if_pos hh]
      obtain ⟨v, h1⟩ := hst
      exact ⟨v, by rw [atKey_put_other (kl_ne hi)]; exact h1⟩
    · rename_i hh
      rw [if_neg hh]
      rcases hst with ⟨h1, h2⟩ | ⟨q, h1, h2⟩
      · exact .inl ⟨by rw [atKey_put_other (kl_ne hi)]; exact h1, h2⟩
      · exact .inr ⟨q, by rw [atKey_put_other (kl_ne hi)]; exact h1, hold q _ h2⟩
  · rw [hitTo_hit hs hi, if_pos rfl, kl_eq hi]
    exact ⟨_, atKey_put_same hown.isMap isKl _ _⟩

/-- THE END: the holder is laid; the map names 'want'. -/
theorem Rel2.done {w wr : World} {s0 s1 s2 : List ByteArray} {n m : Nat} (h : Rel2 w s0 s1 s2 n m wr) :
    (wr.alloc (.cells #[.map (some w.heap.size)] 49)).cell? ⟨wr.heap.size, 0, none⟩ = some (.map (some w.heap.size)) ∧ Named w.heap.size (wr.alloc (.cells #[.map (some w.heap.size)] 49)) (want s0 s1 s2 n m) ∧ Below w.heap.size w (wr.alloc (.cells #[.map (some w.heap.size)] 49)) := by
  obtain ⟨D, hown, hst, hbel⟩ := h
  refine ⟨by simp, ?_, hbel.alloc hbel.size _⟩
  cases hh : hitTo s2 m
  · rw [want_miss hh]
    rw [hh] at hst
    rcases hst with ⟨h1, h2⟩ | ⟨q, h1, h2⟩
    · exact .inr (.inr ⟨look_of (hown.alloc _) h1, h2⟩)
    · exact .inl ⟨q, look_of (hown.alloc _) h1, cell_later ((Below.refl _ _).alloc (Nat.le_refl _) _) h2⟩
  · rw [want_hit hh]
    rw [hh, if_pos rfl] at hst
    obtain ⟨v, h1⟩ := hst
    exact .inr (.inl ⟨⟨v, look_of (hown.alloc _) h1⟩, rfl⟩)

end Go.Proofs.Yoeauw
