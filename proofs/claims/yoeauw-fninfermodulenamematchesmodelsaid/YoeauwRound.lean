/-
  THE WALKS OF FnAsImmutableMapNameRoundTrips (4) AND OF WHAT SHE CALLS: zzBytes (11), AsImmutableMap (12) of a module without attributes.
-/
import Derived.Test.YoeauwInfer
import Derived.Maps.OwnSet
namespace Go.Proofs.Yoeauw
open Go.RowKit Go.Maps

/-- HOW AN ELEMENT READS, FOR THE PROOF ALONE: as itself. -/
def asIs (v : Value) : Option (DataW Value × List MemPlace) := some (.held v, [])

theorem law9 : Keyed Eaug.prog 9 := string_keyed Eaug.underlying9
theorem zero44 (w : World) : (zeroValue 44).run Eaug.prog w = .ok .nilIface w := by kernel_rfl
/-- The key, as a literal. -/
def kl : Lit := .string [95, 95, 109, 111, 100, 117, 108, 101, 95, 110, 97, 109, 101, 95, 95]
theorem hkl : keyOf Eaug.prog 9 (.string ⟨#[95, 95, 109, 111, 100, 117, 108, 101, 95, 110, 97, 109, 101, 95, 95]⟩) = some kl :=
  WideMaps.keyOf_string_mk Eaug.underlying9 (by decide)

/-- What the map's datum says at the key is what the look-up gives. -/
theorem look_of {w : World} {B n : Nat} {D : DataW Value} (h : w.ownsMap Eaug.prog 9 asIs B n D) {v : Value} (hD : D.atKey kl (.held .nilIface) = .held v) : look B w v := by
  obtain ⟨v', ps, hrun, hv⟩ := h.lookup law9 Eaug.underlying33 (zero44 w) (zd := .held .nilIface) (zp := []) rfl hkl
  simp only [asIs, Option.some.injEq, Prod.mk.injEq] at hv
  rw [hD] at hv
  injection hv.1 with e
  subst e
  exact hrun

theorem isKl : WideAt.IsKeyLit kl := by unfold kl; trivial

/-- The end of AsImmutableMap: the map that was written at the key, its holder laid behind it. -/
theorem asmap_end {w w1 : World} {s : ByteArray}
    (hown1 : w1.ownsMap Eaug.prog 9 asIs w.heap.size (0 + 1) ((DataW.map []).put kl (.held (.iface 37 (.pointer (some ⟨w.heap.size + 1 + 1, 0, none⟩))))))
    (hgrow1 : (((w.alloc (.map #[] 0)).alloc (.mapIter none 0 #[] 0)).alloc (.cells #[.string s, .slice none 0 0] 42)).grownBy w1 (some w.heap.size)) :
    (w1.alloc (.cells #[.map (some w.heap.size)] 49)).cell? ⟨w1.heap.size, 0, none⟩ = some (.map (some w.heap.size)) ∧ Named w.heap.size (w1.alloc (.cells #[.map (some w.heap.size)] 49)) s ∧ Below w.heap.size w (w1.alloc (.cells #[.map (some w.heap.size)] 49)) := by
  have hsz : w.heap.size + 1 + 1 + 1 ≤ w1.heap.size := by have := hgrow1.size; simpa using this
  have hbel : Below w.heap.size w w1 :=
    (((((Below.refl _ _).alloc (Nat.le_refl _) _).alloc (by simp) _).alloc (by simp; omega) _).grown hgrow1 (by simp; omega) (fun k hk => by cases hk; exact Nat.le_refl _))
  refine ⟨by simp, .inl ⟨w.heap.size + 1 + 1, look_of (hown1.alloc _) (atKey_put_same isMap_empty isKl _ _), ?_⟩, hbel.alloc (by omega) _⟩
  rw [World.cell?_alloc_past (w := w1) (n := w.heap.size + 1 + 1) (hn := by omega), World.cell?_of_block (hgrow1.block (w.heap.size + 1 + 1) (by simp) (by simp; omega))]
  have e : w.heap.size + 1 + 1 = ((w.alloc (.map #[] 0)).alloc (.mapIter none 0 #[] 0)).heap.size := by simp
  rw [e, World.cell?_alloc_new]
  rfl

set_option maxHeartbeats 400000 in
theorem asmap (b : Nat) (s : ByteArray) (w : World) (c0 : w.cell? ⟨b, 0, none⟩ = some (.map none)) (hb : b < w.heap.size) :
    Calls Eaug.prog 12 #[.pointer (some ⟨b, 0, none⟩), .string s] w fun e w' => ∃ mb B, e = .returned (.pointer (some ⟨mb, 0, none⟩)) ∧ w'.cell? ⟨mb, 0, none⟩ = some (.map (some B)) ∧ Named B w' s ∧ Below w.heap.size w w' := by
  have hmm : ∀ (v : Int) (w1 : World), (Instr.makeMap 33 (some (.int .i64 v))).run Eaug.prog w1 = .ok (.map (some w1.heap.size)) (w1.alloc (.map #[] 0)) := fun v w1 => by
    simp [Instr.makeMap, run_underlying Eaug.underlying33, asInt, asIntOf]
  have hrg := run_range_nilMap (P := Eaug.prog) (w.alloc (.map #[] 0)) 33 9 44 Eaug.underlying33
  have hnx : ∀ ty, (Instr.next (.pointer (some ⟨(w.alloc (.map #[] 0)).heap.size, 0, none⟩)) false ty).run Eaug.prog ((w.alloc (.map #[] 0)).alloc (.mapIter none 0 #[] 0)) = _ := fun ty => run_next_nilMap _ ty 0 0 #[]
  have e1 : (w.alloc (.map #[] 0)).heap.size = w.heap.size + 1 := by simp
  rw [e1] at hrg hnx
  have hown : ((((w.alloc (.map #[] 0)).alloc (.mapIter none 0 #[] 0)).alloc (.cells #[.string s, .slice none 0 0] 42))).ownsMap Eaug.prog 9 asIs w.heap.size 0 (.map []) := ((World.ownsMap_made w Eaug.prog 9 asIs).alloc _).alloc _
  go_enter Eaug.func12, Eaug.ntmps12
  go_wp2
  refine wp_loop_rounds 1 ?_
  rw [rounds_succ]
  go_wp2_with (at_mapUpdate; refine wpList_mapUpdate_own _ rfl _ _ _ 33 rfl 9 44 law9 Eaug.underlying33 _ w.heap.size 0 _ rfl hown (by unfold maxLen; omega) _ _ _ rfl rfl hkl (.held (.iface 37 (.pointer (some ⟨w.heap.size + 1 + 1, 0, none⟩)))) [] rfl ?_; intro w1 hown1 hgrow1)
  have hend := asmap_end hown1 hgrow1
  go_ret
  exact ⟨_, _, rfl, hend⟩

/-- zzBytes: she says whether the text has at most 2^20 bytes. -/
theorem bytes_yes (s : ByteArray) (w : World) (hs : s.size ≤ 1048576) :
    Calls Eaug.prog 11 #[.string s] w fun e w' => e = .returned (.bool true) ∧ w' = w := by
  go_enter Eaug.func11, Eaug.ntmps11
  go_wp2
  go_ret
  exact ⟨rfl, rfl⟩
theorem bytes_no (s : ByteArray) (w : World) (hs : 1048576 < s.size) :
    Calls Eaug.prog 11 #[.string s] w fun e w' => e = .returned (.bool false) ∧ w' = w := by
  go_enter Eaug.func11, Eaug.ntmps11
  go_wp2
  go_ret
  exact ⟨rfl, rfl⟩

theorem round_no (s : ByteArray) (w : World) (hs : 1048576 < s.size) :
    Calls Eaug.prog 4 #[.string s] w fun e w' => e = .returned (.bool true) ∧ Below w.heap.size w w' := by
  go_enter Eaug.func4, Eaug.ntmps4
  go_wp2_with (go_at_call 11; refine (bytes_no s _ hs).mono ?_; rintro e w' ⟨rfl, rfl⟩)
  go_ret
  exact ⟨rfl, Below.refl _ _⟩

set_option maxHeartbeats 400000 in
theorem round_yes (s : ByteArray) (w : World) (hs : s.size ≤ 1048576) :
    Calls Eaug.prog 4 #[.string s] w fun e w' => e = .returned (.bool true) ∧ Below w.heap.size w w' := by
  have hc : (w.alloc (.cells #[.map none] 35)).cell? ⟨w.heap.size, 0, none⟩ = some (.map none) := by simp
  have hlt : w.heap.size < (w.alloc (.cells #[.map none] 35)).heap.size := by simp
  go_enter Eaug.func4, Eaug.ntmps4
  go_wp2_with (go_at_call 11; refine (bytes_yes s _ hs).mono ?_; rintro e w' ⟨rfl, rfl⟩)
  refine (asmap _ s _ hc hlt).mono ?_
  rintro e w1 ⟨mb, B, rfl, hm, hn, hbel⟩
  clear hc hlt
  go_wp2_with (go_at_call 8; refine (zzinfer_named mb B s _ hm hn).mono ?_; rintro e w2 ⟨rfl, rfl⟩)
  go_ret
  exact ⟨by simp, ((Below.refl _ _).alloc (Nat.le_refl _) _).trans (hbel.mono (by simp))⟩

end Go.Proofs.Yoeauw
