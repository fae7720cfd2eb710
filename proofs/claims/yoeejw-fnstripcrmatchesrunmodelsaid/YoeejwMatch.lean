/-
  THE WALK OF THE FIRST LAW (3), out of the contracts: StripCR and the model by runs give the same bytes.
-/
import Derived.Test.YoeejwModel
namespace Go.Proofs.Yoeejw
open Go.RowKit Plain

/-- The model at the nil slice: a new, empty row. -/
theorem model_none (cm : Bool) (w : World) :
    Calls Eejg.prog 9 #[.slice none 0 0, .bool cm] w fun e w' => e = .returned (.slice (some ⟨w.heap.size, 0, none⟩) 0 0) ∧ w.heap.size < w'.heap.size ∧ Below w.heap.size w w' := by
  obtain ⟨i0, hi, hz0, hz1, hz2⟩ := info_parts Eejg.info5
  go_enter Eejg.func9, Eejg.ntmps9
  go_wp2_with (at_make; refine wpList_make_own _ rfl _ _ 22 rfl w.heap.size 5 i0 (.int .u8 0) 1 Eejg.underlying22 hi hz0 hz1 _ _ _ 0 rfl rfl rfl ?b2 ?b3 (Nat.le_refl _) ?_)
  case b2 => rw [hz2]; omega
  case b3 => unfold maxLen; omega
  intro w0 hown0 hgrow0
  have hbel0 : Below w.heap.size w w0 := (Below.refl _ _).grown hgrow0 (Nat.le_refl _) (fun k h => by cases h)
  have hlt0 : w.heap.size < w0.heap.size := own_lt hown0
  clear hown0 hgrow0
  go_wp2
  refine wp_loop_rounds 1 ?_
  rw [rounds_succ]
  go_wp2
  go_ret
  exact ⟨rfl, hlt0, hbel0⟩

theorem match_far (a : Option Addr) (n cap : Nat) (cm : Bool) (w : World) (h : 1048576 < n) :
    Calls Eejg.prog 3 #[.slice a n cap, .bool cm] w fun e w' => e = .returned (.bool true) ∧ Below w.heap.size w w' := by
  go_enter Eejg.func3, Eejg.ntmps3
  go_wp2_with fail
  refine (bytes5_no a n cap cm w h).mono ?_
  rintro e w' ⟨rfl, rfl⟩
  go_wp2_with fail
  go_ret
  exact ⟨rfl, Below.refl _ _⟩

theorem match_long (a : Option Addr) (n cap : Nat) (cm : Bool) (w : World) (h : n ≤ 1048576) (h2 : 65536 < n) :
    Calls Eejg.prog 3 #[.slice a n cap, .bool cm] w fun e w' => e = .returned (.bool true) ∧ Below w.heap.size w w' := by
  go_enter Eejg.func3, Eejg.ntmps3
  go_wp2_with fail
  refine (bytes5_yes a n cap cm w h).mono ?_
  rintro e w' ⟨rfl, rfl⟩
  go_wp2_with fail
  go_ret
  exact ⟨rfl, Below.refl _ _⟩

set_option maxHeartbeats 400000 in
/-- The nil slice. -/
theorem match_nil (cm : Bool) (w : World) :
    Calls Eejg.prog 3 #[.slice none 0 0, .bool cm] w fun e w' => e = .returned (.bool true) ∧ Below w.heap.size w w' := by
  go_enter Eejg.func3, Eejg.ntmps3
  go_wp2_with fail
  refine (bytes5_yes none 0 0 cm w (by omega)).mono ?_
  rintro e w' ⟨rfl, rfl⟩
  go_wp2_with fail
  refine (clone_nil w').mono ?_
  rintro e w1 ⟨rfl, rfl⟩
  go_wp2_with fail
  refine (strip_none cm w1).mono ?_
  rintro e w2 ⟨rfl, s2, b2⟩
  go_wp2_with fail
  refine (model_none cm w2).mono ?_
  rintro e w3 ⟨rfl, s3, b3⟩
  go_wp2_with fail
  refine (same_empty w1.heap.size 0 0 w2.heap.size 0 0 w3).mono ?_
  rintro e w4 ⟨rfl, b4⟩
  go_wp2_with fail
  go_ret
  exact ⟨rfl, (b2.trans (b3.mono (by omega))).trans (b4.mono (by omega))⟩

set_option maxHeartbeats 800000 in
/-- A slice that is not nil, out of whatever contract zzClone met there. -/
theorem match_some (a : Addr) (cap : Nat) (l : List Int) (cm : Bool) (w : World) (hl : l.length ≤ 65536)
    (hcl : Calls Eejg.prog 6 #[.slice (some a) l.length cap] w fun e w' => e = .returned (.slice (some ⟨w.heap.size, 0, none⟩) l.length l.length) ∧ Lies w' w.heap.size 0 l ∧ w.heap.size < w'.heap.size ∧ Below w.heap.size w w') :
    Calls Eejg.prog 3 #[.slice (some a) l.length cap, .bool cm] w fun e w' => e = .returned (.bool true) ∧ Below w.heap.size w w' := by
  have HCL : Hid (Calls Eejg.prog 6 #[.slice (some a) l.length cap] w fun e w' => e = .returned (.slice (some ⟨w.heap.size, 0, none⟩) l.length l.length) ∧ Lies w' w.heap.size 0 l ∧ w.heap.size < w'.heap.size ∧ Below w.heap.size w w') := hcl
  clear hcl
  have hsl := strip_length cm l
  go_enter Eejg.func3, Eejg.ntmps3
  go_wp2_with fail
  refine (bytes5_yes (some a) l.length cap cm w (by omega)).mono ?_
  rintro e w' ⟨rfl, hw⟩
  rw [hw]
  clear hw w'
  go_wp2_with fail
  refine HCL.out.mono ?_
  rintro e w1 ⟨rfl, l1, s1, b1⟩
  have L1 : Hid (Lies w1 w.heap.size 0 l) := l1
  clear l1 HCL
  go_wp2_with fail
  refine (strip_any w.heap.size 0 l.length l cm w1 hl s1 L1.out).mono ?_
  rintro e w2 ⟨rfl, l2, s2, b2⟩
  have L2 : Hid (Lies w2 w1.heap.size 0 (strip cm l)) := l2
  clear l2
  go_wp2_with fail
  refine (model_any w.heap.size 0 l.length l cm w2 hl (by omega) (L1.out.below b2 s1)).mono ?_
  rintro e w3 ⟨rfl, l3, s3, b3⟩
  have L3 : Hid (Lies w3 w2.heap.size 0 (strip cm l)) := l3
  clear l3
  go_wp2_with fail
  refine (same_any w1.heap.size 0 l.length w2.heap.size 0 l.length (strip cm l) w3 (by omega) (L2.out.below b3 s2) L3.out).mono ?_
  rintro e w4 ⟨rfl, b4⟩
  go_wp2_with fail
  go_ret
  exact ⟨rfl, ((b1.trans (b2.mono (by omega))).trans (b3.mono (by omega))).trans (b4.mono (by omega))⟩

end Go.Proofs.Yoeejw
