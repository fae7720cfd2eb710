/-
  THE WALK OF THE SECOND LAW (4), out of the contracts: StripCR is idempotent, never lengthens, and its two modes differ in CRs alone.
-/
import Derived.Test.YoeejwStrip
namespace Go.Proofs.Yoeejw
open Go.RowKit Plain

theorem strip_again (b o cap : Nat) (l : List Int) (cm : Bool) (w : World) (hl : (strip cm l).length ≤ 65536) (hb : b < w.heap.size) (hc : Lies w b o (strip cm l)) :
    Calls Eejg.prog 7 #[.slice (some ⟨b, o, none⟩) (strip cm l).length cap, .bool cm] w fun e w' => e = .returned (.slice (some ⟨w.heap.size, 0, none⟩) (strip cm l).length (strip cm l).length) ∧ Lies w' w.heap.size 0 (strip cm l) ∧ w.heap.size < w'.heap.size ∧ Below w.heap.size w w' := by
  have h := strip_any b o cap (strip cm l) cm w hl hb hc
  rw [strip_idem] at h
  exact h

theorem strip_plain (b o cap : Nat) (l : List Int) (cm : Bool) (w : World) (hl : (strip cm l).length ≤ 65536) (hb : b < w.heap.size) (hc : Lies w b o (strip cm l)) :
    Calls Eejg.prog 7 #[.slice (some ⟨b, o, none⟩) (strip cm l).length cap, .bool false] w fun e w' => e = .returned (.slice (some ⟨w.heap.size, 0, none⟩) (strip false l).length (strip cm l).length) ∧ Lies w' w.heap.size 0 (strip false l) ∧ w.heap.size < w'.heap.size ∧ Below w.heap.size w w' := by
  have h := strip_any b o cap (strip cm l) false w hl hb hc
  rw [strip_false_strip] at h
  exact h

theorem idem_far (a : Option Addr) (n cap : Nat) (cm : Bool) (w : World) (h : 1048576 < n) :
    Calls Eejg.prog 4 #[.slice a n cap, .bool cm] w fun e w' => e = .returned (.bool true) ∧ Below w.heap.size w w' := by
  go_enter Eejg.func4, Eejg.ntmps4
  go_wp2_with fail
  refine (bytes10_no a n cap cm w h).mono ?_
  rintro e w' ⟨rfl, rfl⟩
  go_wp2_with fail
  go_ret
  exact ⟨rfl, Below.refl _ _⟩

theorem idem_long (a : Option Addr) (n cap : Nat) (cm : Bool) (w : World) (h : n ≤ 1048576) (h2 : 65536 < n) :
    Calls Eejg.prog 4 #[.slice a n cap, .bool cm] w fun e w' => e = .returned (.bool true) ∧ Below w.heap.size w w' := by
  go_enter Eejg.func4, Eejg.ntmps4
  go_wp2_with fail
  refine (bytes10_yes a n cap cm w h).mono ?_
  rintro e w' ⟨rfl, rfl⟩
  go_wp2_with fail
  go_ret
  exact ⟨rfl, Below.refl _ _⟩

set_option maxHeartbeats 400000 in
/-- The nil slice. -/
theorem idem_nil (cm : Bool) (w : World) :
    Calls Eejg.prog 4 #[.slice none 0 0, .bool cm] w fun e w' => e = .returned (.bool true) ∧ Below w.heap.size w w' := by
  go_enter Eejg.func4, Eejg.ntmps4
  go_wp2_with fail
  refine (bytes10_yes none 0 0 cm w (by omega)).mono ?_
  rintro e w' ⟨rfl, rfl⟩
  go_wp2_with fail
  refine (clone_nil w').mono ?_
  rintro e w1 ⟨rfl, rfl⟩
  go_wp2_with fail
  refine (strip_none cm w1).mono ?_
  rintro e w2 ⟨rfl, s2, b2⟩
  go_wp2_with fail
  refine (strip_empty w1.heap.size 0 0 cm w2 s2).mono ?_
  rintro e w3 ⟨rfl, s3, b3⟩
  go_wp2_with fail
  refine (same_empty w1.heap.size 0 0 w2.heap.size 0 0 w3).mono ?_
  rintro e w4 ⟨rfl, b4⟩
  go_wp2_with fail
  refine (strip_empty w1.heap.size 0 0 false w4 (by have := b4.size; omega)).mono ?_
  rintro e w5 ⟨rfl, s5, b5⟩
  go_wp2_with fail
  refine (strip_none false w5).mono ?_
  rintro e w6 ⟨rfl, s6, b6⟩
  go_wp2_with fail
  refine (same_empty w4.heap.size 0 0 w5.heap.size 0 0 w6).mono ?_
  rintro e w7 ⟨rfl, b7⟩
  go_wp2_with fail
  go_ret
  have z4 := b4.size
  exact ⟨rfl, (((((b2.trans (b3.mono (by omega))).trans (b4.mono (by omega))).trans (b5.mono (by omega))).trans (b6.mono (by omega))).trans (b7.mono (by omega)))⟩

set_option maxHeartbeats 800000 in
/-- Behind zzClone, for a slice that is not nil: the rest of the law, out of whatever contract zzClone met there. -/
theorem idem_some (a : Addr) (cap : Nat) (l : List Int) (cm : Bool) (w : World) (hl : l.length ≤ 65536)
    (hcl : Calls Eejg.prog 6 #[.slice (some a) l.length cap] w fun e w' => e = .returned (.slice (some ⟨w.heap.size, 0, none⟩) l.length l.length) ∧ Lies w' w.heap.size 0 l ∧ w.heap.size < w'.heap.size ∧ Below w.heap.size w w') :
    Calls Eejg.prog 4 #[.slice (some a) l.length cap, .bool cm] w fun e w' => e = .returned (.bool true) ∧ Below w.heap.size w w' := by
  have HCL : Hid (Calls Eejg.prog 6 #[.slice (some a) l.length cap] w fun e w' => e = .returned (.slice (some ⟨w.heap.size, 0, none⟩) l.length l.length) ∧ Lies w' w.heap.size 0 l ∧ w.heap.size < w'.heap.size ∧ Below w.heap.size w w') := hcl
  clear hcl
  have hsl := strip_length cm l
  have hsf := strip_length false l
  go_enter Eejg.func4, Eejg.ntmps4
  go_wp2_with fail
  refine (bytes10_yes (some a) l.length cap cm w (by omega)).mono ?_
  rintro e w' ⟨rfl, hw⟩
  rw [hw]
  clear hw w'
  go_wp2_with fail
  refine HCL.out.mono ?_
  rintro e w1 ⟨rfl, l1, s1, b1⟩
  have L1 : Hid (Lies w1 w.heap.size 0 l) := l1
  clear l1 HCL
  go_wp2_with fail
  refine (strip_any w.heap.size 0 l.length l cm w1 hl s1 L1.out).mono ?_
  rintro e w2 ⟨rfl, l2, s2, b2⟩
  have L2 : Hid (Lies w2 w1.heap.size 0 (strip cm l)) := l2
  clear l2
  go_wp2_with fail
  refine (strip_again w1.heap.size 0 l.length l cm w2 (by omega) s2 L2.out).mono ?_
  rintro e w3 ⟨rfl, l3, s3, b3⟩
  have L3 : Hid (Lies w3 w2.heap.size 0 (strip cm l)) := l3
  clear l3
  go_wp2_with fail
  refine (same_any w1.heap.size 0 l.length w2.heap.size 0 (strip cm l).length (strip cm l) w3 (by omega) (L2.out.below b3 s2) L3.out).mono ?_
  rintro e w4 ⟨rfl, b4⟩
  have z4 := b4.size
  go_wp2_with fail
  refine (strip_plain w1.heap.size 0 l.length l cm w4 (by omega) (by omega) ((L2.out.below b3 s2).below b4 (by omega))).mono ?_
  rintro e w5 ⟨rfl, l5, s5, b5⟩
  have L5 : Hid (Lies w5 w4.heap.size 0 (strip false l)) := l5
  clear l5
  go_wp2_with fail
  refine (strip_any w.heap.size 0 l.length l false w5 hl (by omega) ((((L1.out.below b2 s1).below b3 (by omega)).below b4 (by omega)).below b5 (by omega))).mono ?_
  rintro e w6 ⟨rfl, l6, s6, b6⟩
  have L6 : Hid (Lies w6 w5.heap.size 0 (strip false l)) := l6
  clear l6
  go_wp2_with fail
  refine (same_any w4.heap.size 0 (strip cm l).length w5.heap.size 0 l.length (strip false l) w6 (by omega) (L5.out.below b6 s5) L6.out).mono ?_
  rintro e w7 ⟨rfl, b7⟩
  go_wp2_with fail
  go_ret
  exact ⟨rfl, ((((((b1.trans (b2.mono (by omega))).trans (b3.mono (by omega))).trans (b4.mono (by omega))).trans (b5.mono (by omega))).trans (b6.mono (by omega))).trans (b7.mono (by omega)))⟩

end Go.Proofs.Yoeejw
