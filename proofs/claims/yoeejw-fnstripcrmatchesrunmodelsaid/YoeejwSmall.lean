/-
  THE CONTRACTS OF THE SMALL FUNCTIONS: zzBytes_.. (5, 10), zzClone (6), zzSameBytes (8).
-/
import Derived.Test.YoeejwOwn
import Derived.WalkSpells
import Derived.Deep.QuietTactic
import Derived.BigQuiet
namespace Go.Proofs.Yoeejw
open Go.RowKit

/-! ### zzBytes_.. -/
theorem bytes5_yes (a : Option Addr) (n c : Nat) (cm : Bool) (w : World) (h : n ≤ 1048576) :
    Calls Eejg.prog 5 #[.slice a n c, .bool cm] w fun e w' => e = .returned (.bool true) ∧ w' = w := by
  go_enter Eejg.func5, Eejg.ntmps5
  go_wp2
  go_ret
  exact ⟨rfl, rfl⟩

theorem bytes5_no (a : Option Addr) (n c : Nat) (cm : Bool) (w : World) (h : 1048576 < n) :
    Calls Eejg.prog 5 #[.slice a n c, .bool cm] w fun e w' => e = .returned (.bool false) ∧ w' = w := by
  go_enter Eejg.func5, Eejg.ntmps5
  go_wp2
  go_ret
  exact ⟨rfl, rfl⟩

theorem bytes10_yes (a : Option Addr) (n c : Nat) (cm : Bool) (w : World) (h : n ≤ 1048576) :
    Calls Eejg.prog 10 #[.slice a n c, .bool cm] w fun e w' => e = .returned (.bool true) ∧ w' = w := by
  go_enter Eejg.func10, Eejg.ntmps10
  go_wp2
  go_ret
  exact ⟨rfl, rfl⟩

theorem bytes10_no (a : Option Addr) (n c : Nat) (cm : Bool) (w : World) (h : 1048576 < n) :
    Calls Eejg.prog 10 #[.slice a n c, .bool cm] w fun e w' => e = .returned (.bool false) ∧ w' = w := by
  go_enter Eejg.func10, Eejg.ntmps10
  go_wp2
  go_ret
  exact ⟨rfl, rfl⟩

/-! ### zzClone -/
theorem take_snoc (l : List Int) (k : Nat) (h : k < l.length) : l.take (k + 1) = l.take k ++ [l.getD k 0] := by
  rw [List.take_succ_eq_append_getElem h]; simp [h]

theorem clone_nil (w : World) :
    Calls Eejg.prog 6 #[.slice none 0 0] w fun e w' => e = .returned (.slice none 0 0) ∧ w' = w := by
  have hq : ∀ (w : World) (a : Option Addr) (n c n' c' : Nat), (binOp .eql 22 (.slice a n c) (.slice none n' c')).run Eejg.prog w = .ok (.bool a.isNone) w := fun w a n c n' c' => Lib.run_eql_slice_nil w _ _ a n c n' c' Eejg.underlying22
  go_enter Eejg.func6, Eejg.ntmps6
  go_wp2
  go_ret
  exact ⟨rfl, rfl⟩

set_option maxHeartbeats 400000 in
/-- A slice that is not nil: a new row of the same bytes. -/
theorem clone_any (b o cap : Nat) (l : List Int) (w : World) (hl : l.length ≤ 65536) (hb : b < w.heap.size) (hc : Lies w b o l) :
    Calls Eejg.prog 6 #[.slice (some ⟨b, o, none⟩) l.length cap] w fun e w' => e = .returned (.slice (some ⟨w.heap.size, 0, none⟩) l.length l.length) ∧ Lies w' w.heap.size 0 l ∧ w.heap.size < w'.heap.size ∧ Below w.heap.size w w' := by
  have hq : ∀ (w : World) (a : Option Addr) (n c n' c' : Nat), (binOp .eql 22 (.slice a n c) (.slice none n' c')).run Eejg.prog w = .ok (.bool a.isNone) w := fun w a n c n' c' => Lib.run_eql_slice_nil w _ _ a n c n' c' Eejg.underlying22
  obtain ⟨i0, hi, hz0, hz1, hz2⟩ := info_parts Eejg.info5
  obtain ⟨n, hn⟩ : ∃ n, n = l.length := ⟨_, rfl⟩
  rw [← hn] at hl ⊢
  have HN : Hid (n = l.length) := hn
  have HC : Hid (Lies w b o l) := hc
  clear hn hc
  go_enter Eejg.func6, Eejg.ntmps6
  go_wp2_with (at_make; refine wpList_make_full _ rfl _ _ 22 rfl w.heap.size 5 i0 (.int .u8 0) 1 Eejg.underlying22 hi hz0 hz1 _ _ _ _ n rfl rfl rfl rfl ?b2 ?b3 (Nat.le_refl _) ?_)
  case b2 => rw [hz2]; omega
  case b3 => unfold maxLen; omega
  intro w0 hown0 hgrow0
  rw [made_zeros] at hown0
  have hbel0 : Below w.heap.size w w0 := (Below.refl _ _).grown hgrow0 (Nat.le_refl _) (fun k h => by cases h)
  go_wp2
  go_loopw [4] (fun i wr => ∃ (k : Nat) (rest : List Int), k ≤ n ∧ i = .int .i64 k ∧ wr.ownsRow w.heap.size 5 1 (.slice (some ⟨w.heap.size, 0, none⟩) n n) n ((l.take k ++ rest).map (Value.int .u8)) ∧ Below w.heap.size w wr)
    (fun i _ => n - (intOf i).toNat)
  case atStart => exact ⟨0, _, Nat.zero_le _, rfl, hown0, hbel0⟩
  case round =>
    obtain ⟨k, rest, hk, rfl, hown, hnx⟩ := hrel
    clear hown0 hgrow0 hbel0
    by_cases hlt : k < n
    · obtain ⟨v, hv⟩ : ∃ v, v = l.getD k 0 := ⟨_, rfl⟩
      have hcx : wr.cell? ⟨b, o + k, none⟩ = some (.int .u8 v) := by rw [hv]; exact (hnx.cell (by exact hb)).trans (HC.out k (by rw [← HN.out]; exact hlt))
      have hfz : wr.frozen? ⟨w.heap.size, k, none⟩ = false := hown.frozenAt k
      obtain ⟨u, hu⟩ := own_some hown k hlt
      have HV : Hid (v = l.getD k 0) := hv
      clear hv
      go_wp2
      go_roundw
      case rel =>
        have ho := own_put v hown (by have := HN.out; simp; omega) hlt
        have ht : l.take (k + 1) = l.take k ++ [v] := by rw [HV.out]; exact take_snoc l k (by have := HN.out; omega)
        exact ⟨k + 1, rest.tail, by omega, by go_num, by rw [ht]; exact ho.1, hnx.grown ho.2 hnx.size (fun k hk => by cases hk; exact Nat.le_refl _)⟩
      case measure => simp [intOf]; omega
    · go_wp2
      go_ret
      have ht : l.take k = l := List.take_of_length_le (by have := HN.out; omega)
      rw [ht] at hown
      exact ⟨rfl, own_lies hown, own_lt hown, hnx⟩

/-- An empty slice that is not nil, wherever it points. -/
theorem clone_empty (x : Addr) (cap : Nat) (w : World) :
    Calls Eejg.prog 6 #[.slice (some x) 0 cap] w fun e w' => e = .returned (.slice (some ⟨w.heap.size, 0, none⟩) 0 0) ∧ w.heap.size < w'.heap.size ∧ Below w.heap.size w w' := by
  have hq : ∀ (w : World) (a : Option Addr) (n c n' c' : Nat), (binOp .eql 22 (.slice a n c) (.slice none n' c')).run Eejg.prog w = .ok (.bool a.isNone) w := fun w a n c n' c' => Lib.run_eql_slice_nil w _ _ a n c n' c' Eejg.underlying22
  obtain ⟨i0, hi, hz0, hz1, hz2⟩ := info_parts Eejg.info5
  go_enter Eejg.func6, Eejg.ntmps6
  go_wp2_with (at_make; refine wpList_make_full _ rfl _ _ 22 rfl w.heap.size 5 i0 (.int .u8 0) 1 Eejg.underlying22 hi hz0 hz1 _ _ _ _ 0 rfl rfl rfl rfl ?b2 ?b3 (Nat.le_refl _) ?_)
  case b2 => rw [hz2]; omega
  case b3 => unfold maxLen; omega
  intro w0 hown0 hgrow0
  have hbel0 : Below w.heap.size w w0 := (Below.refl _ _).grown hgrow0 (Nat.le_refl _) (fun k h => by cases h)
  have hlt0 : w.heap.size < w0.heap.size := own_lt hown0
  clear hown0 hgrow0
  go_wp2
  refine wp_loop_rounds 1 ?_
  rw [rounds_succ]
  go_wp2
  go_ret
  exact ⟨rfl, hlt0, hbel0⟩

/-- Whatever slice that is not nil: what the law's own walk is told of it. -/
theorem clone_some (x : Addr) (cap : Nat) (l : List Int) (w : World) (hl : l.length ≤ 65536) (hc : ∀ i, i < l.length → w.cell? (x.add i) = some (.int .u8 (l.getD i 0))) :
    Calls Eejg.prog 6 #[.slice (some x) l.length cap] w fun e w' => e = .returned (.slice (some ⟨w.heap.size, 0, none⟩) l.length l.length) ∧ Lies w' w.heap.size 0 l ∧ w.heap.size < w'.heap.size ∧ Below w.heap.size w w' := by
  by_cases h0 : l.length = 0
  · obtain rfl : l = [] := List.eq_nil_of_length_eq_zero h0
    refine (clone_empty x cap w).mono ?_
    rintro e w' ⟨rfl, h1, h2⟩
    exact ⟨rfl, fun i hi => absurd hi (Nat.not_lt_zero i), h1, h2⟩
  · obtain ⟨b, o, spot⟩ := x
    have hspot : spot = none := by simpa [Addr.add] using World.cell?_spot (hc 0 (by omega))
    subst hspot
    have hc' : Lies w b o l := fun j hj => by rw [← WideShapes.add_plain]; exact hc j hj
    exact clone_any b o cap l w hl (World.block_lt_of_cell? w _ (hc' 0 (by omega))) hc'

/-! ### zzSameBytes -/
set_option maxHeartbeats 400000 in
/-- Two rows of the same bytes are the same. -/
theorem same_any (b1 o1 c1 b2 o2 c2 : Nat) (l : List Int) (w : World) (hl : l.length ≤ 65536) (h1 : Lies w b1 o1 l) (h2 : Lies w b2 o2 l) :
    Calls Eejg.prog 8 #[.slice (some ⟨b1, o1, none⟩) l.length c1, .slice (some ⟨b2, o2, none⟩) l.length c2] w fun e w' => e = .returned (.bool true) ∧ Below w.heap.size w w' := by
  obtain ⟨n, hn⟩ : ∃ n, n = l.length := ⟨_, rfl⟩
  rw [← hn] at hl ⊢
  have HN : Hid (n = l.length) := hn
  have H1 : Hid (Lies w b1 o1 l) := h1
  have H2 : Hid (Lies w b2 o2 l) := h2
  clear hn h1 h2
  go_enter Eejg.func8, Eejg.ntmps8
  go_wp2
  go_loopw [5] (fun i wr => ∃ (k m : Nat), k ≤ n ∧ i = .int .i64 k ∧ wr = w.drewN m) (fun i _ => n - (intOf i).toNat)
  case atStart => exact ⟨0, 0, Nat.zero_le _, rfl, rfl⟩
  case round =>
    obtain ⟨k, m, hk, rfl, rfl⟩ := hrel
    by_cases hlt : k < n
    · obtain ⟨v, hv⟩ : ∃ v, v = l.getD k 0 := ⟨_, rfl⟩
      have hc1 : w.cell? ⟨b1, o1 + k, none⟩ = some (.int .u8 v) := by rw [hv]; exact H1.out k (by rw [← HN.out]; exact hlt)
      have hc2 : w.cell? ⟨b2, o2 + k, none⟩ = some (.int .u8 v) := by rw [hv]; exact H2.out k (by rw [← HN.out]; exact hlt)
      clear hv
      have hi0 : (k : Int) < (n : Int) := by omega
      go_wp2
      go_quiet (fail)
      go_wp2
      go_roundw
      case rel => exact ⟨k + 1, _, by omega, by go_num, rfl⟩
      case measure => simp [intOf]; omega
    · go_wp2
      go_ret
      exact ⟨rfl, rfl, rfl, rfl, Nat.le_refl _, fun _ _ => rfl⟩

end Go.Proofs.Yoeejw
