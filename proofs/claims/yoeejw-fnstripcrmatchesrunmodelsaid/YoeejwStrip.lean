/-
  THE CONTRACT OF parser.StripCR (7): whatever the bytes and the mode: a new row that holds 'strip cm l'.
-/
import Derived.Test.YoeejwSmall
namespace Go.Proofs.Yoeejw
open Go.RowKit Plain

/-- What the loop has kept behind k rounds: m bytes of the new row at g. -/
structure Kept (cm : Bool) (l : List Int) (w wr : World) (n k m : Nat) (rest : List Int) : Prop where
  le : m ≤ k
  len : m = (stp cm l k).length
  own : wr.ownsRow w.heap.size 5 1 (.slice (some ⟨w.heap.size, 0, none⟩) n n) n ((stp cm l k ++ rest).map (Value.int .u8))
  bel : Below w.heap.size w wr

theorem Kept.drop {cm : Bool} {l : List Int} {w wr : World} {n k m : Nat} {rest : List Int} (h : Kept cm l w wr n k m rest) (hk : keep cm l (stp cm l k) k = false) : Kept cm l w wr n (k + 1) m rest := by
  refine ⟨by have := h.le; omega, ?_, ?_, h.bel⟩
  · rw [stp_drop hk]; exact h.len
  · rw [stp_drop hk]; exact h.own

theorem Kept.put {cm : Bool} {l : List Int} {w wr : World} {n k m : Nat} {rest : List Int} {v : Int} (h : Kept cm l w wr n k m rest) (hkn : k < n) (hv : v = l.getD k 0) (hk : keep cm l (stp cm l k) k = true) :
    Kept cm l w (wr.setCell ⟨w.heap.size, m, none⟩ (.int .u8 v)) n (k + 1) (m + 1) rest.tail := by
  have ho := own_put v h.own h.len.symm (by have := h.le; omega)
  refine ⟨by have := h.le; omega, ?_, ?_, h.bel.grown ho.2 h.bel.size (fun k hk => by cases hk; exact Nat.le_refl _)⟩
  · rw [stp_keep hk, h.len]; simp
  · rw [stp_keep hk, ← hv]; exact ho.1

theorem Kept.done {cm : Bool} {l : List Int} {w wr : World} {n k m : Nat} {rest : List Int} (h : Kept cm l w wr n k m rest) (hk : k = l.length) :
    m = (strip cm l).length ∧ Lies wr w.heap.size 0 (strip cm l) ∧ w.heap.size < wr.heap.size := by
  have h1 := h.len
  have h2 := h.own
  rw [hk] at h1 h2
  exact ⟨h1, own_lies h2, own_lt h2⟩

set_option maxHeartbeats 1600000 in
theorem strip_any (b o cap : Nat) (l : List Int) (cm : Bool) (w : World) (hl : l.length ≤ 65536) (hb : b < w.heap.size) (hc : Lies w b o l) :
    Calls Eejg.prog 7 #[.slice (some ⟨b, o, none⟩) l.length cap, .bool cm] w fun e w' => e = .returned (.slice (some ⟨w.heap.size, 0, none⟩) (strip cm l).length l.length) ∧ Lies w' w.heap.size 0 (strip cm l) ∧ w.heap.size < w'.heap.size ∧ Below w.heap.size w w' := by
  obtain ⟨i0, hi, hz0, hz1, hz2⟩ := info_parts Eejg.info5
  obtain ⟨n, hn⟩ : ∃ n, n = l.length := ⟨_, rfl⟩
  rw [← hn] at hl ⊢
  have HN : Hid (n = l.length) := hn
  have HC : Hid (Lies w b o l) := hc
  clear hn hc
  go_enter Eejg.func7, Eejg.ntmps7
  go_wp2_with (at_make; refine wpList_make_full _ rfl _ _ 22 rfl w.heap.size 5 i0 (.int .u8 0) 1 Eejg.underlying22 hi hz0 hz1 _ _ _ _ n rfl rfl rfl rfl ?b2 ?b3 (Nat.le_refl _) ?_)
  case b2 => rw [hz2]; omega
  case b3 => unfold maxLen; omega
  intro w0 hown0 hgrow0
  rw [made_zeros] at hown0
  have hbel0 : Below w.heap.size w w0 := (Below.refl _ _).grown hgrow0 (Nat.le_refl _) (fun k h => by cases h)
  have hkept0 : Kept cm l w w0 n 0 0 (List.replicate n 0) := ⟨Nat.le_refl _, rfl, hown0, hbel0⟩
  clear hown0 hgrow0 hbel0
  go_wp2
  go_loopw [6, 14] (fun i j wr => ∃ (k m : Nat) (rest : List Int), k ≤ n ∧ m ≤ k ∧ j = .int .i64 k ∧ i = .int .i64 m ∧ Kept cm l w wr n k m rest) (fun _ j _ => n - (intOf j).toNat)
  case atStart => exact ⟨0, 0, _, Nat.zero_le _, Nat.le_refl _, rfl, rfl, hkept0⟩
  case round =>
    obtain ⟨k, m, rest, hk, hmk, rfl, rfl, hkept⟩ := hrel
    clear hkept0
    by_cases hlt : k < n
    · obtain ⟨v, hv⟩ : ∃ v, v = l.getD k 0 := ⟨_, rfl⟩
      have hcx : wr.cell? ⟨b, o + k, none⟩ = some (.int .u8 v) := by rw [hv]; exact (hkept.bel.cell (by exact hb)).trans (HC.out k (by rw [← HN.out]; exact hlt))
      have hfz : wr.frozen? ⟨w.heap.size, m, none⟩ = false := hkept.own.frozenAt m
      obtain ⟨u, hu⟩ := own_some hkept.own m (by omega)
      have HV : Hid (v = l.getD k 0) := hv
      clear hv
      cases hv13 : (v != 13) with
      | true =>
        go_wp2
        go_roundw
        case rel => exact ⟨k + 1, m + 1, _, by omega, by omega, by go_num, by go_num, hkept.put hlt HV.out (keep_plain (by rw [← HV.out]; exact hv13))⟩
        case measure => simp [intOf]; omega
      | false =>
        cases cm with
        | false =>
          go_wp2
          go_roundw
          case rel => exact ⟨k + 1, m, _, by omega, by omega, by go_num, by go_num, hkept.drop (drop_mode (by rw [← HV.out]; exact hv13))⟩
          case measure => simp [intOf]; omega
        | true =>
          by_cases hm2 : 2 < m
          · obtain ⟨p, hp⟩ : ∃ p, p = (stp true l k).getD (m - 1) 0 := ⟨_, rfl⟩
            have hcp : wr.cell? ⟨w.heap.size, m - 1, none⟩ = some (.int .u8 p) := by rw [hp]; exact own_cell hkept.own (m - 1) (by have := hkept.len; omega)
            have HP : Hid (p = (stp true l k).getD ((stp true l k).length - 1) 0) := by rw [← hkept.len]; exact hp
            clear hp
            cases hp42 : (p == 42) with
            | false =>
              go_wp2
              go_roundw
              case rel => exact ⟨k + 1, m, _, by omega, by omega, by go_num, by go_num, hkept.drop (drop_star (by rw [← HV.out]; exact hv13) (by rw [← HP.out]; exact hp42))⟩
              case measure => simp [intOf]; omega
            | true =>
              by_cases hkn : k + 1 < n
              · obtain ⟨q, hq⟩ : ∃ q, q = l.getD (k + 1) 0 := ⟨_, rfl⟩
                have hcq : wr.cell? ⟨b, o + (k + 1), none⟩ = some (.int .u8 q) := by rw [hq]; exact (hkept.bel.cell (by exact hb)).trans (HC.out (k + 1) (by rw [← HN.out]; exact hkn))
                have HQ : Hid (q = l.getD (k + 1) 0) := hq
                clear hq
                cases hq47 : (q == 47) with
                | false =>
                  go_wp2
                  go_roundw
                  case rel => exact ⟨k + 1, m, _, by omega, by omega, by go_num, by go_num, hkept.drop (drop_slash (by rw [← HV.out]; exact hv13) (by rw [← HQ.out]; exact hq47))⟩
                  case measure => simp [intOf]; omega
                | true =>
                  go_wp2
                  go_roundw
                  case rel => exact ⟨k + 1, m + 1, _, by omega, by omega, by go_num, by go_num, hkept.put hlt HV.out (keep_star (by rw [← hkept.len]; exact hm2) (by rw [← HP.out]; exact hp42) (by rw [← HN.out]; exact hkn) (by rw [← HQ.out]; exact hq47))⟩
                  case measure => simp [intOf]; omega
              · go_wp2
                go_roundw
                case rel => exact ⟨k + 1, m, _, by omega, by omega, by go_num, by go_num, hkept.drop (drop_end (by rw [← HV.out]; exact hv13) (by rw [← HN.out]; exact hkn))⟩
                case measure => simp [intOf]; omega
          · go_wp2
            go_roundw
            case rel => exact ⟨k + 1, m, _, by omega, by omega, by go_num, by go_num, hkept.drop (drop_short (by rw [← HV.out]; exact hv13) (by rw [← hkept.len]; exact hm2))⟩
            case measure => simp [intOf]; omega
    · go_wp2
      go_ret
      have hd := hkept.done (by have := HN.out; omega)
      refine ⟨?_, hd.2.1, hd.2.2, hkept.bel⟩
      rw [← hd.1]
      rfl

/-- The nil slice: a new, empty row. -/
theorem strip_none (cm : Bool) (w : World) :
    Calls Eejg.prog 7 #[.slice none 0 0, .bool cm] w fun e w' => e = .returned (.slice (some ⟨w.heap.size, 0, none⟩) 0 0) ∧ w.heap.size < w'.heap.size ∧ Below w.heap.size w w' := by
  obtain ⟨i0, hi, hz0, hz1, hz2⟩ := info_parts Eejg.info5
  go_enter Eejg.func7, Eejg.ntmps7
  go_wp2_with (at_make; refine wpList_make_full _ rfl _ _ 22 rfl w.heap.size 5 i0 (.int .u8 0) 1 Eejg.underlying22 hi hz0 hz1 _ _ _ _ 0 rfl rfl rfl rfl ?b2 ?b3 (Nat.le_refl _) ?_)
  case b2 => rw [hz2]; omega
  case b3 => unfold maxLen; omega
  intro w0 hown0 hgrow0
  have hbel0 : Below w.heap.size w w0 := (Below.refl _ _).grown hgrow0 (Nat.le_refl _) (fun k h => by cases h)
  have hlt0 : w.heap.size < w0.heap.size := own_lt hown0
  clear hown0 hgrow0
  go_wp2
  refine wp_loop_rounds 1 ?_
  rw [rounds_succ]
  go_wp2
  go_ret
  exact ⟨rfl, hlt0, hbel0⟩

/-- An empty slice that is not nil: a new, empty row. -/
theorem strip_empty (b o cap : Nat) (cm : Bool) (w : World) (hb : b < w.heap.size) :
    Calls Eejg.prog 7 #[.slice (some ⟨b, o, none⟩) 0 cap, .bool cm] w fun e w' => e = .returned (.slice (some ⟨w.heap.size, 0, none⟩) 0 0) ∧ w.heap.size < w'.heap.size ∧ Below w.heap.size w w' := by
  have h := strip_any b o cap [] cm w (Nat.zero_le _) hb (fun i hi => absurd hi (Nat.not_lt_zero i))
  rw [strip_nil] at h
  refine h.mono ?_
  rintro e w' ⟨rfl, _, h1, h2⟩
  exact ⟨rfl, h1, h2⟩

theorem same_empty (b1 o1 c1 b2 o2 c2 : Nat) (w : World) :
    Calls Eejg.prog 8 #[.slice (some ⟨b1, o1, none⟩) 0 c1, .slice (some ⟨b2, o2, none⟩) 0 c2] w fun e w' => e = .returned (.bool true) ∧ Below w.heap.size w w' :=
  same_any b1 o1 c1 b2 o2 c2 [] w (Nat.zero_le _) (fun i hi => absurd hi (Nat.not_lt_zero i)) (fun i hi => absurd hi (Nat.not_lt_zero i))

end Go.Proofs.Yoeejw
