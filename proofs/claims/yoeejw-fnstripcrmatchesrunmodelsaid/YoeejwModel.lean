/-
  THE CONTRACT OF zzStripModel (9): the model by runs of CRs gives the same 'strip cm l', in a new row.
-/
import Derived.Test.YoeejwStrip
namespace Go.Proofs.Yoeejw
open Go.RowKit Plain

/-- What the model has kept of the first k bytes: m bytes of the new row. -/
structure Grew (cm : Bool) (l : List Int) (w wr : World) (n k m : Nat) : Prop where
  le : m ≤ k
  len : m = (stp cm l k).length
  own : wr.ownsRow w.heap.size 5 1 (.slice (some ⟨w.heap.size, 0, none⟩) m n) m ((stp cm l k).map (Value.int .u8))
  bel : Below w.heap.size w wr

/-- Behind an append of one byte. -/
theorem Grew.app {cm : Bool} {l : List Int} {w wr w1 : World} {n k r m : Nat} {v : Int} {o : Obj} (h : Grew cm l w wr n k m) (hkr : k < r) (hst : stp cm l r = stp cm l k ++ [v])
    (hown : w1.ownsRow w.heap.size 5 1 (.slice (some ⟨w.heap.size, 0, none⟩) (m + 1) n) (m + 1) ((stp cm l k).map (Value.int .u8) ++ [.int .u8 v])) (hgrow : (wr.alloc o).grownBy w1 (some w.heap.size)) :
    Grew cm l w w1 n r (m + 1) := by
  refine ⟨by have := h.le; omega, ?_, ?_, (h.bel.alloc h.bel.size o).grown hgrow (by have := h.bel.size; simp; omega) (fun k hk => by cases hk; exact Nat.le_refl _)⟩
  · rw [hst, h.len]; simp
  · rw [hst]; simpa using hown

/-- A run of CRs of which nothing is kept. -/
theorem Grew.skip {cm : Bool} {l : List Int} {w wr : World} {n k r m : Nat} (h : Grew cm l w wr n k m) (hkr : k < r) (hst : stp cm l r = stp cm l k) : Grew cm l w wr n r m := by
  refine ⟨by have := h.le; omega, ?_, ?_, h.bel⟩
  · rw [hst]; exact h.len
  · rw [hst]; exact h.own

/-- A run of CRs from k up to r. -/
def Run (l : List Int) (k r : Nat) : Prop := ∀ t, k ≤ t → t < r → l.getD t 0 = 13

theorem Run.more {l : List Int} {k r : Nat} (h : Run l k r) (h13 : l.getD r 0 = 13) : Run l k (r + 1) := by
  intro t h1 h2
  by_cases e : t = r
  · rw [e]; exact h13
  · exact h t h1 (by omega)

theorem Run.last {l : List Int} {k r : Nat} (h : Run l k r) (hkr : k < r) : (l.getD (r - 1) 0 != 13) = false := by rw [h (r - 1) (by omega) (by omega)]; rfl

theorem run_drop {cm : Bool} {l : List Int} {k r : Nat} (hkr : k < r) (h : Run l k r) (hk : keep cm l (stp cm l k) (r - 1) = false) : stp cm l r = stp cm l k := by
  rw [stp_run hkr h, hk]; rfl

theorem run_keep {l : List Int} {k r : Nat} (hkr : k < r) (h : Run l k r) (h1 : 2 < (stp true l k).length) (h2 : ((stp true l k).getD ((stp true l k).length - 1) 0 == 42) = true) (h3 : r < l.length) (h4 : (l.getD r 0 == 47) = true) :
    stp true l r = stp true l k ++ [13] := by
  have e : r - 1 + 1 = r := by omega
  rw [stp_run hkr h, if_pos (keep_star h1 h2 (by rw [e]; exact h3) (by rw [e]; exact h4))]

theorem run_mode {l : List Int} {k r : Nat} (hkr : k < r) (h : Run l k r) : stp false l r = stp false l k := run_drop hkr h (drop_mode (h.last hkr))
theorem run_end {cm : Bool} {l : List Int} {k r : Nat} (hkr : k < r) (h : Run l k r) (h3 : ¬ r < l.length) : stp cm l r = stp cm l k :=
  run_drop hkr h (drop_end (h.last hkr) (by rw [show r - 1 + 1 = r from by omega]; exact h3))
theorem run_slash {cm : Bool} {l : List Int} {k r : Nat} (hkr : k < r) (h : Run l k r) (h4 : (l.getD r 0 == 47) = false) : stp cm l r = stp cm l k :=
  run_drop hkr h (drop_slash (h.last hkr) (by rw [show r - 1 + 1 = r from by omega]; exact h4))
theorem run_short {cm : Bool} {l : List Int} {k r : Nat} (hkr : k < r) (h : Run l k r) (h1 : ¬ 2 < (stp cm l k).length) : stp cm l r = stp cm l k := run_drop hkr h (drop_short (h.last hkr) h1)
theorem run_star {cm : Bool} {l : List Int} {k r : Nat} (hkr : k < r) (h : Run l k r) (h2 : ((stp cm l k).getD ((stp cm l k).length - 1) 0 == 42) = false) : stp cm l r = stp cm l k := run_drop hkr h (drop_star (h.last hkr) h2)

theorem Grew.done {cm : Bool} {l : List Int} {w wr : World} {n k m : Nat} (h : Grew cm l w wr n k m) (hk : k = l.length) :
    m = (strip cm l).length ∧ Lies wr w.heap.size 0 (strip cm l) ∧ w.heap.size < wr.heap.size := by
  have h1 := h.len
  have h2 := h.own
  rw [hk] at h1 h2
  rw [← List.append_nil (stp cm l l.length)] at h2
  exact ⟨h1, own_lies h2, own_lt h2⟩

set_option maxHeartbeats 1600000 in
theorem model_any (b o cap : Nat) (l : List Int) (cm : Bool) (w : World) (hl : l.length ≤ 65536) (hb : b < w.heap.size) (hc : Lies w b o l) :
    Calls Eejg.prog 9 #[.slice (some ⟨b, o, none⟩) l.length cap, .bool cm] w fun e w' => e = .returned (.slice (some ⟨w.heap.size, 0, none⟩) (strip cm l).length l.length) ∧ Lies w' w.heap.size 0 (strip cm l) ∧ w.heap.size < w'.heap.size ∧ Below w.heap.size w w' := by
  obtain ⟨i0, hi, hz0, hz1, hz2⟩ := info_parts Eejg.info5
  obtain ⟨n, hn⟩ : ∃ n, n = l.length := ⟨_, rfl⟩
  rw [← hn] at hl ⊢
  have HN : Hid (n = l.length) := hn
  have HC : Hid (Lies w b o l) := hc
  clear hn hc
  go_enter Eejg.func9, Eejg.ntmps9
  go_wp2_with (at_make; refine wpList_make_own _ rfl _ _ 22 rfl w.heap.size 5 i0 (.int .u8 0) 1 Eejg.underlying22 hi hz0 hz1 _ _ _ n rfl rfl rfl ?b2 ?b3 (Nat.le_refl _) ?_)
  case b2 => rw [hz2]; omega
  case b3 => unfold maxLen; omega
  intro w0 hown0 hgrow0
  have hbel0 : Below w.heap.size w w0 := (Below.refl _ _).grown hgrow0 (Nat.le_refl _) (fun k h => by cases h)
  have hgrew0 : Grew cm l w w0 n 0 0 := ⟨Nat.le_refl _, rfl, hown0, hbel0⟩
  clear hown0 hgrow0 hbel0
  go_wp2
  go_loopw [5, 6] (fun s j wr => ∃ (k m : Nat), k ≤ n ∧ m ≤ k ∧ j = .int .i64 k ∧ s = .slice (some ⟨w.heap.size, 0, none⟩) m n ∧ Grew cm l w wr n k m) (fun _ j _ => n - (intOf j).toNat)
  case atStart => exact ⟨0, 0, Nat.zero_le _, Nat.le_refl _, rfl, rfl, hgrew0⟩
  case round =>
    obtain ⟨k, m, hk, hmk, rfl, rfl, hgrew⟩ := hrel
    clear hgrew0
    by_cases hlt : k < n
    · obtain ⟨v, hv⟩ : ∃ v, v = l.getD k 0 := ⟨_, rfl⟩
      have hcx : wr.cell? ⟨b, o + k, none⟩ = some (.int .u8 v) := by rw [hv]; exact (hgrew.bel.cell (by exact hb)).trans (HC.out k (by rw [← HN.out]; exact hlt))
      have HV : Hid (v = l.getD k 0) := hv
      clear hv
      cases hv13 : (v != 13) with
      | true =>
        go_wp2_with (at_builtin; refine wpList_append_fits _ rfl (.tmp 20) (.tmp 25) 22 rfl w.heap.size 5 i0 1 Eejg.underlying22 hi hz1 w.heap.size m n _ rfl (hgrew.own.alloc _) ⟨wr.heap.size, 0, none⟩ 1 1 [.int .u8 v] rfl rfl ?c1 ?c2 ?c3 ?_)
        case c1 => exact cell_one_new _ _ _
        case c2 => intro u hu; simp at hu; subst hu; rfl
        case c3 => omega
        intro w1 hown1 hgrow1
        have R := hgrew.app (Nat.lt_succ_self k) (by rw [stp_keep (keep_plain (by rw [← HV.out]; exact hv13)), ← HV.out]) hown1 hgrow1
        clear hown1 hgrow1
        go_wp2
        go_roundw
        case rel => exact ⟨k + 1, m + 1, by omega, by omega, by go_num, rfl, R⟩
        case measure => simp [intOf]; omega
      | false =>
        have h13 : l.getD k 0 = 13 := by rw [← HV.out]; simpa using hv13
        have H13 : Hid (l.getD k 0 = 13) := h13
        clear h13
        have hv13' : (v == 13) = true := by simpa using hv13
        go_wp2
        go_loop [7] (fun r => ∃ q : Nat, k ≤ q ∧ q ≤ n ∧ r = .int .i64 q ∧ Run l k q) (fun r => n - (intOf r).toNat)
        case atStart => exact ⟨k, Nat.le_refl _, hk, rfl, fun t h1 h2 => absurd h2 (by omega)⟩
        case round =>
          obtain ⟨q, hkq, hqn, rfl, hrun⟩ := hrel
          by_cases hq : q < n
          · obtain ⟨x, hx⟩ : ∃ x, x = l.getD q 0 := ⟨_, rfl⟩
            have hcq : wr.cell? ⟨b, o + q, none⟩ = some (.int .u8 x) := by rw [hx]; exact (hgrew.bel.cell (by exact hb)).trans (HC.out q (by rw [← HN.out]; exact hq))
            have HX : Hid (x = l.getD q 0) := hx
            clear hx
            cases hx13 : (x == 13) with
            | true =>
              go_wp2
              go_round
              case rel => exact ⟨q + 1, by omega, by omega, by go_num, hrun.more (by rw [← HX.out]; simpa using hx13)⟩
              case measure => simp [intOf]; omega
            | false =>
              have hlk : k < q := by
                rcases Nat.lt_or_ge k q with h | h
                · exact h
                · have e : q = k := by omega
                  have hxk := HX.out
                  rw [e, H13.out] at hxk
                  rw [hxk] at hx13
                  exact absurd hx13 (by decide)
              cases cm with
              | false =>
                go_wp2
                go_roundw
                case rel => exact ⟨q, m, by omega, by omega, rfl, rfl, hgrew.skip hlk (run_mode hlk hrun)⟩
                case measure => simp [intOf]; omega
              | true =>
                cases hx47 : (x == 47) with
                | false =>
                  go_wp2
                  go_roundw
                  case rel => exact ⟨q, m, by omega, by omega, rfl, rfl, hgrew.skip hlk (run_slash hlk hrun (by rw [← HX.out]; exact hx47))⟩
                  case measure => simp [intOf]; omega
                | true =>
                  by_cases hm2 : 2 < m
                  · obtain ⟨p, hp⟩ : ∃ p, p = (stp true l k).getD (m - 1) 0 := ⟨_, rfl⟩
                    have hcp : wr.cell? ⟨w.heap.size, m - 1, none⟩ = some (.int .u8 p) := by rw [hp]; exact own_cell (rest := []) (by rw [List.append_nil]; exact hgrew.own) (m - 1) (by have := hgrew.len; omega)
                    have HP : Hid (p = (stp true l k).getD ((stp true l k).length - 1) 0) := by rw [← hgrew.len]; exact hp
                    clear hp
                    cases hp42 : (p == 42) with
                    | false =>
                      go_wp2
                      go_roundw
                      case rel => exact ⟨q, m, by omega, by omega, rfl, rfl, hgrew.skip hlk (run_star hlk hrun (by rw [← HP.out]; exact hp42))⟩
                      case measure => simp [intOf]; omega
                    | true =>
                      go_wp2_with (at_builtin; refine wpList_append_fits _ rfl (.tmp 71) (.tmp 72) 22 rfl w.heap.size 5 i0 1 Eejg.underlying22 hi hz1 w.heap.size m n _ rfl (hgrew.own.alloc _) ⟨wr.heap.size, 0, none⟩ 1 1 [.int .u8 13] rfl rfl ?d1 ?d2 ?d3 ?_)
                      case d2 => rfl
                      case d3 => omega
                      intro w1 hown1 hgrow1
                      have R := hgrew.app hlk (run_keep hlk hrun (by rw [← hgrew.len]; exact hm2) (by rw [← HP.out]; exact hp42) (by rw [← HN.out]; exact hq) (by rw [← HX.out]; exact hx47)) hown1 hgrow1
                      clear hown1 hgrow1
                      go_wp2
                      go_roundw
                      case rel => exact ⟨q, m + 1, by omega, by omega, rfl, rfl, R⟩
                      case measure => simp [intOf]; omega
                  · go_wp2
                    go_roundw
                    case rel => exact ⟨q, m, by omega, by omega, rfl, rfl, hgrew.skip hlk (run_short hlk hrun (by rw [← hgrew.len]; exact hm2))⟩
                    case measure => simp [intOf]; omega
          · have hlk : k < q := by omega
            have hst : stp cm l q = stp cm l k := run_end hlk hrun (by rw [← HN.out]; exact hq)
            have R := hgrew.skip hlk hst
            clear hst
            cases cm
            all_goals
              go_wp2
              go_roundw
              case rel => exact ⟨q, m, by omega, by omega, rfl, rfl, R⟩
              case measure => simp [intOf]; omega
    · go_wp2
      go_ret
      have hd := hgrew.done (by have := HN.out; omega)
      refine ⟨?_, hd.2.1, hd.2.2, hgrew.bel⟩
      rw [← hd.1]
      rfl

end Go.Proofs.Yoeejw
