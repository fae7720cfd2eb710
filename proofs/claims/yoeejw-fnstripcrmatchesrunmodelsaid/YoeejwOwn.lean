/-
  SMALL LAWS, OUTSIDE THE WALKS: a row of bytes that the call itself has made ('ownsRow'), written cell by cell; what it gives to whoever reads it later.
-/
import Derived.Test.YoeejwRows
import Derived.WalkKit
import Derived.Test.YoeejwPlain
namespace Go.Proofs.Yoeejw
open Go.RowKit

theorem Eejg.info5 : (Eejg.prog.info? 5).map (fun i => (i.zero, i.size, i.bytes)) = some (some (.int .u8 0), 1, 1) := by kernel_rfl

/-- The bytes l lie from the cell ⟨b, o⟩ on. -/
def Lies (w : World) (b o : Nat) (l : List Int) : Prop := ∀ i, i < l.length → w.cell? ⟨b, o + i, none⟩ = some (.int .u8 (l.getD i 0))

theorem Lies.below {w w' : World} {B b o : Nat} {l : List Int} (h : Lies w b o l) (hB : Below B w w') (hb : b < B) : Lies w' b o l :=
  fun i hi => (hB.cell (by exact hb)).trans (h i hi)

theorem list_put (o rest : List Int) (v : Int) (h : 0 < rest.length) : ((o ++ rest).map (Value.int .u8)).set o.length (.int .u8 v) = ((o ++ [v]) ++ rest.tail).map (Value.int .u8) := by
  match rest, h with
  | x :: t, _ => simp

/-- One byte more is written behind those that stand. -/
theorem own_put {wr : World} {B g n j : Nat} {o rest : List Int} (v : Int) (hown : wr.ownsRow B 5 1 (.slice (some ⟨g, 0, none⟩) n n) n ((o ++ rest).map (Value.int .u8))) (hj : o.length = j) (hlt : j < n) :
    (wr.setCell ⟨g, j, none⟩ (.int .u8 v)).ownsRow B 5 1 (.slice (some ⟨g, 0, none⟩) n n) n (((o ++ [v]) ++ rest.tail).map (Value.int .u8)) ∧ wr.grownBy (wr.setCell ⟨g, j, none⟩ (.int .u8 v)) (some g) := by
  subst hj
  have h := hown.stored o.length (.int .u8 v)
  have hl := hown.1
  simp at hl
  rw [list_put o rest v (by omega)] at h
  exact h

/-- What is read of an owned row. -/
theorem own_cell {wr : World} {B g n cap : Nat} {o rest : List Int} (hown : wr.ownsRow B 5 1 (.slice (some ⟨g, 0, none⟩) n cap) n ((o ++ rest).map (Value.int .u8))) (i : Nat) (hi : i < o.length) :
    wr.cell? ⟨g, i, none⟩ = some (.int .u8 (o.getD i 0)) := by
  have hl := hown.1
  simp at hl
  rw [hown.cellAt i (by omega), List.getElem?_map, List.getElem?_append_left hi]
  simp [hi]

/-- Some cell is there, wherever the row reaches. -/
theorem own_some {wr : World} {B g n cap : Nat} {xs : List Int} (hown : wr.ownsRow B 5 1 (.slice (some ⟨g, 0, none⟩) n cap) n (xs.map (Value.int .u8))) (i : Nat) (hi : i < n) :
    ∃ v, wr.cell? ⟨g, i, none⟩ = some (.int .u8 v) := by
  have hl := hown.1
  simp at hl
  rw [hown.cellAt i (by omega)]
  exact ⟨xs[i]'(by omega), by simp [show i < xs.length from by omega]⟩

theorem own_lies {wr : World} {B g n cap : Nat} {o rest : List Int} (hown : wr.ownsRow B 5 1 (.slice (some ⟨g, 0, none⟩) n cap) n ((o ++ rest).map (Value.int .u8))) : Lies wr g 0 o :=
  fun i hi => by rw [Nat.zero_add]; exact own_cell hown i hi

theorem own_lt {wr : World} {B g n cap : Nat} {xs : List Value} (hown : wr.ownsRow B 5 1 (.slice (some ⟨g, 0, none⟩) n cap) n xs) : g < wr.heap.size := (hown.lt g rfl).2

theorem made_zeros (n : Nat) : (madeCells #[Value.int .u8 0] n).toList = (([] : List Int) ++ List.replicate n 0).map (Value.int .u8) := by
  rw [toList_madeCells_one]
  simp

end Go.Proofs.Yoeejw
