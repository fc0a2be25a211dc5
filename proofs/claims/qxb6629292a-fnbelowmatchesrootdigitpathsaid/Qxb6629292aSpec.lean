/- What Mirror.Below lists, in plain numbers; small laws on the call's own memory. -/
import Derived.Test.Qxb6629292aRoot
namespace Go.Proofs.Qxb6629292a
open Go.RowKit
open Fl

/-- the column at level l, s levels below the mirror's own -/
def xat (X : Int) (f : Option Nat) (l s : Nat) : Int := bits .or .i64 (wrap64 (X * 2 ^ s)) (bits .and .i64 (rcv f l : Int) (wrap64 (wrap64 (2 ^ s) - 1)))
def ev (x : Int) : Int := bits .andNot .i64 x 1
def od (x : Int) : Int := bits .or .i64 x 1

def row (l x y bx : Int) (bys : List Int) : List (Int × Int × Int) := bys.flatMap fun b => if bx = x ∧ b = y then [] else [(l, bx, b)]
def part (l x y : Int) (bxs : List Int) : List (Int × Int × Int) := bxs.flatMap fun bx => row l x y bx [ev y, od y]
def blk (l x y : Int) : List (Int × Int × Int) := part l x y [ev x, od x]
def belowL (L : Nat) (X Y : Int) (fx fy : Option Nat) : Nat → List (Int × Int × Int)
  | 0 => []
  | n + 1 => belowL L X Y fx fy n ++ blk ((L + n + 1 : Nat) : Int) (xat X fx (L + n + 1) (n + 1)) (xat Y fy (L + n + 1) (n + 1))

/-- the cells of a list of mirrors -/
def cellsOf (l : List (Int × Int × Int)) : List Value := l.flatMap fun p => [.int .i64 p.1, .int .i64 p.2.1, .int .i64 p.2.2]
theorem cellsOf_append (a b : List (Int × Int × Int)) : cellsOf (a ++ b) = cellsOf a ++ cellsOf b := by simp [cellsOf]
theorem cellsOf_one (a b c : Int) : cellsOf [(a, b, c)] = [.int .i64 a, .int .i64 b, .int .i64 c] := rfl
theorem cellsOf_length (a : List (Int × Int × Int)) : (cellsOf a).length = a.length * 3 := by
  unfold cellsOf
  induction a with
  | nil => rfl
  | cons p t ih => simp only [List.flatMap_cons, List.length_append, ih]; simp; omega

theorem row_le (l x y bx : Int) (bys : List Int) : (row l x y bx bys).length ≤ bys.length := by
  unfold row
  induction bys with
  | nil => simp
  | cons b t ih =>
    simp only [List.flatMap_cons, List.length_append, List.length_cons]
    split <;> simp only [List.length_nil, List.length_cons] <;> omega
theorem part_le (l x y : Int) (bxs : List Int) : (part l x y bxs).length ≤ 2 * bxs.length := by
  unfold part
  induction bxs with
  | nil => simp
  | cons b t ih =>
    have := row_le l x y b [ev y, od y]
    simp only [List.flatMap_cons, List.length_append, List.length_cons, List.length_nil] at *
    omega
theorem belowL_le (L : Nat) (X Y : Int) (fx fy : Option Nat) (n : Nat) : (belowL L X Y fx fy n).length ≤ 4 * n := by
  induction n with
  | zero => simp [belowL]
  | succ n ih =>
    have := part_le ((L + n + 1 : Nat) : Int) (xat X fx (L + n + 1) (n + 1)) (xat Y fy (L + n + 1) (n + 1)) [ev (xat X fx (L + n + 1) (n + 1)), od (xat X fx (L + n + 1) (n + 1))]
    simp only [belowL, blk, List.length_append, List.length_cons, List.length_nil] at *
    omega

theorem row_snoc (l x y bx : Int) (bys : List Int) (b : Int) : row l x y bx (bys ++ [b]) = row l x y bx bys ++ (if bx = x ∧ b = y then [] else [(l, bx, b)]) := by simp [row]
theorem part_snoc (l x y : Int) (bxs : List Int) (b : Int) : part l x y (bxs ++ [b]) = part l x y bxs ++ row l x y b [ev y, od y] := by simp [part]

theorem take_snoc {α : Type} (l : List α) (k : Nat) (h : k < l.length) : l.take (k + 1) = l.take k ++ [l[k]] := List.take_succ_eq_append_getElem h

/-- a literal of two numbers stays while the call's own row of mirrors grows -/
theorem lit_kept {wr w1 : World} {base n : Nat} {v : Value} {xs : List Value} {o : Obj} (hown : wr.ownsRow base 28 3 v n xs) (hg : (wr.alloc o).grownBy w1 v.ownBlock) {b : Nat} {c : Array Value} (h : wr.heap[b]? = some (.cells c 3 (0, 0))) : w1.heap[b]? = some (.cells c 3 (0, 0)) := by
  have hlt := lt_of_block h
  rw [hg.block b (by simp; omega) ?_, Below.heap_alloc _ _ _ hlt, h]
  intro e
  rcases hown.2 with ⟨rfl, _⟩ | ⟨g, cap, cur, rfl, _, hh, _⟩
  · simp [Value.ownBlock] at e
  · simp [Value.ownBlock] at e
    subst e
    rw [h] at hh
    simp at hh

theorem below_app {W wr w1 : World} {base n : Nat} {v : Value} {xs : List Value} {o : Obj} (hb : Below base W wr) (hs : base ≤ wr.heap.size) (hown : wr.ownsRow base 28 3 v n xs) (hg : (wr.alloc o).grownBy w1 v.ownBlock) : Below base W w1 := by
  refine (hb.alloc hs o).grown hg (by simp; omega) fun k hk => ?_
  exact (hown.lt k hk).1

theorem lit_cell {w : World} {b : Nat} {x y : Int} (h : w.heap[b]? = some (.cells #[.int .i64 x, .int .i64 y] 3 (0, 0))) (k : Nat) (hk : k < 2) : w.cell? ⟨b, k, none⟩ = some (.int .i64 ([x, y][k]'hk)) := by
  have : k = 0 ∨ k = 1 := by omega
  rcases this with rfl | rfl <;> simp [World.cell?, h]

theorem new3_cells (wr : World) (a b c : Value) : ∀ j u, [a, b, c][j]? = some u → (wr.alloc (.cells #[a, b, c] 28)).cell? ((⟨wr.heap.size, 0, none⟩ : Addr).add j) = some u := by
  intro j u hj
  match j, hj with
  | 0, hj => simp at hj; subst hj; simp [Addr.add]
  | 1, hj => simp at hj; subst hj; simp [Addr.add]
  | 2, hj => simp at hj; subst hj; simp [Addr.add]
  | n + 3, hj => simp at hj
theorem new3_one (a b c : Int) : ∀ u ∈ [Value.int .i64 a, Value.int .i64 b, Value.int .i64 c], u.oneCell' = true := by
  intro u hu
  simp at hu
  rcases hu with rfl | rfl | rfl <;> rfl

/-- one mirror appended -/
theorem app_rel {W wr w1 : World} {base : Nat} {v v' : Value} {pre : List (Int × Int × Int)} {a b c : Int} {o : Obj} (hb : Below base W wr) (hs : base ≤ wr.heap.size) (hown : wr.ownsRow base 28 3 v pre.length (cellsOf pre))
    (hown' : w1.ownsRow base 28 3 v' (pre.length + 1) (cellsOf pre ++ [.int .i64 a, .int .i64 b, .int .i64 c])) (hg : (wr.alloc o).grownBy w1 v.ownBlock) :
    w1.ownsRow base 28 3 v' (pre ++ [(a, b, c)]).length (cellsOf (pre ++ [(a, b, c)])) ∧ Below base W w1 ∧ (∀ (b : Nat) (c : Array Value), wr.heap[b]? = some (Obj.cells c 3 (0, 0)) → w1.heap[b]? = some (Obj.cells c 3 (0, 0))) := by
  refine ⟨?_, below_app hb hs hown hg, fun b c h => lit_kept hown hg h⟩
  rw [cellsOf_append, cellsOf_one, List.length_append]
  exact hown'

end Go.Proofs.Qxb6629292a
