/- The walk of FnBelowDescendsThroughLeftOutChild. -/
import Derived.Test.Qxb6629292aBelow
import Derived.Test.Qxb6629292aSame
import Derived.Deep.RegionHeld3
import Derived.Deep.DrawnRows
namespace Go.Proofs.Qxb6629292a
open Go.RowKit
open Fl
attribute [local go_sem] Go.wp_at_zero Go.wp_at_succ

theorem run_store_float (P : Program) (w : World) (a : Addr) (m : Mode) (k : FloatKind) (n : Nat) : (store a (.float k n) m).run P w = stored P w a (.float k n) m := run_store P w a _ m rfl
attribute [local go_sem] run_store_float

/-- old cells behind a call that makes memory alone -/
theorem bcell {W w1 : World} (hb : Below W.heap.size W w1) : ∀ b o, b < W.heap.size → w1.cell? ⟨b, o, none⟩ = W.cell? ⟨b, o, none⟩ :=
  fun b o h => hb.cell (p := ⟨b, o, none⟩) h

set_option maxHeartbeats 400000 in
theorem desc_out (a X Y d : Int) (rx ry x0 y0 x1 y1 : Nat) (w : World) (h : a < 0 ∨ 65536 < a ∨ 53 < d) :
    Calls Try.prog 4 #[.int .i64 a, .int .i64 X, .int .i64 Y, .float .f64 rx, .float .f64 ry, .float .f64 x0, .float .f64 y0, .float .f64 x1, .float .f64 y1, .int .i64 d] w fun e w' => e = .returned (.bool true) ∧ Below w.heap.size w w' := by
  have key : a < 0 ∨ (¬ a < 0 ∧ 65536 < a) ∨ (¬ a < 0 ∧ ¬ 65536 < a ∧ 53 < d) := by omega
  rcases key with h1 | ⟨h1, h2⟩ | ⟨h1, h2, h3⟩
  all_goals
    clear h
    go_enter Try.func4, Try.ntmps4
    go_wp2
    go_ret
    exact ⟨rfl, Below.refl _ _⟩

/-- the three locals' world -/
abbrev three3 (w : World) (L : Nat) (X Y : Int) (rx ry x0 y0 x1 y1 : Nat) : World := boxed w L X Y rx ry x0 y0 x1 y1

set_option maxRecDepth 100000 in
set_option maxHeartbeats 400000 in
theorem desc_empty (L : Nat) (X Y d : Int) (rx ry x0 y0 x1 y1 : Nat) (w : World) (hL : L ≤ 65536) (hd : d ≤ 53) (hle : d ≤ L) :
    Calls Try.prog 4 #[.int .i64 L, .int .i64 X, .int .i64 Y, .float .f64 rx, .float .f64 ry, .float .f64 x0, .float .f64 y0, .float .f64 x1, .float .f64 y1, .int .i64 d] w fun e w' => e = .returned (.bool true) ∧ Below w.heap.size w w' := by
  go_enter Try.func4, Try.ntmps4
  go_wp2_with fail
  refine (below_any L X Y rx ry x0 y0 x1 y1 d _ (by omega) hd).mono ?_
  rintro e w1 ⟨v, rfl, hown, hb⟩
  have e0 : d.toNat - L = 0 := by omega
  rw [e0] at hown
  obtain ⟨ao, cap, rfl⟩ := own_empty hown
  clear hown e0
  have HB : Hid (Below (three3 w L X Y rx ry x0 y0 x1 y1).heap.size (three3 w L X Y rx ry x0 y0 x1 y1) w1) := hb
  clear hb
  go_wp2
  go_ret
  exact ⟨rfl, ((((Below.refl _ _).alloc (Nat.le_refl _) _).alloc (by simp) _).alloc (by simp; omega) _).trans (HB.out.mono (by simp; omega))⟩

/-- the three locals lie there -/
structure Loc (N : Nat) (L X Y : Int) (rx ry x0 y0 x1 y1 : Nat) (wr : World) : Prop where
  m0 : wr.cell? ⟨N, 0, none⟩ = some (.int .i64 L)
  m1 : wr.cell? ⟨N, 1, none⟩ = some (.int .i64 X)
  m2 : wr.cell? ⟨N, 2, none⟩ = some (.int .i64 Y)
  r0 : wr.cell? ⟨N + 1, 0, none⟩ = some (.float .f64 rx)
  r1 : wr.cell? ⟨N + 1, 1, none⟩ = some (.float .f64 ry)
  a0 : wr.cell? ⟨N + 1 + 1, 0, none⟩ = some (.float .f64 x0)
  a1 : wr.cell? ⟨N + 1 + 1, 1, none⟩ = some (.float .f64 y0)
  a2 : wr.cell? ⟨N + 1 + 1, 2, none⟩ = some (.float .f64 x1)
  a3 : wr.cell? ⟨N + 1 + 1, 3, none⟩ = some (.float .f64 y1)

theorem Loc.carry {N B : Nat} {L X Y : Int} {rx ry x0 y0 x1 y1 : Nat} {w1 w2 : World} (h : Loc N L X Y rx ry x0 y0 x1 y1 w1) (hb : Below B w1 w2) (hB : N + 1 + 1 < B) : Loc N L X Y rx ry x0 y0 x1 y1 w2 :=
  ⟨(hb.cell (by show N < B; omega)).trans h.m0, (hb.cell (by show N < B; omega)).trans h.m1, (hb.cell (by show N < B; omega)).trans h.m2, (hb.cell (by show N + 1 < B; omega)).trans h.r0, (hb.cell (by show N + 1 < B; omega)).trans h.r1,
    (hb.cell (by exact hB)).trans h.a0, (hb.cell (by exact hB)).trans h.a1, (hb.cell (by exact hB)).trans h.a2, (hb.cell (by exact hB)).trans h.a3⟩

theorem loc_boxed (w : World) (L : Nat) (X Y : Int) (rx ry x0 y0 x1 y1 : Nat) : Loc w.heap.size L X Y rx ry x0 y0 x1 y1 (boxed w L X Y rx ry x0 y0 x1 y1) := by
  unfold boxed
  constructor <;> go_simp

/-- the first three mirrors lie there -/
structure Got (g : Nat) (l a1 b1 a2 b2 a3 b3 : Int) (wr : World) : Prop where
  c0 : wr.cell? ⟨g, 0, none⟩ = some (.int .i64 l)
  c1 : wr.cell? ⟨g, 1, none⟩ = some (.int .i64 a1)
  c2 : wr.cell? ⟨g, 2, none⟩ = some (.int .i64 b1)
  c3 : wr.cell? ⟨g, 3, none⟩ = some (.int .i64 l)
  c4 : wr.cell? ⟨g, 4, none⟩ = some (.int .i64 a2)
  c5 : wr.cell? ⟨g, 5, none⟩ = some (.int .i64 b2)
  c6 : wr.cell? ⟨g, 6, none⟩ = some (.int .i64 l)
  c7 : wr.cell? ⟨g, 7, none⟩ = some (.int .i64 a3)
  c8 : wr.cell? ⟨g, 8, none⟩ = some (.int .i64 b3)

theorem Got.carry {g B : Nat} {l a1 b1 a2 b2 a3 b3 : Int} {w1 w2 : World} (h : Got g l a1 b1 a2 b2 a3 b3 w1) (hb : Below B w1 w2) (hB : g < B) : Got g l a1 b1 a2 b2 a3 b3 w2 :=
  ⟨(hb.cell (by exact hB)).trans h.c0, (hb.cell (by exact hB)).trans h.c1, (hb.cell (by exact hB)).trans h.c2, (hb.cell (by exact hB)).trans h.c3, (hb.cell (by exact hB)).trans h.c4, (hb.cell (by exact hB)).trans h.c5,
    (hb.cell (by exact hB)).trans h.c6, (hb.cell (by exact hB)).trans h.c7, (hb.cell (by exact hB)).trans h.c8⟩

theorem Got.pair {g g2 : Nat} {l a1 b1 a2 b2 a3 b3 : Int} {w : World} (h : Got g l a1 b1 a2 b2 a3 b3 w) (h2 : Got g2 l a1 b1 a2 b2 a3 b3 w) (k : Nat) (hk : k < 3) :
    ∃ p q : Int, (w.cell? ⟨g, k * 3, none⟩ = some (.int .i64 l) ∧ w.cell? ⟨g, k * 3 + 1, none⟩ = some (.int .i64 p) ∧ w.cell? ⟨g, k * 3 + 2, none⟩ = some (.int .i64 q)) ∧
      (w.cell? ⟨g2, k * 3, none⟩ = some (.int .i64 l) ∧ w.cell? ⟨g2, k * 3 + 1, none⟩ = some (.int .i64 p) ∧ w.cell? ⟨g2, k * 3 + 2, none⟩ = some (.int .i64 q)) := by
  have : k = 0 ∨ k = 1 ∨ k = 2 := by omega
  rcases this with rfl | rfl | rfl
  · exact ⟨a1, b1, ⟨h.c0, h.c1, h.c2⟩, h2.c0, h2.c1, h2.c2⟩
  · exact ⟨a2, b2, ⟨h.c3, h.c4, h.c5⟩, h2.c3, h2.c4, h2.c5⟩
  · exact ⟨a3, b3, ⟨h.c6, h.c7, h.c8⟩, h2.c6, h2.c7, h2.c8⟩

theorem keep20 {g bc : Nat} {l a1 b1 a2 b2 a3 b3 cx cy : Int} {w4 wz : World} (h : Got g l a1 b1 a2 b2 a3 b3 w4) (hb : Below w4.heap.size w4 wz) (hg : g < w4.heap.size) (hbc : bc < w4.heap.size)
    (d0 : w4.cell? ⟨bc, 0, none⟩ = some (.int .i64 l)) (d1 : w4.cell? ⟨bc, 1, none⟩ = some (.int .i64 cx)) (d2 : w4.cell? ⟨bc, 2, none⟩ = some (.int .i64 cy)) :
    (wz.cell? ⟨g, 0, none⟩ = some (.int .i64 l) ∧ wz.cell? ⟨g, 1, none⟩ = some (.int .i64 a1) ∧ wz.cell? ⟨g, 2, none⟩ = some (.int .i64 b1)) ∧ (wz.cell? ⟨g, 3, none⟩ = some (.int .i64 l) ∧ wz.cell? ⟨g, 4, none⟩ = some (.int .i64 a2) ∧ wz.cell? ⟨g, 5, none⟩ = some (.int .i64 b2)) ∧ (wz.cell? ⟨g, 6, none⟩ = some (.int .i64 l) ∧ wz.cell? ⟨g, 7, none⟩ = some (.int .i64 a3) ∧ wz.cell? ⟨g, 8, none⟩ = some (.int .i64 b3)) ∧ (wz.cell? ⟨bc, 0, none⟩ = some (.int .i64 l) ∧ wz.cell? ⟨bc, 1, none⟩ = some (.int .i64 cx) ∧ wz.cell? ⟨bc, 2, none⟩ = some (.int .i64 cy)) := by
  have h2 := h.carry hb hg
  exact ⟨⟨h2.c0, h2.c1, h2.c2⟩, ⟨h2.c3, h2.c4, h2.c5⟩, ⟨h2.c6, h2.c7, h2.c8⟩, (hb.cell (by exact hbc)).trans d0, (hb.cell (by exact hbc)).trans d1, (hb.cell (by exact hbc)).trans d2⟩

theorem four_below {w4 : World} (o1 o2 o3 o4 : Obj) : Below w4.heap.size w4 ((((w4.alloc o1).alloc o2).alloc o3).alloc o4).drew :=
  (((((Below.refl _ _).alloc (Nat.le_refl _) _).alloc (by simp) _).alloc (by simp; omega) _).alloc (by simp; omega) _).drew

/-- any mirror of a list that lies there -/
def At (g o : Nat) (ls : List (Int × Int × Int)) (wr : World) : Prop :=
  ∀ k (h : k < ls.length), wr.cell? ⟨g, o + k * 3, none⟩ = some (.int .i64 (ls[k]).1) ∧ wr.cell? ⟨g, o + k * 3 + 1, none⟩ = some (.int .i64 (ls[k]).2.1) ∧ wr.cell? ⟨g, o + k * 3 + 2, none⟩ = some (.int .i64 (ls[k]).2.2)

theorem At.carry {g o B : Nat} {ls : List (Int × Int × Int)} {w1 w2 : World} (h : At g o ls w1) (hb : Below B w1 w2) (hB : g < B) : At g o ls w2 := fun k hk =>
  ⟨(hb.cell (by exact hB)).trans (h k hk).1, (hb.cell (by exact hB)).trans (h k hk).2.1, (hb.cell (by exact hB)).trans (h k hk).2.2⟩

theorem got_of {w : World} {base : Nat} {v : Value} {l a1 b1 a2 b2 a3 b3 : Int} {tl : List (Int × Int × Int)} {ls : List (Int × Int × Int)} (hls : ls = [(l, a1, b1), (l, a2, b2), (l, a3, b3)] ++ tl) (h : w.ownsRow base 28 3 v ls.length (cellsOf ls)) :
    ∃ g m cap, v = .slice (some ⟨g, 0, none⟩) m cap ∧ m = 3 + tl.length ∧ base ≤ g ∧ g < w.heap.size ∧ m ≤ cap ∧ cap ≤ maxLen ∧ Got g l a1 b1 a2 b2 a3 b3 w ∧ At g 9 tl w := by
  have hlen : ls.length = 3 + tl.length := by rw [hls]; simp; omega
  obtain ⟨g, cap, e, h1, h2, h3, h4, hc⟩ := own_shape h (by omega)
  refine ⟨g, ls.length, cap, e, hlen, h1, h2, h3, h4, ?_, ?_⟩
  · subst hls
    have c0 := hc 0 (by simp)
    have c1 := hc 1 (by simp)
    have c2 := hc 2 (by simp)
    simp at c0 c1 c2
    exact ⟨c0.1, c0.2.1, c0.2.2, c1.1, c1.2.1, c1.2.2, c2.1, c2.2.1, c2.2.2⟩
  · intro k hk
    have hk' : k + 3 < ls.length := by omega
    have hck := hc (k + 3) hk'
    have e1 : ls[k + 3] = tl[k] := by subst hls; simp
    rw [e1] at hck
    rw [show (k + 3) * 3 = 9 + k * 3 by omega] at hck
    exact hck

theorem at_of {w : World} {base : Nat} {v : Value} {ls : List (Int × Int × Int)} (h : w.ownsRow base 28 3 v ls.length (cellsOf ls)) (h0 : 0 < ls.length) :
    ∃ g cap, v = .slice (some ⟨g, 0, none⟩) ls.length cap ∧ base ≤ g ∧ g < w.heap.size ∧ At g 0 ls w := by
  obtain ⟨g, cap, e, h1, h2, h3, h4, hc⟩ := own_shape h h0
  refine ⟨g, cap, e, h1, h2, fun k hk => ?_⟩
  rw [Nat.zero_add]
  exact hc k hk

set_option maxRecDepth 100000 in
set_option maxHeartbeats 1000000 in
theorem desc_main (L n : Nat) (X Y d : Int) (rx ry x0 y0 x1 y1 : Nat) (w : World) (hL : L ≤ 65536) (hd : d ≤ 53) (hn : d = (L : Int) + 1 + n) :
    Calls Try.prog 4 #[.int .i64 L, .int .i64 X, .int .i64 Y, .float .f64 rx, .float .f64 ry, .float .f64 x0, .float .f64 y0, .float .f64 x1, .float .f64 y1, .int .i64 d] w fun e w' => e = .returned (.bool true) ∧ Below w.heap.size w w' := by
  have HN : Hid (d = (L : Int) + 1 + n) := hn
  have hLn : L + 1 + n ≤ 53 := by omega
  have hlt : (L : Int) < d := by omega
  have hdl : decide (d ≤ (L : Int)) = false := decide_eq_false (by omega)
  have hL0 : decide ((L : Int) < 0) = false := decide_eq_false (by omega)
  have hL1 : decide (65536 < (L : Int)) = false := decide_eq_false (by omega)
  have hd1 : decide (53 < d) = false := decide_eq_false (by omega)
  clear hn
  -- what is listed
  obtain ⟨fx, Hfx⟩ : ∃ fx, Hid (frac rx x0 x1 = fx) := ⟨_, rfl⟩
  obtain ⟨fy, Hfy⟩ : ∃ fy, Hid (frac ry y0 y1 = fy) := ⟨_, rfl⟩
  obtain ⟨a1, b1, a2, b2, a3, b3, T⟩ := three_of ((L + 1 : Nat) : Int) (kid_in X fx L (by omega)) (kid_in Y fy L (by omega))
  obtain ⟨cx, hcx⟩ : ∃ cx, cx = kid X fx L := ⟨_, rfl⟩
  obtain ⟨cy, hcy⟩ : ∃ cy, cy = kid Y fy L := ⟨_, rfl⟩
  have hhead := belowL_head L X Y fx fy n hLn
  have hone := belowL_head L X Y fx fy 0 (by omega)
  have hone' : belowL (L + 1) (kid X fx L) (kid Y fy L) fx fy 0 = [] := rfl
  rw [hone', List.append_nil, T.list] at hone
  rw [T.list, ← hcx, ← hcy] at hhead
  rw [← hcx, ← hcy] at T
  have hrl := belowL_length (L + 1) cx cy fx fy n (by omega)
  obtain ⟨tl, htl⟩ : ∃ tl, tl = belowL (L + 1) cx cy fx fy n := ⟨_, rfl⟩
  rw [← htl] at hhead hrl
  obtain ⟨l1, hl1⟩ : ∃ l1 : Int, l1 = ((L + 1 : Nat) : Int) := ⟨_, rfl⟩
  rw [← hl1] at hhead hone T
  have HT : Hid (Three l1 cx cy a1 b1 a2 b2 a3 b3) := T
  have hxx := T.xx
  have hyy := T.yy
  have Htl : Hid (tl = belowL (L + 1) cx cy fx fy n) := htl
  have Hhead : Hid (belowL L X Y fx fy (n + 1) = [(l1, a1, b1), (l1, a2, b2), (l1, a3, b3)] ++ tl) := hhead
  have Hone : Hid (belowL L X Y fx fy 1 = [(l1, a1, b1), (l1, a2, b2), (l1, a3, b3)] ++ []) := by rw [List.append_nil]; exact hone
  have Hrl : Hid (tl.length = 3 * n) := hrl
  have Hl1 : Hid (l1 = ((L + 1 : Nat) : Int)) := hl1
  have hl1' : (L : Int) + 1 = l1 := by omega
  clear T htl hhead hone hone' hcx hcy hrl hl1
  go_enter Try.func4, Try.ntmps4
  go_wp2_with fail
  refine (below_any L X Y rx ry x0 y0 x1 y1 d _ (by omega) hd).mono ?_
  rintro e w1 ⟨v, rfl, hown, hb1⟩
  have e0 : d.toNat - L = n + 1 := by have := HN.out; omega
  rw [e0, Hfx.out, Hfy.out] at hown
  obtain ⟨g, m, cap, rfl, hm, hg1, hg2, hmc, hcm, hgot, hat⟩ := got_of Hhead.out hown
  have hlen : 3 * (d - (L : Int)) = (m : Int) := by have := HN.out; have := Hrl.out; omega
  have HM : Hid (m = 3 + tl.length) := hm
  have hm3 : 3 ≤ m := by omega
  have hm4 : m ≤ 159 := by have := Hrl.out; omega
  have HA : Hid (At g 9 tl w1) := hat
  have HG : Hid (Got g l1 a1 b1 a2 b2 a3 b3 w1) := hgot
  have HLoc : Hid (Loc w.heap.size L X Y rx ry x0 y0 x1 y1 w1) := (loc_boxed w L X Y rx ry x0 y0 x1 y1).carry hb1 (by simp)
  have HB1 : Hid (Below w.heap.size w w1) := ((((Below.refl _ _).alloc (Nat.le_refl _) _).alloc (by simp) _).alloc (by simp; omega) _).trans (hb1.mono (by simp; omega))
  have hsz1 : w.heap.size + 1 + 1 < w1.heap.size := by have := hb1.size; simp at this; omega
  clear hown hb1 hat hgot hm e0 hg1
  obtain ⟨m0, m1, m2, r0, r1, q0, q1, q2, q3⟩ := HLoc.out
  go_wp2_with fail
  clear m0 m1 m2 r0 r1 q0 q1 q2 q3
  have hl53 : l1 ≤ 53 := by omega
  refine (below_any L X Y rx ry x0 y0 x1 y1 l1 _ (by omega) hl53).mono ?_
  rintro e w2 ⟨v2, rfl, hown, hb2⟩
  have e1 : l1.toNat - L = 1 := by omega
  rw [e1, Hfx.out, Hfy.out] at hown
  obtain ⟨g2, m2, cap2, rfl, hm2, hg3, hg4, hmc2, hcm2, hgot2, _⟩ := got_of Hone.out hown
  have hm2' : m2 = 3 := by simpa using hm2
  subst hm2'
  have HG2 : Hid (Got g2 l1 a1 b1 a2 b2 a3 b3 w2) := hgot2
  have HG1 : Hid (Got g l1 a1 b1 a2 b2 a3 b3 w2) := HG.out.carry hb2 hg2
  have HA2 : Hid (At g 9 tl w2) := HA.out.carry hb2 hg2
  have HLoc2 : Hid (Loc w.heap.size L X Y rx ry x0 y0 x1 y1 w2) := HLoc.out.carry hb2 hsz1
  have HB2 : Hid (Below w.heap.size w w2) := HB1.out.trans (hb2.mono (by omega))
  have hsz2 : w.heap.size + 1 + 1 < w2.heap.size := by have := hb2.size; omega
  have hgz2 : g < w2.heap.size := by have := hb2.size; omega
  clear hown hb2 hgot2 hm2 e1 hg3 HLoc HG HA HB1 hsz1 hg2 hlen hl53 hg4 hmc2 hcm2
  have heq := eq28
  go_wp2
  go_loopw [26] (fun i wr => ∃ k q : Nat, k ≤ 3 ∧ i = .int .i64 (k : Int) ∧ wr = w2.drewN q) (fun i _ => 3 - (intOf i).toNat)
  case atStart => exact ⟨0, 0, by omega, rfl, rfl⟩
  case round =>
    obtain ⟨k, q, hk, rfl, rfl⟩ := hrel
    by_cases hk3 : k < 3
    · have hkd : decide ((k : Int) < 3) = true := decide_eq_true (by omega)
      obtain ⟨p, r, ⟨c1, c2, c3⟩, c4, c5, c6⟩ := HG1.out.pair HG2.out k hk3
      have hkm : (k : Int) < (m : Int) := by omega
      go_wp2
      go_quiet (fail)
      go_wp2
      go_roundw
      case rel => exact ⟨k + 1, _, by omega, by go_num, rfl⟩
      case measure => simp [intOf]; omega
    · have hkd : decide ((k : Int) < 3) = false := decide_eq_false (by omega)
      have hk4 : k = 3 := by omega
      subst hk4
      clear hk hk3
      have HG3 : Hid (Got g l1 a1 b1 a2 b2 a3 b3 (w2.drewN q)) := HG1.out.carry (below_drewN (Below.refl w2.heap.size w2) q) hgz2
      have HA3 : Hid (At g 9 tl (w2.drewN q)) := HA2.out.carry (below_drewN (Below.refl w2.heap.size w2) q) hgz2
      have HLoc3 : Hid (Loc w.heap.size L X Y rx ry x0 y0 x1 y1 (w2.drewN q)) := HLoc2.out.carry (below_drewN (Below.refl w2.heap.size w2) q) hsz2
      have HB3 : Hid (Below w.heap.size w (w2.drewN q)) := below_drewN HB2.out q
      have hsz3 : w.heap.size + 1 + 1 < (w2.drewN q).heap.size := hsz2
      have hgz3 : g < (w2.drewN q).heap.size := hgz2
      clear HG1 HG2 HA2 HLoc2 HB2 hsz2 hgz2
      go_wp2
      generalize w2.drewN q = w3 at *
      obtain ⟨c0, c1, c2, c3, c4, c5, c6, c7, c8⟩ := HG3.out
      have eg : w3.heap.size ≠ g := by omega
      have i0 : 0 < m := by omega
      have i1 : (1 : Int) < (m : Int) := by omega
      have i2 : (2 : Int) < (m : Int) := by omega
      have hwl : IntKind.i64.wrap l1 = l1 := by rw [wrap_i64]; exact wrap_of ⟨by omega, by omega⟩
      clear hkd heq
      go_region_held3 (fun w' => w'.cell? ⟨g, 1, none⟩ = some (.int .i64 a1) ∧ w'.cell? ⟨g, 4, none⟩ = some (.int .i64 a2) ∧ w'.cell? ⟨g, 7, none⟩ = some (.int .i64 a3) ∧ w'.cell? ⟨g, 2, none⟩ = some (.int .i64 b1) ∧ w'.cell? ⟨g, 5, none⟩ = some (.int .i64 b2) ∧ w'.cell? ⟨g, 8, none⟩ = some (.int .i64 b3)) (go_keep) (fail)
      have HG4 : Hid (Got g l1 a1 b1 a2 b2 a3 b3 (w3.alloc (.cells #[.int .i64 l1, .int .i64 cx, .int .i64 cy] 28)).drew) := HG3.out.carry (((Below.refl w3.heap.size w3).alloc (Nat.le_refl _) _).drew) hgz3
      have HA4 : Hid (At g 9 tl (w3.alloc (.cells #[.int .i64 l1, .int .i64 cx, .int .i64 cy] 28)).drew) := HA3.out.carry (((Below.refl w3.heap.size w3).alloc (Nat.le_refl _) _).drew) hgz3
      have HLoc4 : Hid (Loc w.heap.size L X Y rx ry x0 y0 x1 y1 (w3.alloc (.cells #[.int .i64 l1, .int .i64 cx, .int .i64 cy] 28)).drew) := HLoc3.out.carry (((Below.refl w3.heap.size w3).alloc (Nat.le_refl _) _).drew) hsz3
      have HB4 : Hid (Below w.heap.size w (w3.alloc (.cells #[.int .i64 l1, .int .i64 cx, .int .i64 cy] 28)).drew) := (HB3.out.alloc (by have := HB3.out.size; omega) _).drew
      have hd0 : (w3.alloc (.cells #[.int .i64 l1, .int .i64 cx, .int .i64 cy] 28)).drew.cell? ⟨w3.heap.size, 0, none⟩ = some (.int .i64 l1) := by go_simp
      have hd1' : (w3.alloc (.cells #[.int .i64 l1, .int .i64 cx, .int .i64 cy] 28)).drew.cell? ⟨w3.heap.size, 1, none⟩ = some (.int .i64 cx) := by go_simp
      have hd2 : (w3.alloc (.cells #[.int .i64 l1, .int .i64 cx, .int .i64 cy] 28)).drew.cell? ⟨w3.heap.size, 2, none⟩ = some (.int .i64 cy) := by go_simp
      have hsz4 : w3.heap.size < (w3.alloc (.cells #[.int .i64 l1, .int .i64 cx, .int .i64 cy] 28)).drew.heap.size := by simp
      clear HG3 HA3 HLoc3 HB3 c0 c1 c2 c3 c4 c5 c6 c7 c8
      go_wp2
      generalize (w3.alloc (.cells #[.int .i64 l1, .int .i64 cx, .int .i64 cy] 28)).drew = w4 at *
      generalize w3.heap.size = bc at *
      obtain ⟨c0, c1, c2, c3, c4, c5, c6, c7, c8⟩ := HG4.out
      have hgz4 : g < w4.heap.size := by omega
      have HK : Hid (∀ o1 o2 o3 o4, Below w4.heap.size w4 ((((w4.alloc o1).alloc o2).alloc o3).alloc o4).drew) := four_below
      go_region_held3 (fun w' => (w'.cell? ⟨g, 0, none⟩ = some (.int .i64 l1) ∧ w'.cell? ⟨g, 1, none⟩ = some (.int .i64 a1) ∧ w'.cell? ⟨g, 2, none⟩ = some (.int .i64 b1)) ∧ (w'.cell? ⟨g, 3, none⟩ = some (.int .i64 l1) ∧ w'.cell? ⟨g, 4, none⟩ = some (.int .i64 a2) ∧ w'.cell? ⟨g, 5, none⟩ = some (.int .i64 b2)) ∧ (w'.cell? ⟨g, 6, none⟩ = some (.int .i64 l1) ∧ w'.cell? ⟨g, 7, none⟩ = some (.int .i64 a3) ∧ w'.cell? ⟨g, 8, none⟩ = some (.int .i64 b3)) ∧ (w'.cell? ⟨bc, 0, none⟩ = some (.int .i64 l1) ∧ w'.cell? ⟨bc, 1, none⟩ = some (.int .i64 cx) ∧ w'.cell? ⟨bc, 2, none⟩ = some (.int .i64 cy))) (first | (exact keep20 HG4.out (HK.out _ _ _ _) hgz4 hsz4 hd0 hd1' hd2) | go_keep)
        (first | (go_at_call 9; refine (one_block l1 cx cy a1 b1 a2 b2 a3 b3 _ HT.out).mono ?_; rintro e w' ⟨rfl, rfl⟩))
      clear c0 c1 c2 c3 c4 c5 c6 c7 c8
      obtain ⟨w5, hw5⟩ : ∃ w5, w5 = ((((w4.alloc (.cells #[.int .i64 l1, .int .i64 a1, .int .i64 b1] 28)).alloc (.cells #[.int .i64 l1, .int .i64 a2, .int .i64 b2] 28)).alloc (.cells #[.int .i64 l1, .int .i64 a3, .int .i64 b3] 28)).alloc (.cells #[.int .i64 l1, .int .i64 cx, .int .i64 cy] 28)).drew := ⟨_, rfl⟩
      have hb5 : Below w4.heap.size w4 w5 := by rw [hw5]; exact HK.out _ _ _ _
      rw [← hw5]
      clear hw5 HK
      have HA5 : Hid (At g 9 tl w5) := HA4.out.carry hb5 hgz4
      have HLoc5 : Hid (Loc w.heap.size L X Y rx ry x0 y0 x1 y1 w5) := HLoc4.out.carry hb5 (by omega)
      have HB5 : Hid (Below w.heap.size w w5) := HB4.out.trans (hb5.mono (by have := HB4.out.size; omega))
      have f0 := (hb5.cell (p := ⟨bc, 0, none⟩) hsz4).trans hd0
      have f1 := (hb5.cell (p := ⟨bc, 1, none⟩) hsz4).trans hd1'
      have f2 := (hb5.cell (p := ⟨bc, 2, none⟩) hsz4).trans hd2
      have hgz5 : g < w5.heap.size := by have := hb5.size; omega
      have hsz5 : w.heap.size + 1 + 1 < w5.heap.size := by have := hb5.size; omega
      clear hb5 HA4 HLoc4 HB4 hd0 hd1' hd2 HG4 hsz4 hgz4 hgz3 hsz3
      obtain ⟨m0, m1, m2, r0, r1, q0, q1, q2, q3⟩ := HLoc5.out
      clear HLoc5
      go_wp2_with fail
      clear m0 m1 m2 r0 r1 q0 q1 q2 q3 f0 f1 f2
      have hcall := below_any (L + 1) cx cy rx ry x0 y0 x1 y1 d w5 (by omega) hd
      rw [← Hl1.out] at hcall
      refine hcall.mono ?_
      clear hcall
      rintro e w6 ⟨v3, rfl, hown, hb6⟩
      have e2 : d.toNat - (L + 1) = n := by have := HN.out; omega
      rw [e2, Hfx.out, Hfy.out, ← Htl.out] at hown
      have HA6 : Hid (At g 9 tl w6) := HA5.out.carry hb6 hgz5
      have HB6 : Hid (Below w.heap.size w w6) := HB5.out.trans (hb6.mono (by have := HB5.out.size; omega))
      by_cases hn0 : n = 0
      · have ht0 : tl.length = 0 := by have := Hrl.out; omega
        rw [ht0] at hown
        obtain ⟨ao, cp, rfl⟩ := own_empty hown
        have hm33 : m = 3 := by have := HM.out; omega
        subst hm33
        clear hown hb6 ht0 hn0 HA5 HB5
        go_wp2_with fail
        all_goals
          refine (same_nil _ _ _ _ _).mono ?_
          rintro e w7 ⟨rfl, q7, rfl⟩
          go_wp2
          go_ret
          exact ⟨rfl, below_drewN HB6.out q7⟩
      · have ht0 : 0 < tl.length := by have := Hrl.out; omega
        obtain ⟨g3, cap3, rfl, _, _, hat⟩ := at_of hown ht0
        have HA3' : Hid (At g3 0 tl w6) := hat
        obtain ⟨tn, Htn⟩ : ∃ tn, Hid (tn = tl.length) := ⟨_, rfl⟩
        rw [← Htn.out]
        have hm33 : m - 3 = tn := by have := HM.out; have := Htn.out; omega
        have hcap3 : ¬ cap = 3 := by have := Htn.out; omega
        have htn : tn ≤ maxLen := by unfold maxLen; omega
        clear hown hb6 ht0 hn0 HA5 HB5 hat
        go_wp2_with fail
        refine (same_cons g3 0 g 9 tn cap3 (cap - 3) tl w6 Htn.out.symm htn HA3'.out HA6.out).mono ?_
        rintro e w7 ⟨rfl, q7, rfl⟩
        go_wp2
        go_ret
        exact ⟨rfl, below_drewN HB6.out q7⟩

theorem desc_any (a X Y d : Int) (rx ry x0 y0 x1 y1 : Nat) (w : World) :
    Calls Try.prog 4 #[.int .i64 a, .int .i64 X, .int .i64 Y, .float .f64 rx, .float .f64 ry, .float .f64 x0, .float .f64 y0, .float .f64 x1, .float .f64 y1, .int .i64 d] w fun e w' => e = .returned (.bool true) ∧ Below w.heap.size w w' := by
  by_cases h : a < 0 ∨ 65536 < a ∨ 53 < d
  · exact desc_out a X Y d rx ry x0 y0 x1 y1 w h
  · obtain ⟨L, rfl⟩ := Int.eq_ofNat_of_zero_le (show 0 ≤ a by omega)
    by_cases hle : d ≤ (L : Int)
    · exact desc_empty L X Y d rx ry x0 y0 x1 y1 w (by omega) (by omega) hle
    · exact desc_main L (d - L - 1).toNat X Y d rx ry x0 y0 x1 y1 w (by omega) (by omega) (by omega)

end Go.Proofs.Qxb6629292a
