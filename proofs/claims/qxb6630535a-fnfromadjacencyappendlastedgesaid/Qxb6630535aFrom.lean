/- The walk of FromAdjacency. -/
import Derived.Test.Qxb6630535aSmall
namespace Go.Proofs.Qxb6630535a
open Go.RowKit
attribute [local go_sem] run_store_float

theorem RD.sliced {w : World} {ao : Option Addr} {n c : Nat} {f : Nat → Value} (h : RD w (.slice ao n c) n f) (lo hi : Nat) (hl : lo ≤ hi) (hh : hi ≤ n) :
    RD w (.slice (if c = lo then ao else ao.map (·.add lo)) (hi - lo) (c - lo)) (hi - lo) (fun j => f (lo + j)) := by
  obtain ⟨ao', c', he, h1, h2, h3⟩ := h
  injection he with e1 e2 e3
  subst e1 e3
  refine ⟨_, _, rfl, by omega, fun hn => ?_, fun hn => ?_⟩
  · by_cases e : c = lo
    · rw [if_pos e] at hn; have := h2 hn; omega
    · rw [if_neg e] at hn
      cases ao with
      | none => have := h2 rfl; omega
      | some x => cases hn
  · have e : c ≠ lo := by omega
    obtain ⟨b, o, rfl, hb, hc⟩ := h3 (by omega)
    rw [if_neg e]
    refine ⟨b, o + lo, by rw [Option.map_some, Addr.add_lit], hb, fun j hj => ?_⟩
    rw [Nat.add_assoc]; exact hc (lo + j) (by omega)

theorem RD.opened {w : World} {A : Option Addr} {n C : Nat} {f : Nat → Value} (h : RD w (.slice A n C) n f) (hn : 0 < n) : ∃ b o, A = some ⟨b, o, none⟩ ∧ b < w.heap.size ∧ ∀ j, j < n → w.cell? ⟨b, o + j, none⟩ = some (f j) := by
  obtain ⟨ao, c, e, _, _, h3⟩ := h
  injection e with e1
  subst e1
  exact h3 hn

theorem alloc_new (w : World) (o : Obj) : (w.alloc o).heap[w.heap.size]? = some o := by
  show (w.heap.push o)[w.heap.size]? = _
  simp

theorem neigh (g n u lt lw : Nat) (S : Nat → Nat) (T : Nat → Int) (W : Nat → Nat) (vs vt vw : Value) (w0 w : World) (hB : Below w0.heap.size w0 w) (hn : n ≤ 1000000) (hu : u < n)
    (c0 : w.cell? ⟨g, 0, none⟩ = some vs) (c1 : w.cell? ⟨g, 1, none⟩ = some vt) (c2 : w.cell? ⟨g, 2, none⟩ = some vw)
    (hs : RD w0 vs (n + 1) (fun j => .int .i64 (S j : Int))) (ht : RD w0 vt lt (fun j => .int .i32 (T j))) (hw : RD w0 vw lw (fun j => .float .f64 (W j)))
    (hle : S u ≤ S (u + 1)) (h1 : S (u + 1) ≤ lt) (h2 : S (u + 1) ≤ lw) :
    Calls Try.prog 12 #[.pointer (some ⟨g, 0, none⟩), .int .i64 (u : Int)] w fun e w' => ∃ A C A2 C2 k,
      e = .returned (.tuple #[.slice A (S (u + 1) - S u) C, .slice A2 (S (u + 1) - S u) C2]) ∧ w' = w.drewN k ∧
      RD w0 (.slice A (S (u + 1) - S u) C) (S (u + 1) - S u) (fun j => .int .i32 (T (S u + j))) ∧ RD w0 (.slice A2 (S (u + 1) - S u) C2) (S (u + 1) - S u) (fun j => .float .f64 (W (S u + j))) := by
  obtain ⟨ao, cs, rfl, g1, g2, g3⟩ := hs
  obtain ⟨b, o, rfl, hb, hc⟩ := g3 (by omega)
  obtain ⟨at', ct, rfl, t1, t2, t3⟩ := ht
  obtain ⟨aw, cw, rfl, w1, w2, w3⟩ := hw
  refine (neigh12 g b o cs n u (S u) (S (u + 1)) lt ct lw cw at' aw w hn hu c0 c1 c2 (by rw [hB.cell (p := ⟨b, o + u, none⟩) hb]; exact hc u (by omega)) (by rw [hB.cell (p := ⟨b, o + (u + 1), none⟩) hb]; exact hc (u + 1) (by omega)) hle (by omega) (by omega)).mono ?_
  rintro e w' ⟨rfl, k, rfl⟩
  exact ⟨_, _, _, _, k, rfl, rfl, RD.sliced ⟨at', ct, rfl, t1, t2, t3⟩ _ _ hle h1, RD.sliced ⟨aw, cw, rfl, w1, w2, w3⟩ _ _ hle h2⟩

/-- the graph's block -/
def Gb (w : World) (g : Nat) (vs vt vw : Value) (t p m : Nat) : Prop := w.heap[g]? = some (.cells #[vs, vt, vw, .float .f64 t, .float .f64 p, .float .f64 m] 39 (0, 0))
theorem Gb.c0 {w : World} {g : Nat} {vs vt vw : Value} {t p m : Nat} (h : Gb w g vs vt vw t p m) : w.cell? ⟨g, 0, none⟩ = some vs := by rw [cell_of_row w g 0 _ 39 (0, 0) h]; rfl
theorem Gb.c1 {w : World} {g : Nat} {vs vt vw : Value} {t p m : Nat} (h : Gb w g vs vt vw t p m) : w.cell? ⟨g, 1, none⟩ = some vt := by rw [cell_of_row w g 1 _ 39 (0, 0) h]; rfl
theorem Gb.c2 {w : World} {g : Nat} {vs vt vw : Value} {t p m : Nat} (h : Gb w g vs vt vw t p m) : w.cell? ⟨g, 2, none⟩ = some vw := by rw [cell_of_row w g 2 _ 39 (0, 0) h]; rfl
theorem Gb.c3 {w : World} {g : Nat} {vs vt vw : Value} {t p m : Nat} (h : Gb w g vs vt vw t p m) : w.cell? ⟨g, 3, none⟩ = some (.float .f64 t) := by rw [cell_of_row w g 3 _ 39 (0, 0) h]; rfl
theorem Gb.c4 {w : World} {g : Nat} {vs vt vw : Value} {t p m : Nat} (h : Gb w g vs vt vw t p m) : w.cell? ⟨g, 4, none⟩ = some (.float .f64 p) := by rw [cell_of_row w g 4 _ 39 (0, 0) h]; rfl
theorem Gb.c5 {w : World} {g : Nat} {vs vt vw : Value} {t p m : Nat} (h : Gb w g vs vt vw t p m) : w.cell? ⟨g, 5, none⟩ = some (.float .f64 m) := by rw [cell_of_row w g 5 _ 39 (0, 0) h]; rfl
theorem Gb.fz {w : World} {g : Nat} {vs vt vw : Value} {t p m : Nat} (h : Gb w g vs vt vw t p m) (j : Nat) : w.frozen? ⟨g, j, none⟩ = false := frozen_of_row w g j _ 39 h
theorem Gb.set3 {w : World} {g : Nat} {vs vt vw : Value} {t p m : Nat} (h : Gb w g vs vt vw t p m) (r : Nat) : Gb (w.setCell ⟨g, 3, none⟩ (.float .f64 r)) g vs vt vw r p m := heap_setCell_same w g 3 _ 39 _ h
theorem Gb.set4 {w : World} {g : Nat} {vs vt vw : Value} {t p m : Nat} (h : Gb w g vs vt vw t p m) (r : Nat) : Gb (w.setCell ⟨g, 4, none⟩ (.float .f64 r)) g vs vt vw t r m := heap_setCell_same w g 4 _ 39 _ h
theorem Gb.set5 {w : World} {g : Nat} {vs vt vw : Value} {t p m : Nat} (h : Gb w g vs vt vw t p m) (r : Nat) : Gb (w.setCell ⟨g, 5, none⟩ (.float .f64 r)) g vs vt vw t p r := heap_setCell_same w g 5 _ 39 _ h
theorem Gb.drewN {w : World} {g : Nat} {vs vt vw : Value} {t p m : Nat} (h : Gb w g vs vt vw t p m) (k : Nat) : Gb (w.drewN k) g vs vt vw t p m := h
theorem Gb.lt {w : World} {g : Nat} {vs vt vw : Value} {t p m : Nat} (h : Gb w g vs vt vw t p m) : g < w.heap.size := (Array.getElem?_eq_some_iff.1 h).1

theorem se_none {t p m x r : Nat} {X : St} (h : SE (t, p, m) X) (hr : FRes .add t x r) (hg : gtB x = false) (hl : ltB x = false) : SE (r, p, m) (bump X x) := by
  unfold bump
  rw [hg, hl]
  exact ⟨(fop_res hr).trans (fop_congr .add (.inl rfl) h.1 x), h.2.1, h.2.2⟩
theorem se_gt {t p m x r q : Nat} {X : St} (h : SE (t, p, m) X) (hr : FRes .add t x r) (hq : FRes .add p x q) (hg : gtB x = true) : SE (r, q, m) (bump X x) := by
  unfold bump
  rw [hg]
  exact ⟨(fop_res hr).trans (fop_congr .add (.inl rfl) h.1 x), (fop_res hq).trans (fop_congr .add (.inl rfl) h.2.1 x), h.2.2⟩
theorem se_lt {t p m x r q : Nat} {X : St} (h : SE (t, p, m) X) (hr : FRes .add t x r) (hq : FRes .sub m x q) (hg : gtB x = false) (hl : ltB x = true) : SE (r, p, q) (bump X x) := by
  unfold bump
  rw [hg, hl]
  exact ⟨(fop_res hr).trans (fop_congr .add (.inl rfl) h.1 x), h.2.1, (fop_res hq).trans (fop_congr .sub (.inr rfl) h.2.2 x)⟩

set_option maxRecDepth 100000 in
set_option maxHeartbeats 1000000 in
theorem from8 (vs vt vw : Value) (n lt lw : Nat) (S : Nat → Nat) (T : Nat → Int) (W : Nat → Nat) (w : World) (hn : n ≤ 1000000)
    (hs : RD w vs (n + 1) (fun j => .int .i64 (S j : Int))) (ht : RD w vt lt (fun j => .int .i32 (T j))) (hw : RD w vw lw (fun j => .float .f64 (W j)))
    (hm : ∀ j, j < n → S j ≤ S (j + 1)) (h1 : ∀ j, j ≤ n → S j ≤ lt) (h2 : ∀ j, j ≤ n → S j ≤ lw) (hlt : lt ≤ 1000000) (hT : ∀ j, j < lt → -2147483648 ≤ T j ∧ T j ≤ 2147483647) :
    Calls Try.prog 8 #[vs, vt, vw] w fun e w' => e = .returned (.pointer (some ⟨w.heap.size, 0, none⟩)) ∧ Below w.heap.size w w' ∧
      ∃ t p m, SE (t, p, m) (outer S T W n) ∧ Gb w' w.heap.size vs vt vw t p m := by
  have HS : Hid (RD w vs (n + 1) (fun j => .int .i64 (S j : Int))) := hs
  have HT : Hid (RD w vt lt (fun j => .int .i32 (T j))) := ht
  have HW : Hid (RD w vw lw (fun j => .float .f64 (W j))) := hw
  have HM : Hid (∀ j, j < n → S j ≤ S (j + 1)) := hm
  have H1 : Hid (∀ j, j ≤ n → S j ≤ lt) := h1
  have H2 : Hid (∀ j, j ≤ n → S j ≤ lw) := h2
  have HTb : Hid (∀ j, j < lt → -2147483648 ≤ T j ∧ T j ≤ 2147483647) := hT
  have hms : ∃ ao c, vs = .slice ao (n + 1) c := by obtain ⟨ao, c, e, _⟩ := hs; exact ⟨ao, c, e⟩
  have hmt : ∃ ao c, vt = .slice ao lt c := by obtain ⟨ao, c, e, _⟩ := ht; exact ⟨ao, c, e⟩
  have hmw : ∃ ao c, vw = .slice ao lw c := by obtain ⟨ao, c, e, _⟩ := hw; exact ⟨ao, c, e⟩
  obtain ⟨ao, cs, rfl⟩ := hms
  obtain ⟨at', ct, rfl⟩ := hmt
  obtain ⟨aw, cw, rfl⟩ := hmw
  clear hs ht hw hm h1 h2 hT
  obtain ⟨N, hN⟩ : ∃ N, Hid (N = w.heap.size) := ⟨_, rfl⟩
  have HBN : Hid (∀ wr, Below N w wr ↔ Below w.heap.size w wr) := by intro wr; rw [hN.out]
  go_enter Try.func8, Try.ntmps8
  go_wp2_with (go_at_call 11; refine (n11 _ ao n cs _ hn ?_).mono ?_; go_simp; rintro e w' ⟨rfl, rfl⟩)
  go_loopw [21] (fun i wr => ∃ u : Nat, u ≤ n ∧ i = .int .i64 (u : Int) ∧ Below w.heap.size w wr ∧ ∃ t p m, SE (t, p, m) (outer S T W u) ∧ Gb wr w.heap.size (.slice ao (n + 1) cs) (.slice at' lt ct) (.slice aw lw cw) t p m) (fun i _ => n - (intOf i).toNat)
  case atStart =>
    refine ⟨0, by omega, rfl, (Below.refl _ _).alloc (Nat.le_refl _) _, 0, 0, 0, SE.refl _, ?_⟩
    exact alloc_new _ _
  case round =>
    obtain ⟨u, hu, rfl, hB, t, p, m, hE, hG⟩ := hrel
    by_cases hun : u < n
    · have hud : decide ((u : Int) < (n : Int)) = true := decide_eq_true (by omega)
      have HE : Hid (SE (t, p, m) (outer S T W u)) := hE
      have HB : Hid (Below w.heap.size w wr) := hB
      have HG : Hid (Gb wr w.heap.size (.slice ao (n + 1) cs) (.slice at' lt ct) (.slice aw lw cw) t p m) := hG
      clear hE hB hG
      go_wp2_with (go_at_call 12; refine (neigh w.heap.size n u lt lw S T W _ _ _ w wr HB.out hn hun HG.out.c0 HG.out.c1 HG.out.c2 HS.out HT.out HW.out (HM.out u hun) (H1.out (u + 1) hun) (H2.out (u + 1) hun)).mono ?_; rintro e w' ⟨A, C, A2, C2, k, rfl, rfl, hR1, hR2⟩)
      have hdd : S (u + 1) - S u ≤ 1000000 := by have := H1.out (u + 1) hun; omega
      have hlast : S u + (S (u + 1) - S u) ≤ lt := by have h5 := H1.out (u + 1) hun; have h6 := HM.out u hun; omega
      obtain ⟨d, hd⟩ : ∃ d, d = S (u + 1) - S u := ⟨_, rfl⟩
      rw [← hd] at hR1 hR2 hdd hlast ⊢
      have HR1 : Hid (RD w (.slice A d C) d (fun j => .int .i32 (T (S u + j)))) := hR1
      have HR2 : Hid (RD w (.slice A2 d C2) d (fun j => .float .f64 (W (S u + j)))) := hR2
      have HD : Hid (d = S (u + 1) - S u) := hd
      clear hR1 hR2 hd
      go_loopw [32] (fun i wq => ∃ k : Nat, k ≤ d ∧ i = .int .i64 (k : Int) ∧ Below w.heap.size w wq ∧ ∃ t p m, SE (t, p, m) (inner T W u (S u) (outer S T W u) k) ∧ Gb wq w.heap.size (.slice ao (n + 1) cs) (.slice at' lt ct) (.slice aw lw cw) t p m) (fun i _ => d - (intOf i).toNat)
      case atStart => exact ⟨0, by omega, rfl, below_drewN HB.out _, t, p, m, HE.out, HG.out⟩
      case round =>
        clear HE HB HG
        obtain ⟨k, hk, rfl, hB, t, p, m, hE, hG⟩ := hrel
        by_cases hkd : k < d
        · have hkd' : decide ((k : Int) < (d : Int)) = true := decide_eq_true (by omega)
          obtain ⟨b1, o1, hA1, hb1, hc1⟩ := HR1.out.opened (by omega)
          obtain ⟨b2, o2, hA2, hb2, hc2⟩ := HR2.out.opened (by omega)
          subst hA1 hA2
          have e1 : wr.cell? ⟨b1, o1 + k, none⟩ = some (.int .i32 (T (S u + k))) := by rw [hB.cell (p := ⟨b1, o1 + k, none⟩) hb1]; exact hc1 k hkd
          have e2 : wr.cell? ⟨b2, o2 + k, none⟩ = some (.float .f64 (W (S u + k))) := by rw [hB.cell (p := ⟨b2, o2 + k, none⟩) hb2]; exact hc2 k hkd
          obtain ⟨y0, y1⟩ := HTb.out (S u + k) (by omega)
          have HI : Hid (inner T W u (S u) (outer S T W u) (k + 1) = step u (inner T W u (S u) (outer S T W u) k) (T (S u + k)) (W (S u + k))) := rfl
          clear hc1 hc2
          obtain ⟨y, hy⟩ : ∃ y, y = T (S u + k) := ⟨_, rfl⟩
          obtain ⟨x, hx⟩ : ∃ x, x = W (S u + k) := ⟨_, rfl⟩
          rw [← hy] at e1 y0 y1 HI
          rw [← hx] at e2 HI
          clear hy hx
          have hki : (k : Int) < (d : Int) := by omega
          have n1 : b1 ≠ w.heap.size := by omega
          have n2 : b2 ≠ w.heap.size := by omega
          have HE : Hid (SE (t, p, m) (inner T W u (S u) (outer S T W u) k)) := hE
          have HB : Hid (Below w.heap.size w wr) := hB
          have HG : Hid (Gb wr w.heap.size (.slice ao (n + 1) cs) (.slice at' lt ct) (.slice aw lw cw) t p m) := hG
          have g3 := hG.c3
          have g4 := hG.c4
          have g5 := hG.c5
          have f3 := hG.fz 3
          have f4 := hG.fz 4
          have f5 := hG.fz 5
          clear hE hB hG
          by_cases hyu : y < (u : Int)
          · have hyd : decide (y < (u : Int)) = true := decide_eq_true hyu
            go_wp2
            go_roundw
            case rel =>
              refine ⟨k + 1, by omega, by go_num, HB.out, t, p, m, ?_, HG.out⟩
              rw [HI.out]
              unfold step
              rw [if_pos hyu]; exact HE.out
            case measure => simp [intOf]; omega
          · have hyd : decide (y < (u : Int)) = false := decide_eq_false hyu
            have HI2 : Hid (inner T W u (S u) (outer S T W u) (k + 1) = bump (inner T W u (S u) (outer S T W u) k) x) := by
              show _ = _
              rw [HI.out]; unfold step; rw [if_neg hyu]
            clear HI
            rcases hord : FloatKind.f64.format.order x 0 with _ | ⟨_ | _ | _⟩
            · go_wp2_with (refine wpList_float _ rfl _ _ _ _ _ rfl _ _ rfl rfl rfl ?_; intro r q hr)
              go_roundw
              case rel =>
                refine ⟨k + 1, by omega, by go_num, (below_drewN HB.out _).setCell (Nat.le_refl _) _, _, _, _, ?_, (HG.out.drewN _).set3 _⟩
                rw [HI2.out]
                exact se_none HE.out (by assumption) (by unfold gtB; rw [hord]; rfl) (by unfold ltB; rw [hord]; rfl)
              case measure => simp [intOf]; omega
            · go_wp2_with (refine wpList_float _ rfl _ _ _ _ _ rfl _ _ rfl rfl rfl ?_; intro r q hr)
              go_roundw
              case rel =>
                refine ⟨k + 1, by omega, by go_num, (below_drewN ((below_drewN HB.out _).setCell (Nat.le_refl _) _) _).setCell (Nat.le_refl _) _, _, _, _, ?_, (((HG.out.drewN _).set3 _).drewN _).set5 _⟩
                rw [HI2.out]
                exact se_lt HE.out (by assumption) (by assumption) (by unfold gtB; rw [hord]; rfl) (by unfold ltB; rw [hord]; rfl)
              case measure => simp [intOf]; omega
            · go_wp2_with (refine wpList_float _ rfl _ _ _ _ _ rfl _ _ rfl rfl rfl ?_; intro r q hr)
              go_roundw
              case rel =>
                refine ⟨k + 1, by omega, by go_num, (below_drewN HB.out _).setCell (Nat.le_refl _) _, _, _, _, ?_, (HG.out.drewN _).set3 _⟩
                rw [HI2.out]
                exact se_none HE.out (by assumption) (by unfold gtB; rw [hord]; rfl) (by unfold ltB; rw [hord]; rfl)
              case measure => simp [intOf]; omega
            · go_wp2_with (refine wpList_float _ rfl _ _ _ _ _ rfl _ _ rfl rfl rfl ?_; intro r q hr)
              go_roundw
              case rel =>
                refine ⟨k + 1, by omega, by go_num, (below_drewN ((below_drewN HB.out _).setCell (Nat.le_refl _) _) _).setCell (Nat.le_refl _) _, _, _, _, ?_, (((HG.out.drewN _).set3 _).drewN _).set4 _⟩
                rw [HI2.out]
                exact se_gt HE.out (by assumption) (by assumption) (by unfold gtB; rw [hord]; rfl) 
              case measure => simp [intOf]; omega
        · have hkd' : decide ((k : Int) < (d : Int)) = false := decide_eq_false (by omega)
          have e : k = d := by omega
          subst e
          have HE : Hid (SE (t, p, m) (outer S T W (u + 1))) := by
            show SE _ (inner T W u (S u) (outer S T W u) (S (u + 1) - S u))
            rw [← HD.out]; exact hE
          clear hE
          go_wp2
          go_roundw
          case rel => exact ⟨u + 1, by omega, by go_num, hB, t, p, m, HE.out, hG⟩
          case measure => simp [intOf]; omega
    · have hud : decide ((u : Int) < (n : Int)) = false := decide_eq_false (by omega)
      have e : u = n := by omega
      subst e
      go_wp2
      go_ret
      exact ⟨rfl, hB, t, p, m, hE, hG⟩

end Go.Proofs.Qxb6630535a
