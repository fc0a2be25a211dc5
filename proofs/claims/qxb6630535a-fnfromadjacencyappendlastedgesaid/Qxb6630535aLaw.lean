/- The walk of FnFromAdjacencyAppendLastEdge. -/
import Derived.Test.Qxb6630535aFrom
namespace Go.Proofs.Qxb6630535a
open Go.RowKit
attribute [local go_sem] run_store_float

theorem n11' (g : Nat) (ao : Option Addr) (n c : Nat) (w : World) (hn : n + 1 ≤ 1000000) (hc : w.cell? ⟨g, 0, none⟩ = some (.slice ao (n + 1 + 1) c)) :
    Calls Try.prog 11 #[.pointer (some ⟨g, 0, none⟩)] w fun e w' => e = .returned (.int .i64 ((n : Int) + 1)) ∧ w = w' :=
  n11 g ao (n + 1) c w hn hc

theorem last_neigh (g n E N x : Nat) (S2 : Nat → Nat) (T2 : Nat → Int) (W2 : Nat → Nat) (vs vt vw : Value) (w0 w : World) (hB : Below w0.heap.size w0 w) (hn : n + 1 ≤ 1000000)
    (c0 : w.cell? ⟨g, 0, none⟩ = some vs) (c1 : w.cell? ⟨g, 1, none⟩ = some vt) (c2 : w.cell? ⟨g, 2, none⟩ = some vw)
    (hs : RD w0 vs (n + 1 + 1) (fun j => .int .i64 (S2 j : Int))) (ht : RD w0 vt N (fun j => .int .i32 (T2 j))) (hw : RD w0 vw N (fun j => .float .f64 (W2 j)))
    (h1 : S2 n = E + 1) (h2 : S2 (n + 1) = E + 2) (hN : E + 2 ≤ N) (hT : T2 (E + 1) = (n : Int) - 1) (hW : W2 (E + 1) = x) :
    Calls Try.prog 12 #[.pointer (some ⟨g, 0, none⟩), .int .i64 (n : Int)] w fun e w' => ∃ b3 o3 C b4 o4 C2 k,
      e = .returned (.tuple #[.slice (some ⟨b3, o3, none⟩) 1 C, .slice (some ⟨b4, o4, none⟩) 1 C2]) ∧ w' = w.drewN k ∧ w.cell? ⟨b3, o3, none⟩ = some (.int .i32 ((n : Int) - 1)) ∧ w.cell? ⟨b4, o4, none⟩ = some (.float .f64 x) := by
  refine (neigh g (n + 1) n N N S2 T2 W2 vs vt vw w0 w hB hn (by omega) c0 c1 c2 hs ht hw (by omega) (by omega) (by omega)).mono ?_
  rintro e w' ⟨A, C, A2, C2, k, rfl, rfl, r1, r2⟩
  have e1 : S2 (n + 1) - S2 n = 1 := by omega
  rw [e1] at r1 r2 ⊢
  obtain ⟨b3, o3, rfl, hb3, hc3⟩ := r1.opened (by omega)
  obtain ⟨b4, o4, rfl, hb4, hc4⟩ := r2.opened (by omega)
  have q1 := hc3 0 (by omega)
  have q2 := hc4 0 (by omega)
  simp only [Nat.add_zero, h1, hT, hW] at q1 q2
  exact ⟨b3, o3, C, b4, o4, C2, k, rfl, rfl, by rw [hB.cell (p := ⟨b3, o3, none⟩) hb3]; exact q1, by rw [hB.cell (p := ⟨b4, o4, none⟩) hb4]; exact q2⟩

theorem fe_t {t p m t' p' m' x r : Nat} {X : St} (h : SE (t, p, m) X) (k : SE (t', p', m') (bump X x)) (hr : FRes .add t x r) : FE t' r :=
  k.1.trans ((fop_congr .add (.inl rfl) h.1.symm x).trans (fop_res hr).symm)
theorem fe_p {t p m t' p' m' x r : Nat} {X : St} (h : SE (t, p, m) X) (k : SE (t', p', m') (bump X x)) (hg : gtB x = true) (hr : FRes .add p x r) : FE p' r := by
  have h1 := k.2.1
  unfold bump at h1
  rw [hg] at h1
  exact h1.trans ((fop_congr .add (.inl rfl) h.2.1.symm x).trans (fop_res hr).symm)
theorem fe_p' {t p m t' p' m' x : Nat} {X : St} (h : SE (t, p, m) X) (k : SE (t', p', m') (bump X x)) (hg : gtB x = false) : FE p' p := by
  have h1 := k.2.1
  unfold bump at h1
  rw [hg] at h1
  exact h1.trans h.2.1.symm
theorem fe_m {t p m t' p' m' x r : Nat} {X : St} (h : SE (t, p, m) X) (k : SE (t', p', m') (bump X x)) (hg : gtB x = false) (hl : ltB x = true) (hr : FRes .sub m x r) : FE m' r := by
  have h1 := k.2.2
  unfold bump at h1
  rw [hg, hl] at h1
  exact h1.trans ((fop_congr .sub (.inr rfl) h.2.2.symm x).trans (fop_res hr).symm)
theorem fe_m' {t p m t' p' m' x : Nat} {X : St} (h : SE (t, p, m) X) (k : SE (t', p', m') (bump X x)) (hg : gtB x = true ∨ ltB x = false) : FE m' m := by
  have h1 := k.2.2
  unfold bump at h1
  cases hb : gtB x with
  | true => rw [hb] at h1; exact h1.trans h.2.2.symm
  | false =>
    rw [hb] at h1 hg
    rcases hg with hg | hg
    · cases hg
    · rw [hg] at h1; exact h1.trans h.2.2.symm

set_option maxRecDepth 100000 in
set_option maxHeartbeats 1000000 in
theorem law_in (as' at' aw : Option Addr) (cs ct cw n n1 lt lw x : Nat) (Z T : Nat → Int) (W : Nat → Nat) (w : World)
    (hs : RD w (.slice as' n1 cs) n1 (fun j => .int .i64 (Z j))) (ht : RD w (.slice at' lt ct) lt (fun j => .int .i32 (T j))) (hw : RD w (.slice aw lw cw) lw (fun j => .float .f64 (W j)))
    (k0 : n1 = n + 1) (k1 : n1 ≤ 131072) (k2 : lt ≤ 262144) (k3 : lw ≤ 131072) (k4 : 8 * n1 + 4 * lt + 8 * lw ≤ 1048576) (k5 : 0 ≤ Z 0) (k6 : 1 ≤ n)
    (hT : ∀ j, j < lt → -2147483648 ≤ T j ∧ T j ≤ 2147483647) :
    Calls Try.prog 3 #[.slice as' n1 cs, .slice at' lt ct, .slice aw lw cw, .float .f64 x] w fun e w' => e = .returned (.bool true) ∧ Below w.heap.size w w' := by
  have HS : Hid (RD w (.slice as' n1 cs) n1 (fun j => .int .i64 (Z j))) := hs
  have HT : Hid (RD w (.slice at' lt ct) lt (fun j => .int .i32 (T j))) := ht
  have HW : Hid (RD w (.slice aw lw cw) lw (fun j => .float .f64 (W j))) := hw
  have HTb : Hid (∀ j, j < lt → -2147483648 ≤ T j ∧ T j ≤ 2147483647) := hT
  have hdz : Hid (decide (n1 + lt + lw ≤ 1048576) = true) := decide_eq_true (by omega)
  obtain ⟨b, o, rfl, hb, hc⟩ := hs.opened (by omega)
  have HC : Hid (∀ j, j < n1 → w.cell? ⟨b, o + j, none⟩ = some (.int .i64 (Z j))) := hc
  have z0 : w.cell? ⟨b, o, none⟩ = some (.int .i64 (Z 0)) := hc 0 (by omega)
  have hpos : (0 : Int) < (n1 : Int) := by omega
  have hz0 : decide (Z 0 < 0) = false := decide_eq_false (by omega)
  have hn1 : (n1 : Int) - 1 = (n : Int) := by omega
  have K0 : Hid (n1 = n + 1) := k0
  have hvl : (n : Int) ≤ 131072 := by omega
  have hvg : (1 : Int) ≤ n := by omega
  clear hs ht hw hT hc k0
  go_enter Try.func3, Try.ntmps3
  go_wp2_with (go_at_call 4; refine (zzb4 _ _ _ _ _ _ _ _ _ _ _ (by unfold maxLen; omega) (by unfold maxLen; omega) (by unfold maxLen; omega)).mono ?_; rintro e w' ⟨rfl, rfl⟩; rw [hdz.out])
  go_loopw [10] (fun i wr => ∃ v q : Nat, v ≤ n ∧ i = .int .i64 (v : Int) ∧ wr = w.drewN q ∧ ∀ j, j < v → Z j ≤ Z (j + 1)) (fun i _ => n - (intOf i).toNat)
  case atStart => exact ⟨0, 0, by omega, rfl, rfl, fun j hj => by omega⟩
  case round =>
    obtain ⟨v, q, hv, rfl, rfl, hmono⟩ := hrel
    have HMo : Hid (∀ j, j < v → Z j ≤ Z (j + 1)) := hmono
    clear hmono
    by_cases hvn : v < n
    · have c1 := HC.out v (by have := K0.out; omega)
      have c2 := HC.out (v + 1) (by have := K0.out; omega)
      have hvd : decide ((v : Int) < (n : Int)) = true := decide_eq_true (by omega)
      by_cases hz : Z (v + 1) < Z v
      · go_wp2
        go_quiet (fail)
        go_wp2
        go_ret
        exact ⟨rfl, below_drewN (below_drewN (Below.refl _ _) _) _⟩
      · go_wp2
        go_quiet (fail)
        go_wp2
        go_roundw
        case rel =>
          refine ⟨v + 1, _, by omega, by go_num, rfl, fun j hj => ?_⟩
          by_cases e : j = v
          · subst e; omega
          · exact HMo.out j (by omega)
        case measure => simp [intOf]; omega
    · have e : n = v := by omega
      subst e
      clear hv hvn
      have HZ : Hid (∀ j, j ≤ n → Z j = ((Z j).toNat : Int)) := by
        intro j
        induction j with
        | zero => intro _; omega
        | succ j ih => intro hj; have h5 := ih (by omega); have h6 := HMo.out j (by omega); omega
      obtain ⟨S, hS⟩ : ∃ S : Nat → Nat, ∀ j, S j = (Z j).toNat := ⟨fun j => (Z j).toNat, fun _ => rfl⟩
      have HZS : Hid (∀ j, j ≤ n → Z j = (S j : Int)) := fun j hj => by rw [hS]; exact HZ.out j hj
      have HM : Hid (∀ j, j < n → S j ≤ S (j + 1)) := fun j hj => by
        have h5 := HMo.out j hj
        have h6 := HZS.out j (by omega)
        have h7 := HZS.out (j + 1) (by omega)
        omega
      have HLE : Hid (∀ j, j ≤ n → S j ≤ S n) := by
        have : ∀ d j, j + d = n → S j ≤ S n := by
          intro d
          induction d with
          | zero => intro j hj; have : j = n := by omega
                    rw [this]; exact Nat.le_refl _
          | succ d ih => intro j hj; exact Nat.le_trans (HM.out j (by omega)) (ih (j + 1) (by omega))
        exact fun j hj => this (n - j) j (by omega)
      have HSS : Hid (RD w (.slice (some ⟨b, o, none⟩) n1 cs) n1 (fun j => .int .i64 (S j : Int))) := HS.out.congr fun j hj => by rw [HZS.out j (by have := K0.out; omega)]
      have HCS : Hid (∀ j, j < n1 → w.cell? ⟨b, o + j, none⟩ = some (.int .i64 (S j : Int))) := fun j hj => by rw [HC.out j hj, HZS.out j (by have := K0.out; omega)]
      clear hS HZ HMo HZS HS HC z0 hz0 k5
      have HB0 : Hid (Below w.heap.size w (w.drewN q)) := below_drewN (Below.refl _ _) _
      have cE : (w.drewN q).cell? ⟨b, o + n, none⟩ = some (.int .i64 (S n : Int)) := HCS.out n (by have := K0.out; omega)
      generalize w.drewN q = w0 at *
      obtain ⟨E, hE⟩ : ∃ E, E = S n := ⟨_, rfl⟩
      rw [← hE] at cE
      have HEn : Hid (E = S n) := hE
      clear hE
      have hnn : (n : Int) < (n1 : Int) := by have := K0.out; omega
      have hnd : decide ((n : Int) < (n : Int)) = false := decide_eq_false (by omega)
      by_cases e1 : lt < E
      · have d1 : decide ((lt : Int) < (E : Int)) = true := decide_eq_true (by omega)
        go_wp2
        go_ret
        exact ⟨rfl, HB0.out⟩
      · have d1 : decide ((lt : Int) < (E : Int)) = false := decide_eq_false (by omega)
        by_cases e2 : lw < E
        · have d2 : decide ((lw : Int) < (E : Int)) = true := decide_eq_true (by omega)
          go_wp2
          go_ret
          exact ⟨rfl, HB0.out⟩
        · have d2 : decide ((lw : Int) < (E : Int)) = false := decide_eq_false (by omega)
          obtain ⟨i0, hi, hz0, hz1, hz2⟩ := info_parts info3
          obtain ⟨n2, HN2⟩ : ∃ n2, Hid (n2 = n + 2) := ⟨_, rfl⟩
          have hn2 : n2 ≤ 131073 := by rw [HN2.out]; omega
          go_wp2_with (first
            | (go_at_call 5; refine (clone5 _ n1 (fun j => (S j : Int)) w0 (HSS.out.below HB0.out) (by omega)).mono ?_; rintro e w5 ⟨s1, rfl, r5, b5⟩)
            | (go_at_call 6; refine (clone6 _ lt T w5 ((HT.out.below HB0.out).below b5) (by omega)).mono ?_; rintro e w6 ⟨t1, rfl, r6, b6⟩)
            | (go_at_call 7; refine (clone7 _ lw W w6 (((HW.out.below HB0.out).below b5).below b6) (by omega)).mono ?_; rintro e w7 ⟨u1, rfl, r7, b7⟩)
            | (at_make; refine wpList_make_full _ rfl _ _ 22 rfl w7.heap.size 3 i0 (.int .i64 0) 1 Try.underlying22 hi hz0 hz1 _ _ _ _ n2 rfl rfl (by rw [HN2.out]; omega) (by rw [HN2.out]; omega) (by rw [hz2]; omega) (by unfold maxLen; omega) (Nat.le_refl _) ?_; intro w8 hown hgrow))
          have B7 : Hid (Below w.heap.size w w7) := by
            have h1 := HB0.out.size
            have h2 := b5.size
            have h3 := b6.size
            exact ((HB0.out.trans (b5.mono h1)).trans (b6.mono (Nat.le_trans h1 h2))).trans (b7.mono (Nat.le_trans (Nat.le_trans h1 h2) h3))
          have R5 : Hid (RD w7 s1 n1 (fun j => .int .i64 (S j : Int))) := (r5.below b6).below b7
          have R6 : Hid (RD w7 t1 lt (fun j => .int .i32 (T j))) := r6.below b7
          have R7 : Hid (RD w7 u1 lw (fun j => .float .f64 (W j))) := r7
          obtain ⟨S2, hS2⟩ : ∃ S2 : Nat → Nat, ∀ j, S2 j = if j < n then S j else if j = n then E + 1 else E + 2 := ⟨fun j => if j < n then S j else if j = n then E + 1 else E + 2, fun _ => rfl⟩
          have HS2 : Hid (∀ j, S2 j = if j < n then S j else if j = n then E + 1 else E + 2) := hS2
          have P0 : Hid (Part w8 w7.heap.size 3 n2 0 (fun j => .int .i64 (S2 j : Int))) := Part.made hown _
          have B8 : Hid (Below w7.heap.size w7 w8) := grown_below hgrow
          have hbw : b < w7.heap.size := Nat.lt_of_lt_of_le hb B7.out.size
          have HC7 : Hid (∀ j, j < n1 → w7.cell? ⟨b, o + j, none⟩ = some (.int .i64 (S j : Int))) := fun j hj => by rw [B7.out.cell (p := ⟨b, o + j, none⟩) hb]; exact HCS.out j hj
          clear b5 b6 b7 r5 r6 r7 hown hgrow hi hz0 hz1 hz2 hS2 cE hnd
          go_loopw [16] (fun i wr => ∃ k : Nat, k ≤ n ∧ i = .int .i64 (k : Int) ∧ Part wr w7.heap.size 3 n2 k (fun j => .int .i64 (S2 j : Int)) ∧ Below w7.heap.size w7 wr) (fun i _ => n - (intOf i).toNat)
          case atStart => exact ⟨0, by omega, rfl, P0.out, B8.out⟩
          case round =>
            clear P0 B8
            obtain ⟨k, hk, rfl, hP, hB⟩ := hrel
            by_cases hkn : k < n
            · have hsrc : wr.cell? ⟨b, o + k, none⟩ = some (.int .i64 (S k : Int)) := by rw [hB.cell (p := ⟨b, o + k, none⟩) hbw]; exact HC7.out k (by have := K0.out; omega)
              obtain ⟨uo, hold⟩ := hP.there (j := k) (by rw [HN2.out]; omega)
              have hfz := hP.frozen k
              have R : Hid (Part (wr.setCell ⟨w7.heap.size, k, none⟩ (.int .i64 (S k : Int))) w7.heap.size 3 n2 (k + 1) (fun j => .int .i64 (S2 j : Int))) := hP.set (by rw [HN2.out]; omega) _ (by rw [HS2.out k, if_pos hkn])
              have R2 : Hid (Below w7.heap.size w7 (wr.setCell ⟨w7.heap.size, k, none⟩ (.int .i64 (S k : Int)))) := hB.setCell (by exact Nat.le_refl _) _
              have hkd : decide ((k : Int) < (n : Int)) = true := decide_eq_true (by omega)
              have hki : (k : Int) < (n1 : Int) := by omega
              have hki2 : (k : Int) < (n2 : Int) := by have := HN2.out; omega
              clear hP hB
              go_wp2
              go_roundw
              case rel => exact ⟨k + 1, by omega, by go_num, R.out, R2.out⟩
              case measure => simp [intOf]; omega
            · have e : n = k := by omega
              subst e
              clear hk hkn
              have hnd : decide ((n : Int) < (n : Int)) = false := decide_eq_false (by omega)
              obtain ⟨uo, hold⟩ := hP.there (j := n) (by rw [HN2.out]; omega)
              obtain ⟨uo2, hold2⟩ := hP.there (j := n + 1) (by rw [HN2.out]; omega)
              have hfz := hP.frozen n
              have hfz2 := hP.frozen (n + 1)
              have hki2 : (n : Int) < (n2 : Int) := by have := HN2.out; omega
              have hki3 : (n : Int) + 1 < (n2 : Int) := by have := HN2.out; omega
              have Ra : Part (wr.setCell ⟨w7.heap.size, n, none⟩ (.int .i64 ((E : Int) + 1))) w7.heap.size 3 n2 (n + 1) (fun j => .int .i64 (S2 j : Int)) := hP.set (by rw [HN2.out]; omega) _ (by rw [HS2.out n, if_neg (by omega), if_pos rfl]; rfl)
              have Rb : Hid (Part ((wr.setCell ⟨w7.heap.size, n, none⟩ (.int .i64 ((E : Int) + 1))).setCell ⟨w7.heap.size, n + 1, none⟩ (.int .i64 ((E : Int) + 2))) w7.heap.size 3 n2 n2 (fun j => .int .i64 (S2 j : Int))) := by
                have h9 := Ra.set (by rw [HN2.out]; omega) (.int .i64 ((E : Int) + 2)) (by rw [HS2.out (n + 1), if_neg (by omega), if_neg (by omega)]; rfl)
                have e9 : n + 1 + 1 = n2 := by rw [HN2.out]
                rw [e9] at h9; exact h9
              have Rc : Hid (Below w7.heap.size w7 ((wr.setCell ⟨w7.heap.size, n, none⟩ (.int .i64 ((E : Int) + 1))).setCell ⟨w7.heap.size, n + 1, none⟩ (.int .i64 ((E : Int) + 2)))) := (hB.setCell (by exact Nat.le_refl _) _).setCell (by exact Nat.le_refl _) _
              clear hP hB Ra
              go_upto_region 28 with fail
              generalize ((wr.setCell ⟨w7.heap.size, n, none⟩ (.int .i64 ((E : Int) + 1))).setCell ⟨w7.heap.size, n + 1, none⟩ (.int .i64 ((E : Int) + 2))) = wb at *
              clear hold hold2 hfz hfz2 hki2 hki3
              obtain ⟨i1, hi, hz0, hz1, hz2⟩ := info_parts info21
              obtain ⟨i2, hj, hy0, hy1, hy2⟩ := info_parts info25
              obtain ⟨n3, HN3⟩ : ∃ n3, Hid (n3 = E + 2) := ⟨_, rfl⟩
              have hn3 : n3 ≤ 131074 := by rw [HN3.out]; omega
              have hEb : (E : Int) ≤ 131072 := by omega
              go_wp2_with (first
                | (at_make; refine wpList_make_full _ rfl _ _ 23 rfl wb.heap.size 21 i1 (.int .i32 0) 1 Try.underlying23 hi hz0 hz1 _ _ _ _ n3 rfl rfl (by rw [HN3.out]; omega) (by rw [HN3.out]; omega) (by rw [hz2]; omega) (by unfold maxLen; omega) (Nat.le_refl _) ?_; intro w9 hown hgrow)
                | (at_make; refine wpList_make_full _ rfl _ _ 24 rfl w9.heap.size 25 i2 (.float .f64 0) 1 Try.underlying24 hj hy0 hy1 _ _ _ _ n3 rfl rfl (by rw [HN3.out]; omega) (by rw [HN3.out]; omega) (by rw [hy2]; omega) (by unfold maxLen; omega) (Nat.le_refl _) ?_; intro w10 hown2 hgrow2))
              obtain ⟨T2, hT2⟩ : ∃ T2 : Nat → Int, ∀ j, T2 j = if j < E then T j else if j = E then (n : Int) else (n : Int) - 1 := ⟨fun j => if j < E then T j else if j = E then (n : Int) else (n : Int) - 1, fun _ => rfl⟩
              obtain ⟨W2, hW2⟩ : ∃ W2 : Nat → Nat, ∀ j, W2 j = if j < E then W j else x := ⟨fun j => if j < E then W j else x, fun _ => rfl⟩
              have HT2 : Hid (∀ j, T2 j = if j < E then T j else if j = E then (n : Int) else (n : Int) - 1) := hT2
              have HW2 : Hid (∀ j, W2 j = if j < E then W j else x) := hW2
              have PT : Hid (Part w10 wb.heap.size 21 n3 0 (fun j => .int .i32 (T2 j))) := (Part.made hown _).below (grown_below hgrow2)
              have PW : Hid (Part w10 w9.heap.size 25 n3 0 (fun j => .float .f64 (W2 j))) := Part.made hown2 _
              have hg34 : wb.heap.size < w9.heap.size := (Part.made hown (fun _ => .int .i32 0)).lt
              have B10 : Hid (Below wb.heap.size wb w10) := (grown_below hgrow).trans ((grown_below hgrow2).mono (Nat.le_of_lt hg34))
              have HCB : Hid (∀ (v : Value) (N : Nat) (f : Nat → Value), RD w v N f → RD wb v N f) := fun v N f h => (h.below B7.out).below Rc.out
              clear hown hown2 hgrow hgrow2 hi hz0 hz1 hz2 hj hy0 hy1 hy2 hT2 hW2 hnd
              generalize hg4 : w9.heap.size = g4 at *
              clear hg4
              go_loopw [19] (fun i wr => ∃ k : Nat, k ≤ E ∧ i = .int .i64 (k : Int) ∧ Part wr wb.heap.size 21 n3 k (fun j => .int .i32 (T2 j)) ∧ Part wr g4 25 n3 k (fun j => .float .f64 (W2 j)) ∧ Below wb.heap.size wb wr) (fun i _ => E - (intOf i).toNat)
              case atStart => exact ⟨0, by omega, rfl, PT.out, PW.out, B10.out⟩
              case round =>
                clear PT PW B10
                obtain ⟨k, hk, rfl, hP, hQ, hB⟩ := hrel
                by_cases hkE : k < E
                · obtain ⟨b1, o1, hA1, hb1, hc1⟩ := (HCB.out _ _ _ HT.out).opened (by omega)
                  obtain ⟨b2, o2, hA2, hb2, hc2⟩ := (HCB.out _ _ _ HW.out).opened (by omega)
                  subst hA1 hA2
                  have s1' : wr.cell? ⟨b1, o1 + k, none⟩ = some (.int .i32 (T k)) := by rw [hB.cell (p := ⟨b1, o1 + k, none⟩) hb1]; exact hc1 k (by omega)
                  have s2' : wr.cell? ⟨b2, o2 + k, none⟩ = some (.float .f64 (W k)) := by rw [hB.cell (p := ⟨b2, o2 + k, none⟩) hb2]; exact hc2 k (by omega)
                  obtain ⟨uo, hold⟩ := hP.there (j := k) (by rw [HN3.out]; omega)
                  obtain ⟨uo2, hold2⟩ := hQ.there (j := k) (by rw [HN3.out]; omega)
                  have hfz := hP.frozen k
                  have hfz2 := hQ.frozen k
                  have hk3 : k < n3 := by rw [HN3.out]; omega
                  have hP' := (hP.set hk3 (.int .i32 (T k)) (by rw [HT2.out k, if_pos hkE])).other (i := k) (Nat.ne_of_lt hg34) (.float .f64 (W k))
                  have hQ' := (hQ.other (i := k) (Nat.ne_of_gt hg34) (.int .i32 (T k))).set hk3 (.float .f64 (W k)) (by rw [HW2.out k, if_pos hkE])
                  have hB' := (hB.setCell (p := ⟨wb.heap.size, k, none⟩) (Nat.le_refl _) (.int .i32 (T k))).setCell (p := ⟨g4, k, none⟩) (Nat.le_of_lt hg34) (.float .f64 (W k))
                  have R1 : Hid (Part ((wr.setCell ⟨wb.heap.size, k, none⟩ (.int .i32 (T k))).setCell ⟨g4, k, none⟩ (.float .f64 (W k))) wb.heap.size 21 n3 (k + 1) (fun j => .int .i32 (T2 j))) := hP'
                  have R2 : Hid (Part ((wr.setCell ⟨wb.heap.size, k, none⟩ (.int .i32 (T k))).setCell ⟨g4, k, none⟩ (.float .f64 (W k))) g4 25 n3 (k + 1) (fun j => .float .f64 (W2 j))) := hQ'
                  have R3 : Hid (Below wb.heap.size wb ((wr.setCell ⟨wb.heap.size, k, none⟩ (.int .i32 (T k))).setCell ⟨g4, k, none⟩ (.float .f64 (W k)))) := hB'
                  have hkd : decide ((k : Int) < (E : Int)) = true := decide_eq_true (by omega)
                  have hki : (k : Int) < (lt : Int) := by omega
                  have hki2 : (k : Int) < (lw : Int) := by omega
                  have hki3 : (k : Int) < (n3 : Int) := by omega
                  have hne : g4 ≠ wb.heap.size := Nat.ne_of_gt hg34
                  have hne1 : b1 ≠ wb.heap.size := by omega
                  have hne2 : b2 ≠ wb.heap.size := by omega
                  clear hP hQ hB hP' hQ' hB' hc1 hc2
                  go_wp2
                  go_roundw
                  case rel => exact ⟨k + 1, by omega, by go_num, R1.out, R2.out, R3.out⟩
                  case measure => simp [intOf]; omega
                · have e : E = k := by omega
                  subst e
                  clear hk hkE
                  have hEd : decide ((E : Int) < (E : Int)) = false := decide_eq_false (by omega)
                  obtain ⟨v1, o1⟩ := hP.there (j := E) (by rw [HN3.out]; omega)
                  obtain ⟨v2, o2⟩ := hP.there (j := E + 1) (by rw [HN3.out]; omega)
                  obtain ⟨v3, o3⟩ := hQ.there (j := E) (by rw [HN3.out]; omega)
                  obtain ⟨v4, o4⟩ := hQ.there (j := E + 1) (by rw [HN3.out]; omega)
                  have f1 := hP.frozen E
                  have f2 := hP.frozen (E + 1)
                  have f3 := hQ.frozen E
                  have f4 := hQ.frozen (E + 1)
                  have hk3 : E < n3 := by rw [HN3.out]; omega
                  have hk4 : E + 1 < n3 := by rw [HN3.out]; omega
                  have hk5 : (E : Int) < (n3 : Int) := by omega
                  have hk6 : (E : Int) + 1 < (n3 : Int) := by omega
                  have e9 : E + 1 + 1 = n3 := by rw [HN3.out]
                  have hne : g4 ≠ wb.heap.size := Nat.ne_of_gt hg34
                  have hP1 := (((hP.set hk3 (.int .i32 (n : Int)) (by rw [HT2.out E, if_neg (by omega), if_pos rfl])).set hk4 (.int .i32 ((n : Int) - 1)) (by rw [HT2.out (E + 1), if_neg (by omega), if_neg (by omega)])).other (i := E) (Nat.ne_of_lt hg34) (.float .f64 x)).other (i := E + 1) (Nat.ne_of_lt hg34) (.float .f64 x)
                  have hQ1 := (((hQ.other (i := E) (Nat.ne_of_gt hg34) (.int .i32 (n : Int))).other (i := E + 1) (Nat.ne_of_gt hg34) (.int .i32 ((n : Int) - 1))).set hk3 (.float .f64 x) (by rw [HW2.out E, if_neg (by omega)])).set hk4 (.float .f64 x) (by rw [HW2.out (E + 1), if_neg (by omega)])
                  have hB1 := (((hB.setCell (p := ⟨wb.heap.size, E, none⟩) (Nat.le_refl _) (.int .i32 (n : Int))).setCell (p := ⟨wb.heap.size, E + 1, none⟩) (Nat.le_refl _) (.int .i32 ((n : Int) - 1))).setCell (p := ⟨g4, E, none⟩) (Nat.le_of_lt hg34) (.float .f64 x)).setCell (p := ⟨g4, E + 1, none⟩) (Nat.le_of_lt hg34) (.float .f64 x)
                  rw [e9] at hP1 hQ1
                  clear hP hQ hB
                  go_upto_region 39 with fail
                  generalize ((((wr.setCell ⟨wb.heap.size, E, none⟩ (.int .i32 (n : Int))).setCell ⟨wb.heap.size, E + 1, none⟩ (.int .i32 ((n : Int) - 1))).setCell ⟨g4, E, none⟩ (.float .f64 x)).setCell ⟨g4, E + 1, none⟩ (.float .f64 x)) = wc at *
                  clear o1 o2 o3 o4 f1 f2 f3 f4 hk5 hk6 hne v1 v2 v3 v4
                  have hnb : n ≤ 131072 := by omega
                  have RC : ∀ (v : Value) (N : Nat) (f : Nat → Value), RD w7 v N f → RD wc v N f := fun v N f h => (h.below Rc.out).below hB1
                  have Bwc : Hid (Below w.heap.size w wc) := (B7.out.trans (Rc.out.mono B7.out.size)).trans (hB1.mono (Nat.le_trans B7.out.size Rc.out.size))
                  have q1 : RD wc s1 (n + 1) (fun j => .int .i64 (S j : Int)) := by rw [← K0.out]; exact RC _ _ _ R5.out
                  have q4 : RD wc (.slice (some ⟨w7.heap.size, 0, none⟩) n2 n2) (n + 1 + 1) (fun j => .int .i64 (S2 j : Int)) := by
                    have e8 : n + 1 + 1 = n2 := HN2.out.symm
                    rw [e8]; exact Rb.out.rd.below hB1
                  have q5 : RD wc (.slice (some ⟨wb.heap.size, 0, none⟩) n3 n3) n3 (fun j => .int .i32 (T2 j)) := hP1.rd
                  have q6 : RD wc (.slice (some ⟨g4, 0, none⟩) n3 n3) n3 (fun j => .float .f64 (W2 j)) := hQ1.rd
                  have hE3 := HN3.out
                  have hEn := HEn.out
                  have X1 : Hid (∃ ao c, s1 = .slice ao (n + 1) c) := by obtain ⟨ao, c, e, _⟩ := q1; exact ⟨ao, c, e⟩
                  have C1 : Hid (Calls Try.prog 8 #[s1, t1, u1] wc fun e w' => e = .returned (.pointer (some ⟨wc.heap.size, 0, none⟩)) ∧ Below wc.heap.size wc w' ∧ ∃ t p m, SE (t, p, m) (outer S T W n) ∧ Gb w' wc.heap.size s1 t1 u1 t p m) :=
                    from8 s1 t1 u1 n lt lw S T W wc (by omega) q1 (RC _ _ _ R6.out) (RC _ _ _ R7.out) HM.out (fun j hj => by have := HLE.out j hj; omega) (fun j hj => by have := HLE.out j hj; omega) (by omega) HTb.out
                  have hT2b : ∀ j, j < n3 → -2147483648 ≤ T2 j ∧ T2 j ≤ 2147483647 := by
                    intro j hj
                    rw [HT2.out j]
                    by_cases h1 : j < E
                    · rw [if_pos h1]; exact HTb.out j (by omega)
                    · rw [if_neg h1]
                      by_cases h2 : j = E
                      · rw [if_pos h2]; omega
                      · rw [if_neg h2]; omega
                  have hS2m : ∀ j, j < n + 1 → S2 j ≤ S2 (j + 1) := by
                    intro j hj
                    rw [HS2.out j, HS2.out (j + 1)]
                    by_cases h1 : j + 1 < n
                    · rw [if_pos (by omega), if_pos h1]; exact HM.out j (by omega)
                    · by_cases h2 : j + 1 = n
                      · rw [if_pos (by omega), if_neg (by omega), if_pos h2]
                        have := HLE.out j (by omega)
                        omega
                      · rw [if_neg (by omega), if_pos (by omega), if_neg (by omega), if_neg (by omega)]; omega
                  have hS2b : ∀ j, j ≤ n + 1 → S2 j ≤ n3 := by
                    intro j hj
                    rw [HS2.out j]
                    by_cases h1 : j < n
                    · rw [if_pos h1]; have := HLE.out j (by omega); omega
                    · rw [if_neg h1]
                      by_cases h2 : j = n
                      · rw [if_pos h2]; omega
                      · rw [if_neg h2]; omega
                  have hmore : outer S2 T2 W2 (n + 1) = bump (outer S T W n) x := by
                    obtain ⟨m0, rfl⟩ : ∃ m0, n = m0 + 1 := ⟨n - 1, by omega⟩
                    exact outer_more m0 E x HM.out hEn.symm (fun j hj => by rw [HS2.out j, if_pos (by omega)]) (by rw [HS2.out (m0 + 1), if_neg (by omega), if_pos rfl]) (by rw [HS2.out (m0 + 2), if_neg (by omega), if_neg (by omega)])
                      (fun j hj => by rw [HT2.out j, if_pos hj]) (fun j hj => by rw [HW2.out j, if_pos hj]) (by rw [HT2.out E, if_neg (by omega), if_pos rfl]; rfl) (by rw [HT2.out (E + 1), if_neg (by omega), if_neg (by omega)]; omega) (by rw [HW2.out E, if_neg (by omega)])
                  have C2 : Hid (∀ wd, Below wc.heap.size wc wd → Calls Try.prog 8 #[.slice (some ⟨w7.heap.size, 0, none⟩) n2 n2, .slice (some ⟨wb.heap.size, 0, none⟩) n3 n3, .slice (some ⟨g4, 0, none⟩) n3 n3] wd fun e w' => e = .returned (.pointer (some ⟨wd.heap.size, 0, none⟩)) ∧ Below wd.heap.size wd w' ∧
                      ∃ t p m, SE (t, p, m) (bump (outer S T W n) x) ∧ Gb w' wd.heap.size (.slice (some ⟨w7.heap.size, 0, none⟩) n2 n2) (.slice (some ⟨wb.heap.size, 0, none⟩) n3 n3) (.slice (some ⟨g4, 0, none⟩) n3 n3) t p m) := by
                    intro wd hd
                    rw [← hmore]
                    exact from8 _ _ _ (n + 1) n3 n3 S2 T2 W2 wd (by omega) (q4.below hd) (q5.below hd) (q6.below hd) hS2m hS2b hS2b (by omega) hT2b
                  have CN : Hid (∀ (g : Nat) (w' : World), Below wc.heap.size wc w' → w'.cell? ⟨g, 0, none⟩ = some (.slice (some ⟨w7.heap.size, 0, none⟩) n2 n2) → w'.cell? ⟨g, 1, none⟩ = some (.slice (some ⟨wb.heap.size, 0, none⟩) n3 n3) → w'.cell? ⟨g, 2, none⟩ = some (.slice (some ⟨g4, 0, none⟩) n3 n3) →
                      Calls Try.prog 12 #[.pointer (some ⟨g, 0, none⟩), .int .i64 (n : Int)] w' fun e w'' => ∃ b3 o3 C b4 o4 C2 k,
                        e = .returned (.tuple #[.slice (some ⟨b3, o3, none⟩) 1 C, .slice (some ⟨b4, o4, none⟩) 1 C2]) ∧ w'' = w'.drewN k ∧ w'.cell? ⟨b3, o3, none⟩ = some (.int .i32 ((n : Int) - 1)) ∧ w'.cell? ⟨b4, o4, none⟩ = some (.float .f64 x)) :=
                    fun g w' hb' c0 c1 c2 => last_neigh g n E n3 x S2 T2 W2 _ _ _ wc w' hb' (by omega) c0 c1 c2 q4 q5 q6 (by rw [HS2.out n, if_neg (by omega), if_pos rfl]) (by rw [HS2.out (n + 1), if_neg (by omega), if_neg (by omega)]) (by omega)
                      (by rw [HT2.out (E + 1), if_neg (by omega), if_neg (by omega)]) (by rw [HW2.out (E + 1), if_neg (by omega)])
                  clear q1 q4 q5 q6 hT2b hS2m hS2b hmore hP1 hQ1 hB1 RC hE3 hEn e9
                  go_upto_region 40 with (go_at_call 8; refine C1.out.mono ?_; rintro e wd ⟨rfl, hd, t, p, m, hE1, hG1⟩)
                  go_upto_region 41 with (go_at_call 8; refine (C2.out wd hd).mono ?_; rintro e we ⟨rfl, he, t', p', m', hE2, hG2⟩)
                  have G1 : Hid (Gb we wc.heap.size s1 t1 u1 t p m) := by
                    show we.heap[wc.heap.size]? = _
                    rw [he.block _ hG1.lt]; exact hG1
                  have G2 : Hid (Gb we wd.heap.size (.slice (some ⟨w7.heap.size, 0, none⟩) n2 n2) (.slice (some ⟨wb.heap.size, 0, none⟩) n3 n3) (.slice (some ⟨g4, 0, none⟩) n3 n3) t' p' m') := hG2
                  have HE1 : Hid (SE (t, p, m) (outer S T W n)) := hE1
                  have HE2 : Hid (SE (t', p', m') (bump (outer S T W n) x)) := hE2
                  have Bce : Hid (Below wc.heap.size wc we) := hd.trans (he.mono hd.size)
                  have Bwe : Hid (Below w.heap.size w we) := Bwc.out.trans (Bce.out.mono Bwc.out.size)
                  clear hE1 hE2 hG1 hG2 hd he C1 C2
                  generalize wc.heap.size = g5 at *
                  generalize wd.heap.size = g6 at *
                  obtain ⟨ao1, c1, es1⟩ := X1.out
                  have N1 : Hid (we.cell? ⟨g5, 0, none⟩ = some (.slice ao1 (n + 1) c1)) := by
                    show _ = _
                    rw [G1.out.c0, es1]
                  have N2 : Hid (we.cell? ⟨g6, 0, none⟩ = some (.slice (some ⟨w7.heap.size, 0, none⟩) (n + 1 + 1) n2)) := by
                    show _ = _
                    rw [G2.out.c0, HN2.out]
                  clear es1
                  go_upto_region 44 with (go_at_call 9; refine (totals9 g5 t p m _ G1.out.c3 G1.out.c4 G1.out.c5).mono ?_; rintro e w' ⟨rfl, ka, rfl⟩)
                  go_upto_region 45 with (go_at_call 9; refine (totals9 g6 t' p' m' (we.drewN ka) (G2.out.drewN ka).c3 (G2.out.drewN ka).c4 (G2.out.drewN ka).c5).mono ?_; rintro e w' ⟨rfl, kb, rfl⟩)
                  have Bwf : Hid (Below w.heap.size w (we.drewN (ka + kb))) := below_drewN Bwe.out _
                  have HN : Hid (∀ (g : Nat) (k : Int), (g = g5 ∧ k = (n : Int)) ∨ (g = g6 ∧ k = (n : Int) + 1) → ∀ q, Calls Try.prog 11 #[.pointer (some ⟨g, 0, none⟩)] ((we.drewN (ka + kb)).drewN q) fun e w' => e = .returned (.int .i64 k) ∧ (we.drewN (ka + kb)).drewN q = w') := by
                    intro g k h q
                    rcases h with ⟨rfl, rfl⟩ | ⟨rfl, rfl⟩
                    · exact n11 g ao1 n c1 _ (by omega) N1.out
                    · exact n11' g _ n n2 _ (by omega) N2.out
                  have CNf : Hid (∀ q, Calls Try.prog 12 #[.pointer (some ⟨g6, 0, none⟩), .int .i64 (n : Int)] ((we.drewN (ka + kb)).drewN q) fun e w'' => ∃ b3 o3 C b4 o4 C2 k,
                        e = .returned (.tuple #[.slice (some ⟨b3, o3, none⟩) 1 C, .slice (some ⟨b4, o4, none⟩) 1 C2]) ∧ w'' = ((we.drewN (ka + kb)).drewN q).drewN k ∧ (we.drewN (ka + kb)).cell? ⟨b3, o3, none⟩ = some (.int .i32 ((n : Int) - 1)) ∧ (we.drewN (ka + kb)).cell? ⟨b4, o4, none⟩ = some (.float .f64 x)) :=
                    fun q => CN.out g6 _ (below_drewN (below_drewN Bce.out _) _) G2.out.c0 G2.out.c1 G2.out.c2
                  clear N1 N2 G1 G2 CN Bce Bwe Bwc
                  generalize we.drewN (ka + kb) = wf at *
                  rcases hord : FloatKind.f64.format.order x 0 with _ | ⟨_ | _ | _⟩
                  · have hg : Hid (gtB x = false) := by show _ = _; unfold gtB; rw [hord]; rfl
                    have hl : Hid (ltB x = false) := by show _ = _; unfold ltB; rw [hord]; rfl
                    go_upto_region 53 with (first | (refine wpList_float _ rfl _ _ _ _ _ rfl _ _ rfl rfl rfl ?_; intro r qq hr) | (go_at_call 10; refine (same10 _ _ ?_ _).mono ?_; (first | exact fe_t HE1.out HE2.out (by assumption) | exact fe_p' HE1.out HE2.out hg.out | exact fe_m' HE1.out HE2.out (.inr hl.out)); rintro e w' ⟨rfl, rfl⟩))
                    go_upto_region 55 with (go_at_call 11; refine (HN.out _ _ (by first | exact .inl ⟨rfl, rfl⟩ | exact .inr ⟨rfl, rfl⟩) _).mono ?_; rintro e w' ⟨rfl, rfl⟩)
                    go_upto_region 56 with (go_at_call 12; refine (CNf.out _).mono ?_; rintro e w' ⟨b3, o3, C3, b4, o4, C4, k4, rfl, rfl, y3, y4⟩)
                    go_wp2_with (go_at_call 10; refine (same10 _ _ (FE.refl _) _).mono ?_; rintro e w' ⟨rfl, rfl⟩)
                    go_ret
                    exact ⟨rfl, below_drewN Bwf.out _⟩
                  · have hg : Hid (gtB x = false) := by show _ = _; unfold gtB; rw [hord]; rfl
                    have hl : Hid (ltB x = true) := by show _ = _; unfold ltB; rw [hord]; rfl
                    go_upto_region 53 with (first | (refine wpList_float _ rfl _ _ _ _ _ rfl _ _ rfl rfl rfl ?_; intro r qq hr) | (go_at_call 10; refine (same10 _ _ ?_ _).mono ?_; (first | exact fe_t HE1.out HE2.out (by assumption) | exact fe_p' HE1.out HE2.out hg.out | exact fe_m HE1.out HE2.out hg.out hl.out (by assumption)); rintro e w' ⟨rfl, rfl⟩))
                    go_upto_region 55 with (go_at_call 11; refine (HN.out _ _ (by first | exact .inl ⟨rfl, rfl⟩ | exact .inr ⟨rfl, rfl⟩) _).mono ?_; rintro e w' ⟨rfl, rfl⟩)
                    go_upto_region 56 with (go_at_call 12; refine (CNf.out _).mono ?_; rintro e w' ⟨b3, o3, C3, b4, o4, C4, k4, rfl, rfl, y3, y4⟩)
                    go_wp2_with (go_at_call 10; refine (same10 _ _ (FE.refl _) _).mono ?_; rintro e w' ⟨rfl, rfl⟩)
                    go_ret
                    exact ⟨rfl, below_drewN Bwf.out _⟩
                  · have hg : Hid (gtB x = false) := by show _ = _; unfold gtB; rw [hord]; rfl
                    have hl : Hid (ltB x = false) := by show _ = _; unfold ltB; rw [hord]; rfl
                    go_upto_region 53 with (first | (refine wpList_float _ rfl _ _ _ _ _ rfl _ _ rfl rfl rfl ?_; intro r qq hr) | (go_at_call 10; refine (same10 _ _ ?_ _).mono ?_; (first | exact fe_t HE1.out HE2.out (by assumption) | exact fe_p' HE1.out HE2.out hg.out | exact fe_m' HE1.out HE2.out (.inr hl.out)); rintro e w' ⟨rfl, rfl⟩))
                    go_upto_region 55 with (go_at_call 11; refine (HN.out _ _ (by first | exact .inl ⟨rfl, rfl⟩ | exact .inr ⟨rfl, rfl⟩) _).mono ?_; rintro e w' ⟨rfl, rfl⟩)
                    go_upto_region 56 with (go_at_call 12; refine (CNf.out _).mono ?_; rintro e w' ⟨b3, o3, C3, b4, o4, C4, k4, rfl, rfl, y3, y4⟩)
                    go_wp2_with (go_at_call 10; refine (same10 _ _ (FE.refl _) _).mono ?_; rintro e w' ⟨rfl, rfl⟩)
                    go_ret
                    exact ⟨rfl, below_drewN Bwf.out _⟩
                  · have hg : Hid (gtB x = true) := by show _ = _; unfold gtB; rw [hord]; rfl
                    go_upto_region 53 with (first | (refine wpList_float _ rfl _ _ _ _ _ rfl _ _ rfl rfl rfl ?_; intro r qq hr) | (go_at_call 10; refine (same10 _ _ ?_ _).mono ?_; (first | exact fe_t HE1.out HE2.out (by assumption) | exact fe_p HE1.out HE2.out hg.out (by assumption) | exact fe_m' HE1.out HE2.out (.inl hg.out)); rintro e w' ⟨rfl, rfl⟩))
                    go_upto_region 55 with (go_at_call 11; refine (HN.out _ _ (by first | exact .inl ⟨rfl, rfl⟩ | exact .inr ⟨rfl, rfl⟩) _).mono ?_; rintro e w' ⟨rfl, rfl⟩)
                    go_upto_region 56 with (go_at_call 12; refine (CNf.out _).mono ?_; rintro e w' ⟨b3, o3, C3, b4, o4, C4, k4, rfl, rfl, y3, y4⟩)
                    go_wp2_with (go_at_call 10; refine (same10 _ _ (FE.refl _) _).mono ?_; rintro e w' ⟨rfl, rfl⟩)
                    go_ret
                    exact ⟨rfl, below_drewN Bwf.out _⟩

end Go.Proofs.Qxb6630535a
