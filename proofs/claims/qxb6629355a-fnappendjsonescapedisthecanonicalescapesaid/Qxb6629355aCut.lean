/- The walk of FnAppendJSONEscapedCutAnywhereAndByteByByte. -/
import Derived.Test.Qxb6629355aApp
import Derived.Test.Qxb6629355aBytes
namespace Go.Proofs.Qxb6629355a
open Go.RowKit Go.Lib
attribute [local go_sem] Go.wp_at_zero Go.wp_at_succ

set_option maxHeartbeats 400000 in
theorem zzb11 (a0 : Option Addr) (n c : Nat) (s : ByteArray) (k : Int) (w : World) (hn : n ≤ maxLen) (hs : s.size ≤ maxLen) :
    Calls Try.prog 11 #[.slice a0 n c, .string s, .int .i64 k] w fun e w' => e = .returned (.bool (decide (n + s.size ≤ 1048576))) ∧ w = w' := by
  unfold maxLen at hn hs
  by_cases h1 : 1048576 < n
  · have hd : decide (n + s.size ≤ 1048576) = false := decide_eq_false (by omega)
    rw [hd]
    clear hd
    have h1' : (1048576 : Int) < (n : Int) := by omega
    go_enter Try.func11, Try.ntmps11
    go_wp2
    go_ret
    exact ⟨rfl, rfl⟩
  · by_cases h2 : 1048576 < s.size
    · have hd : decide (n + s.size ≤ 1048576) = false := decide_eq_false (by omega)
      rw [hd]
      clear hd
      have h2' : (1048576 : Int) < (s.size : Int) := by omega
      go_enter Try.func11, Try.ntmps11
      go_wp2
      go_ret
      exact ⟨rfl, rfl⟩
    · by_cases h3 : n + s.size ≤ 1048576
      · have hd : decide (n + s.size ≤ 1048576) = true := decide_eq_true h3
        rw [hd]
        clear hd
        go_enter Try.func11, Try.ntmps11
        go_wp2
        go_ret
        exact ⟨rfl, rfl⟩
      · have hd : decide (n + s.size ≤ 1048576) = false := decide_eq_false h3
        rw [hd]
        clear hd
        go_enter Try.func11, Try.ntmps11
        go_wp2
        go_ret
        exact ⟨rfl, rfl⟩

theorem SB.below {w w' : World} {v : Value} {bs : List UInt8} {B : Nat} (h : SB w v bs) (hb : Below B w w') (hlt : ∀ k, v.ownBlock = some k → k < B) : SB w' v bs :=
  h.keep fun a _ hu ho => (hb.cell (p := a) (hlt _ ho)).trans hu

theorem Own.below {base : Nat} {w0 w : World} {v0 v : Value} {bs : List UInt8} (h : Own base w0 v0.ownBlock w v bs) (hv : ∀ k, v0.ownBlock = some k → base ≤ k) : Below base w0 w :=
  (Below.refl base w0).grown h.grew h.low hv

set_option maxHeartbeats 400000 in
theorem cut_out (a0 : Option Addr) (n c : Nat) (s : ByteArray) (k : Int) (w : World) (hn : n ≤ maxLen) (hs : s.size ≤ maxLen) (h : ¬ (n + s.size ≤ 1048576) ∨ k < 0 ∨ (s.size : Int) < k) :
    Calls Try.prog 4 #[.slice a0 n c, .string s, .int .i64 k] w fun e w' => e = .returned (.bool true) ∧ Below w.heap.size w w' := by
  by_cases h1 : n + s.size ≤ 1048576
  · have hd : Hid (decide (n + s.size ≤ 1048576) = true) := decide_eq_true h1
    have h2 : (1048576 : Int) < (n : Int) → False := by omega
    rcases (show k < 0 ∨ (¬ k < 0 ∧ (s.size : Int) < k) from by omega) with hk | ⟨hk, hk2⟩
    · clear h
      go_enter Try.func4, Try.ntmps4
      go_wp2_with (go_at_call 11; refine (zzb11 _ _ _ _ _ _ hn hs).mono ?_; rintro e w' ⟨rfl, rfl⟩; rw [hd.out])
      go_ret
      exact ⟨rfl, Below.refl _ _⟩
    · clear h
      go_enter Try.func4, Try.ntmps4
      go_wp2_with (go_at_call 11; refine (zzb11 _ _ _ _ _ _ hn hs).mono ?_; rintro e w' ⟨rfl, rfl⟩; rw [hd.out])
      go_ret
      exact ⟨rfl, Below.refl _ _⟩
  · have hd : Hid (decide (n + s.size ≤ 1048576) = false) := decide_eq_false h1
    clear h
    go_enter Try.func4, Try.ntmps4
    go_wp2_with (go_at_call 11; refine (zzb11 _ _ _ _ _ _ hn hs).mono ?_; rintro e w' ⟨rfl, rfl⟩; rw [hd.out])
    go_ret
    exact ⟨rfl, Below.refl _ _⟩

/-- the blocks of what is owned -/
theorem own_lt {w : World} {base : Nat} {v : Value} {n : Nat} {xs : List Value} (h : w.ownsRow base 5 1 v n xs) : ∀ k, v.ownBlock = some k → k < w.heap.size := fun k hk => (h.lt k hk).2

set_option maxRecDepth 100000 in
set_option maxHeartbeats 2000000 in
theorem cut_main (a0 : Option Addr) (c : Nat) (bs : List UInt8) (s : ByteArray) (k : Nat) (w : World) (hS : SB w (.slice a0 bs.length c) bs) (hns : bs.length + s.size ≤ 1048576) (hk : k ≤ s.size) :
    Calls Try.prog 4 #[.slice a0 bs.length c, .string s, .int .i64 (k : Int)] w fun e w' => e = .returned (.bool true) ∧ Below w.heap.size w w' := by
  have HS : Hid (SB w (.slice a0 bs.length c) bs) := hS
  clear hS
  obtain ⟨n, HN⟩ : ∃ n, Hid (n = bs.length) := ⟨_, rfl⟩
  obtain ⟨l, Hl⟩ : ∃ l, Hid (l = s.data.toList) := ⟨_, rfl⟩
  have HL : Hid (l.length = s.size) := by show l.length = _; rw [Hl.out]; simp
  have hlm := esc_len l
  obtain ⟨W, HW⟩ : ∃ W, Hid (W = bs ++ esc l) := ⟨_, rfl⟩
  obtain ⟨m, Hm⟩ : ∃ m, Hid (m = W.length) := ⟨_, rfl⟩
  have hm1 : n + s.size ≤ m := by rw [Hm.out, HW.out, List.length_append, HN.out, ← HL.out]; omega
  have hm2 : m ≤ n + 6 * s.size := by rw [Hm.out, HW.out, List.length_append, HN.out, ← HL.out]; omega
  have hns' : n + s.size ≤ 1048576 := by rw [HN.out]; exact hns
  rw [← HN.out] at hns ⊢
  clear hlm
  have hdz : Hid (decide (n + s.size ≤ 1048576) = true) := decide_eq_true hns
  have d1 : decide ((1048576 : Int) < (n : Int)) = false := decide_eq_false (by omega)
  have d2 : decide ((1048576 : Int) - (n : Int) < (s.size : Int)) = false := decide_eq_false (by omega)
  have d3 : decide ((k : Int) < 0) = false := decide_eq_false (by omega)
  have d4 : decide ((s.size : Int) < (k : Int)) = false := decide_eq_false (by omega)
  have d5 : decide ((m : Int) < (n : Int) + (s.size : Int)) = false := decide_eq_false (by omega)
  have d6 : decide ((n : Int) + 6 * (s.size : Int) < (m : Int)) = false := decide_eq_false (by omega)
  have hb9 : Hid (bs.length ≤ 1000000000) := by show _ ≤ _; rw [← HN.out]; omega
  go_enter Try.func4, Try.ntmps4
  go_wp2_with (go_at_call 11; refine (zzb11 _ _ _ _ _ _ (by unfold maxLen; omega) (by unfold maxLen; omega)).mono ?_; rintro e w' ⟨rfl, rfl⟩; rw [hdz.out])
  -- b = cloneBytes(b)
  refine (clone_any _ bs _ (by rw [HN.out]; exact HS.out) hb9.out).mono ?_
  rintro e w1 ⟨vb, rfl, ob, hb1⟩
  have HB1 : Hid (Below w.heap.size w w1) := hb1
  have HSb : Hid (SB w1 vb bs) := SB_of_own ob
  have hltb := own_lt ob
  clear hb1 ob
  go_wp2_with fail
  -- want := cloneBytes(b)
  refine (clone_any _ bs _ HSb.out hb9.out).mono ?_
  rintro e w2 ⟨vw, rfl, ow, hb2⟩
  have HB2 : Hid (Below w.heap.size w w2) := HB1.out.trans (hb2.mono HB1.out.size)
  have HSb2 : Hid (SB w2 vb bs) := HSb.out.below hb2 hltb
  have HSw : Hid (SB w2 vw bs) := SB_of_own ow
  have hltw := own_lt ow
  have hltb2 : ∀ k, vb.ownBlock = some k → k < w2.heap.size := fun k hk => Nat.lt_of_lt_of_le (hltb k hk) hb2.size
  clear hb2 ow HSb HB1 hltb
  obtain ⟨aw, cw, rfl, hwnil, hwc, hwcell⟩ := HSw.out
  clear hwnil hwc hwcell
  rw [← HN.out] at HSw hltw ⊢
  go_wp2_with fail
  -- cloneBytes(b) for the whole
  refine (clone_any _ bs _ HSb2.out hb9.out).mono ?_
  rintro e w3 ⟨vc, rfl, oc, hb3⟩
  have HOC : Hid (w3.ownsRow w2.heap.size 5 1 vc bs.length (cs bs)) := oc
  have HB23 : Hid (Below w2.heap.size w2 w3) := hb3
  clear oc hb3
  go_wp2_with fail
  refine (esc_any w2.heap.size vc bs s w3 HB23.out.size HOC.out (by rw [← HN.out]; omega)).mono ?_
  rintro e w4 ⟨vwh, rfl, hO4⟩
  rw [← Hl.out, ← HW.out] at hO4
  have HB24 : Hid (Below w2.heap.size w2 w4) := HB23.out.trans (hO4.below (fun k hk => (HOC.out.lt k hk).1))
  have HOwh : Hid (w4.ownsRow w2.heap.size 5 1 vwh W.length (cs W)) := hO4.own
  have HB4 : Hid (Below w.heap.size w w4) := HB2.out.trans (HB24.out.mono HB2.out.size)
  have HSb4 : Hid (SB w4 vb bs) := HSb2.out.below HB24.out hltb2
  have HSw4 : Hid (SB w4 (.slice aw n cw) bs) := HSw.out.below HB24.out hltw
  have HSwh : Hid (SB w4 vwh W) := SB_of_own hO4.own
  have hsz24 : w2.heap.size ≤ w4.heap.size := HB24.out.size
  have hltb4 : ∀ k, vb.ownBlock = some k → k < w4.heap.size := fun k hk => Nat.lt_of_lt_of_le (hltb2 k hk) hsz24
  have hltw4 : ∀ k, (Value.slice aw n cw).ownBlock = some k → k < w4.heap.size := fun k hk => Nat.lt_of_lt_of_le (hltw k hk) hsz24
  have hltwh : ∀ k, vwh.ownBlock = some k → k < w4.heap.size := own_lt hO4.own
  clear hO4 HOC HB23 HB24 HSb2 HSw HB2 hltb2 hltw hsz24
  have hshape : (vwh = .slice none 0 0 ∧ m = 0 ∧ n = 0) ∨ ∃ g cap, vwh = .slice (some ⟨g, 0, none⟩) m cap ∧ m ≤ cap ∧ cap ≤ maxLen := by
    rcases HOwh.out.2 with ⟨e1, e2⟩ | ⟨g, cap, cur, e1, _, _, e4, e5, _⟩
    · exact .inl ⟨e1, by rw [Hm.out, e2], by have := Hm.out; omega⟩
    · exact .inr ⟨g, cap, by rw [Hm.out]; exact e1, by rw [Hm.out]; exact e4, e5⟩
  have Hpre : Hid (∀ g cap, vwh = .slice (some ⟨g, 0, none⟩) m cap → m ≤ cap → SB w4 (.slice (some ⟨g, 0, none⟩) n cap) bs) := by
    intro g cap e hle
    have h1 := HOwh.out
    rw [e] at h1
    refine ⟨_, cap, by rw [HN.out], fun h => by simp at h, by rw [← HN.out]; omega, fun _ => ⟨g, 0, rfl, fun j hj => ?_⟩⟩
    have h2 := h1.cells (g := g) rfl j (.int .u8 (bs[j]).toNat) (by
      have e3 : W[j]'(by rw [HW.out, List.length_append]; omega) = bs[j] := by
        have := HW.out
        subst this
        rw [List.getElem_append_left hj]
      rw [cs_get W j (by rw [HW.out, List.length_append]; omega), e3])
    rw [Addr.add_lit] at h2
    exact h2
  clear HOwh
  have hks : (k : Int) ≤ (s.size : Int) := by omega
  have key : ∃ pre : Value, Hid (SB w4 pre bs) ∧ ((vwh = .slice none 0 0 ∧ m = 0 ∧ n = 0 ∧ pre = .slice none 0 0) ∨ ∃ g cap, vwh = .slice (some ⟨g, 0, none⟩) m cap ∧ m ≤ cap ∧ cap ≤ maxLen ∧ pre = .slice (some ⟨g, 0, none⟩) n cap) := by
    rcases hshape with ⟨e1, e2, e3⟩ | ⟨g, cap, e1, e2, e3⟩
    · refine ⟨.slice none 0 0, ?_, .inl ⟨e1, e2, e3, rfl⟩⟩
      have hnil : bs = [] := List.eq_nil_of_length_eq_zero (by rw [← HN.out]; exact e3)
      subst hnil
      exact ⟨none, 0, rfl, fun _ => ⟨rfl, rfl⟩, Nat.le_refl _, fun h => absurd rfl h⟩
    · exact ⟨_, Hpre.out g cap e1 e2, .inr ⟨g, cap, e1, e2, e3, rfl⟩⟩
  obtain ⟨pre, HP, hcase⟩ := key
  clear hshape Hpre
  have HWk : Hid (∀ j, j ≤ s.size → (esc (l.take j)).length ≤ 6 * s.size) := by
    intro j hj
    have h1 := (esc_len (l.take j)).2
    have h2 : (l.take j).length ≤ j := List.length_take_le _ _
    omega
  have Hx0 : Hid ((s.extract 0 k).data.toList = l.take k) := by show _ = _; rw [ext_data, ← Hl.out]; simp
  have Hx1 : Hid ((s.extract k s.size).data.toList = l.drop k) := by show _ = _; rw [ext_data, ← Hl.out, ← HL.out, List.take_of_length_le (by rw [List.length_drop]; exact Nat.le_refl _)]
  have Hex : Hid (bs.length + 6 * (s.extract 0 k).size ≤ 1000000000) := by
    have hex : (s.extract 0 k).size ≤ s.size := by simp; omega
    show _ ≤ _; rw [← HN.out]; omega
  have Hex2 : Hid ((bs ++ esc (l.take k)).length + 6 * (s.extract k s.size).size ≤ 1000000000) := by
    have hex : (s.extract k s.size).size ≤ s.size := by simp
    have h1 := HWk.out k hk
    show _ ≤ _; rw [List.length_append, ← HN.out]; omega
  have HWj : Hid (bs ++ esc (l.take k) ++ esc (l.drop k) = W) := by show _ = _; rw [HW.out, List.append_assoc, ← esc_append, List.take_append_drop]
  have HWm : Hid (W.length ≤ maxLen) := by show _ ≤ _; rw [← Hm.out]; unfold maxLen; omega
  have HBm : Hid (bs.length ≤ maxLen) := by have := hb9.out; show _ ≤ _; unfold maxLen; omega
  have hss : s.size ≤ 1048576 := by omega
  have Hbs : Hid (bs.length ≤ 1048576) := by show _ ≤ _; rw [← HN.out]; omega
  rcases hcase with ⟨rfl, hm0, hn0, rfl⟩ | ⟨g, cap, rfl, hle, hcm, rfl⟩
  · subst hm0 hn0
    have hs0 : s.size ≤ 0 := by omega
    have dA : decide (0 < s.size) = false := decide_eq_false (by omega)
    have dB : decide ((0 : Int) < (s.size : Int)) = false := decide_eq_false (by omega)
    have dC : decide (6 * (s.size : Int) < 0) = false := decide_eq_false (by omega)
    clear d1 d2 d3 d4 d5 d6 hm1 hm2 hns hns'
    go_wp2_with fail
    all_goals
      refine (same_any _ _ bs w4 HP.out HSw4.out HBm.out).mono ?_
      rintro e w5 ⟨rfl, q5, rfl⟩
      have HSb5 : Hid (SB (w4.drewN q5) vb bs) := HSb4.out
      have HSw5 : Hid (SB (w4.drewN q5) _ bs) := HSw4.out
      have HSwh5 : Hid (SB (w4.drewN q5) _ W) := HSwh.out
      have HB5 : Hid (Below w.heap.size w (w4.drewN q5)) := below_drewN HB4.out q5
      have hsz45 : Hid (w4.heap.size ≤ (w4.drewN q5).heap.size) := Nat.le_refl _
      clear HSb4 HSw4 HSwh HB4 HP
      generalize w4.drewN q5 = w5 at *
      go_wp2_with fail
      go_region_held3 (fun _ => True) (trivial) (first | (go_at_call 6; refine (clone_any vb bs _ ?_ hb9.out).mono ?_; exact HSb5.out; rintro e w6 ⟨vd, rfl, od, hb6⟩) | (go_at_call 7; refine (esc_any w5.heap.size vd bs (s.extract 0 k) w6 ?_ ?_ Hex.out).mono ?_; exact hb6.size; exact od; rintro e w7 ⟨vf, rfl, hOf⟩))
      have HB67 : Hid (Below w5.heap.size w6 w7) := hOf.below (fun k hk => (od.lt k hk).1)
      have HB57 : Hid (Below w5.heap.size w5 w7) := (show Below w5.heap.size w5 w6 from ⟨hb6.os, hb6.tape, hb6.output, hb6.size, hb6.block⟩).trans HB67.out
      rw [Hx0.out] at hOf
      have HOf : Hid (w7.ownsRow w5.heap.size 5 1 vf (bs ++ esc (l.take k)).length (cs (bs ++ esc (l.take k)))) := hOf.own
      clear hOf od hb6 HB67
      go_wp2_with fail
      refine (esc_any w5.heap.size vf (bs ++ esc (l.take k)) (s.extract k s.size) w7 HB57.out.size HOf.out Hex2.out).mono ?_
      rintro e w8 ⟨vs, rfl, hOs⟩
      rw [Hx1.out, HWj.out] at hOs
      have HB58 : Hid (Below w5.heap.size w5 w8) := HB57.out.trans (hOs.below (fun k hk => (HOf.out.lt k hk).1))
      have HSs8 : Hid (SB w8 vs W) := SB_of_own hOs.own
      have HSwh8 : Hid (SB w8 _ W) := HSwh5.out.below HB58.out (fun k hk => Nat.lt_of_lt_of_le (hltwh k hk) hsz45.out)
      have HSw8 : Hid (SB w8 _ bs) := HSw5.out.below HB58.out (fun k hk => Nat.lt_of_lt_of_le (hltw4 k hk) hsz45.out)
      have HB8 : Hid (Below w.heap.size w w8) := HB5.out.trans (HB58.out.mono HB5.out.size)
      have Hsz48 : Hid (w4.heap.size ≤ w8.heap.size) := Nat.le_trans hsz45.out HB58.out.size
      clear hOs HOf HB57 HB58 HSwh5 HSw5 HSb5 HB5 hsz45
      go_wp2_with fail
      refine (same_any _ _ W w8 HSs8.out HSwh8.out HWm.out).mono ?_
      rintro e w9 ⟨rfl, q9, rfl⟩
      have HSwh9 : Hid (SB (w8.drewN q9) _ W) := HSwh8.out
      have HSw9 : Hid (SB (w8.drewN q9) _ bs) := HSw8.out
      have HB9 : Hid (Below w.heap.size w (w8.drewN q9)) := below_drewN HB8.out q9
      have Hsz49 : Hid (w4.heap.size ≤ (w8.drewN q9).heap.size) := Hsz48.out
      clear HSs8 HSwh8 HSw8 HB8 Hsz48
      generalize w8.drewN q9 = w9 at *
      go_wp2_with fail
      refine (clone_any _ bs _ HSw9.out hb9.out).mono ?_
      rintro e w10 ⟨vacc, rfl, oa, hb10⟩
      have HOa : Hid (w10.ownsRow w9.heap.size 5 1 vacc bs.length (cs bs)) := oa
      have HB910 : Hid (Below w9.heap.size w9 w10) := hb10
      clear oa hb10
      go_wp2
      go_loopw [11, 12] (fun va i wr => ∃ j : Nat, j ≤ s.size ∧ i = .int .i64 (j : Int) ∧ wr.ownsRow w9.heap.size 5 1 va (bs ++ esc (l.take j)).length (cs (bs ++ esc (l.take j))) ∧ Below w9.heap.size w9 wr) (fun _ i _ => s.size - (intOf i).toNat)
      case atStart => exact ⟨0, by omega, rfl, by simpa [esc] using HOa.out, HB910.out⟩
      case round =>
        clear HOa HB910
        obtain ⟨j, hj, rfl, hown, hbel⟩ := hrel
        have HO : Hid (wr.ownsRow w9.heap.size 5 1 u11 (bs ++ esc (l.take j)).length (cs (bs ++ esc (l.take j)))) := hown
        have HBl : Hid (Below w9.heap.size w9 wr) := hbel
        clear hown hbel
        by_cases hjs : j < s.size
        · exfalso; omega
        · have hjd : decide ((j : Int) < (s.size : Int)) = false := decide_eq_false (by omega)
          have hje : Hid (bs ++ esc (l.take j) = W) := by
            show _ = _
            rw [HW.out, List.take_of_length_le (by rw [HL.out]; omega)]
          have HSa : Hid (SB wr u11 W) := by
            have := SB_of_own HO.out
            rw [hje.out] at this
            exact this
          have HSwr : Hid (SB wr _ W) := HSwh9.out.below HBl.out (fun k hk => Nat.lt_of_lt_of_le (hltwh k hk) Hsz49.out)
          go_wp2_with fail
          refine (same_any _ _ W wr HSa.out HSwr.out HWm.out).mono ?_
          rintro e w13 ⟨rfl, q13, rfl⟩
          go_wp2
          go_ret
          exact ⟨rfl, below_drewN (HB9.out.trans (HBl.out.mono HB9.out.size)) q13⟩

  · have hnc : (n : Int) ≤ (cap : Int) := by omega
    unfold maxLen at hcm
    go_wp2_with fail
    all_goals
      refine (same_any _ _ bs w4 HP.out HSw4.out HBm.out).mono ?_
      rintro e w5 ⟨rfl, q5, rfl⟩
      have HSb5 : Hid (SB (w4.drewN q5) vb bs) := HSb4.out
      have HSw5 : Hid (SB (w4.drewN q5) _ bs) := HSw4.out
      have HSwh5 : Hid (SB (w4.drewN q5) _ W) := HSwh.out
      have HB5 : Hid (Below w.heap.size w (w4.drewN q5)) := below_drewN HB4.out q5
      have hsz45 : Hid (w4.heap.size ≤ (w4.drewN q5).heap.size) := Nat.le_refl _
      clear HSb4 HSw4 HSwh HB4 HP
      generalize w4.drewN q5 = w5 at *
      go_wp2_with fail
      go_region_held3 (fun _ => True) (trivial) (first | (go_at_call 6; refine (clone_any vb bs _ ?_ hb9.out).mono ?_; exact HSb5.out; rintro e w6 ⟨vd, rfl, od, hb6⟩) | (go_at_call 7; refine (esc_any w5.heap.size vd bs (s.extract 0 k) w6 ?_ ?_ Hex.out).mono ?_; exact hb6.size; exact od; rintro e w7 ⟨vf, rfl, hOf⟩))
      have HB67 : Hid (Below w5.heap.size w6 w7) := hOf.below (fun k hk => (od.lt k hk).1)
      have HB57 : Hid (Below w5.heap.size w5 w7) := (show Below w5.heap.size w5 w6 from ⟨hb6.os, hb6.tape, hb6.output, hb6.size, hb6.block⟩).trans HB67.out
      rw [Hx0.out] at hOf
      have HOf : Hid (w7.ownsRow w5.heap.size 5 1 vf (bs ++ esc (l.take k)).length (cs (bs ++ esc (l.take k)))) := hOf.own
      clear hOf od hb6 HB67
      go_wp2_with fail
      refine (esc_any w5.heap.size vf (bs ++ esc (l.take k)) (s.extract k s.size) w7 HB57.out.size HOf.out Hex2.out).mono ?_
      rintro e w8 ⟨vs, rfl, hOs⟩
      rw [Hx1.out, HWj.out] at hOs
      have HB58 : Hid (Below w5.heap.size w5 w8) := HB57.out.trans (hOs.below (fun k hk => (HOf.out.lt k hk).1))
      have HSs8 : Hid (SB w8 vs W) := SB_of_own hOs.own
      have HSwh8 : Hid (SB w8 _ W) := HSwh5.out.below HB58.out (fun k hk => Nat.lt_of_lt_of_le (hltwh k hk) hsz45.out)
      have HSw8 : Hid (SB w8 _ bs) := HSw5.out.below HB58.out (fun k hk => Nat.lt_of_lt_of_le (hltw4 k hk) hsz45.out)
      have HB8 : Hid (Below w.heap.size w w8) := HB5.out.trans (HB58.out.mono HB5.out.size)
      have Hsz48 : Hid (w4.heap.size ≤ w8.heap.size) := Nat.le_trans hsz45.out HB58.out.size
      clear hOs HOf HB57 HB58 HSwh5 HSw5 HSb5 HB5 hsz45
      go_wp2_with fail
      refine (same_any _ _ W w8 HSs8.out HSwh8.out HWm.out).mono ?_
      rintro e w9 ⟨rfl, q9, rfl⟩
      have HSwh9 : Hid (SB (w8.drewN q9) _ W) := HSwh8.out
      have HSw9 : Hid (SB (w8.drewN q9) _ bs) := HSw8.out
      have HB9 : Hid (Below w.heap.size w (w8.drewN q9)) := below_drewN HB8.out q9
      have Hsz49 : Hid (w4.heap.size ≤ (w8.drewN q9).heap.size) := Hsz48.out
      clear HSs8 HSwh8 HSw8 HB8 Hsz48
      generalize w8.drewN q9 = w9 at *
      go_wp2_with fail
      refine (clone_any _ bs _ HSw9.out hb9.out).mono ?_
      rintro e w10 ⟨vacc, rfl, oa, hb10⟩
      have HOa : Hid (w10.ownsRow w9.heap.size 5 1 vacc bs.length (cs bs)) := oa
      have HB910 : Hid (Below w9.heap.size w9 w10) := hb10
      clear oa hb10
      go_wp2
      go_loopw [11, 12] (fun va i wr => ∃ j : Nat, j ≤ s.size ∧ i = .int .i64 (j : Int) ∧ wr.ownsRow w9.heap.size 5 1 va (bs ++ esc (l.take j)).length (cs (bs ++ esc (l.take j))) ∧ Below w9.heap.size w9 wr) (fun _ i _ => s.size - (intOf i).toNat)
      case atStart => exact ⟨0, by omega, rfl, by simpa [esc] using HOa.out, HB910.out⟩
      case round =>
        clear HOa HB910
        obtain ⟨j, hj, rfl, hown, hbel⟩ := hrel
        have HO : Hid (wr.ownsRow w9.heap.size 5 1 u11 (bs ++ esc (l.take j)).length (cs (bs ++ esc (l.take j)))) := hown
        have HBl : Hid (Below w9.heap.size w9 wr) := hbel
        clear hown hbel
        by_cases hjs : j < s.size
        · have hjd : decide ((j : Int) < (s.size : Int)) = true := decide_eq_true (by omega)
          have hjl : j < l.length := by rw [HL.out]; exact hjs
          have Hxj : Hid ((s.extract j (j + 1)).data.toList = [l[j]]) := by
            show _ = _
            rw [ext_data, ← Hl.out, show j + 1 - j = 0 + 1 by omega, List.take_succ_eq_append_getElem (by rw [List.length_drop]; omega), List.getElem_drop]
            simp
          have Hexj : Hid (([] : List UInt8).length + 6 * (s.extract j (j + 1)).size ≤ 1000000000) := by
            have hex : (s.extract j (j + 1)).size ≤ 1 := by simp; omega
            show _ ≤ _; simp only [List.length_nil]; omega
          have Hsn : Hid (esc (l.take (j + 1)) = esc (l.take j) ++ escB l[j]) := esc_take_snoc l j hjl
          obtain ⟨eb, heb0⟩ : ∃ eb, eb = escB l[j] := ⟨_, rfl⟩
          have Heb : Hid (eb = escB l[j]) := heb0
          have heb := escB_len l[j]
          rw [← heb0] at heb
          clear heb0
          have Hbj : Hid ((bs ++ esc (l.take j)).length + eb.length ≤ 140737488355328) := by
            have h1 := HWk.out j hj
            have h2 := Hbs.out
            show _ ≤ _; rw [List.length_append]; omega
          go_wp2_with fail
          refine (esc_any wr.heap.size (.slice none 0 0) [] (s.extract j (j + 1)) wr (Nat.le_refl _) (World.ownsRow_nil _ _ _ _) Hexj.out).mono ?_
          rintro e w11 ⟨vp, rfl, hOp⟩
          rw [Hxj.out, esc_one, ← Heb.out, List.nil_append] at hOp
          obtain ⟨gp, capp, rfl, hgp1, hgp2⟩ := hOp.own.form (by omega)
          have HOp : Hid (w11.ownsRow wr.heap.size 5 1 (.slice (some ⟨gp, 0, none⟩) eb.length capp) eb.length (cs eb)) := hOp.own
          have hgr : wr.grownBy w11 none := hOp.grew
          have HBr : Hid (Below w9.heap.size w9 w11) := HBl.out.grown hgr HBl.out.size (by intro q hq; cases hq)
          have HOa2 : Hid (Own w9.heap.size w11 u11.ownBlock w11 u11 (bs ++ esc (l.take j))) := Own.start HBr.out.size (HO.out.kept hgr (by
            rcases h : u11.ownBlock with _ | q
            · exact .inl rfl
            · exact .inr (by simp)))
          obtain ⟨mp, Hmp⟩ : ∃ mp, Hid (mp = eb.length) := ⟨_, rfl⟩
          rw [← Hmp.out]
          clear hOp hgr HO HBl
          go_wp2_with (at_builtin; refine wpList_append_sl rfl _ _ rfl _ rfl eb ⟨gp, 0, none⟩ mp capp rfl Hmp.out (HOp.out.cells rfl) HOa2.out Hbj.out ?_; intro v2 w12 hO2)
          have HR : Hid (w12.ownsRow w9.heap.size 5 1 v2 (bs ++ esc (l.take (j + 1))).length (cs (bs ++ esc (l.take (j + 1)))) ∧ Below w9.heap.size w9 w12) := by
            rw [Hsn.out, ← Heb.out, ← List.append_assoc]
            exact ⟨hO2.own, HBr.out.trans (hO2.below (fun k hk => (HOa2.out.own.lt k hk).1))⟩
          clear hO2
          go_wp2
          go_roundw
          case rel => first | exact ⟨j + 1, by omega, by go_num, HR.out.1, HR.out.2⟩ | ((repeat apply Exists.intro); exact ⟨⟨j + 1, by omega, by go_num, HR.out.1, HR.out.2⟩, rfl⟩)
          case measure => simp [intOf]; omega
        · have hjd : decide ((j : Int) < (s.size : Int)) = false := decide_eq_false (by omega)
          have hje : Hid (bs ++ esc (l.take j) = W) := by
            show _ = _
            rw [HW.out, List.take_of_length_le (by rw [HL.out]; omega)]
          have HSa : Hid (SB wr u11 W) := by
            have := SB_of_own HO.out
            rw [hje.out] at this
            exact this
          have HSwr : Hid (SB wr _ W) := HSwh9.out.below HBl.out (fun k hk => Nat.lt_of_lt_of_le (hltwh k hk) Hsz49.out)
          go_wp2_with fail
          refine (same_any _ _ W wr HSa.out HSwr.out HWm.out).mono ?_
          rintro e w13 ⟨rfl, q13, rfl⟩
          go_wp2
          go_ret
          exact ⟨rfl, below_drewN (HB9.out.trans (HBl.out.mono HB9.out.size)) q13⟩

end Go.Proofs.Qxb6629355a
