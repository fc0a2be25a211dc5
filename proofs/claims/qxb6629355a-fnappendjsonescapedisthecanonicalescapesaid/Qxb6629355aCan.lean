/- The walk of FnAppendJSONEscapedIsTheCanonicalEscape. -/
import Derived.Test.Qxb6629355aDec
namespace Go.Proofs.Qxb6629355a
open Go.RowKit Go.Lib

set_option maxRecDepth 100000 in
set_option maxHeartbeats 400000 in
theorem dec_nil (ao : Option Addr) (c : Nat) (w : World) :
    Calls Try.prog 9 #[.slice ao 0 c] w fun e w' => ∃ vo, e = .returned (.tuple #[vo, .bool true]) ∧ w'.ownsRow w.heap.size 5 1 vo 0 (cs []) ∧ Below w.heap.size w w' := by
  obtain ⟨i0, hi, hz0, hz1, hz2⟩ := info_parts info5
  go_enter Try.func9, Try.ntmps9
  go_wp2_with (at_make; refine wpList_make_own _ rfl _ _ 22 rfl w.heap.size 5 i0 (.int .u8 0) 1 Try.underlying22 hi hz0 hz1 _ _ _ 0 rfl rfl (by rfl) (by rw [hz2]; omega) (by unfold maxLen; omega) (Nat.le_refl _) ?_; intro w1 hown hgrow)
  have HO1 : Hid (w1.ownsRow w.heap.size 5 1 (.slice (some ⟨w.heap.size, 0, none⟩) 0 0) 0 []) := hown
  have HB1 : Hid (Below w.heap.size w w1) := (Below.refl _ _).grown hgrow (Nat.le_refl _) (by intro k hk; cases hk)
  clear hown hgrow hi hz0 hz1 hz2
  refine wp_loop_rounds 1 ?_
  rw [rounds_succ]
  go_wp2
  go_ret2
  exact ⟨_, rfl, HO1.out, HB1.out⟩

set_option maxHeartbeats 400000 in
theorem bas_nil (ao : Option Addr) (c : Nat) (s : ByteArray) (w : World) (hs : s.size = 0) : Calls Try.prog 10 #[.slice ao 0 c, .string s] w fun e w' => e = .returned (.bool true) ∧ ∃ m, w' = w.drewN m := by
  go_enter Try.func10, Try.ntmps10
  go_wp2
  refine wp_loop_rounds 1 ?_
  rw [rounds_succ]
  go_wp2
  go_ret
  exact ⟨rfl, 0, rfl⟩

set_option maxHeartbeats 400000 in
theorem bas_cons (b o n c : Nat) (s : ByteArray) (w : World) (hn : s.size = n) (hm : n ≤ 1000000000)
    (hA : ∀ j (h : j < s.size), w.cell? ⟨b, o + j, none⟩ = some (.int .u8 ((s[j]'h).toNat : Int))) :
    Calls Try.prog 10 #[.slice (some ⟨b, o, none⟩) n c, .string s] w fun e w' => e = .returned (.bool true) ∧ ∃ m, w' = w.drewN m := by
  have HA : Hid (∀ j (h : j < s.size), w.cell? ⟨b, o + j, none⟩ = some (.int .u8 ((s[j]'h).toNat : Int))) := hA
  clear hA
  subst hn
  go_enter Try.func10, Try.ntmps10
  go_wp2
  go_loopw [5] (fun i wr => ∃ k m : Nat, k ≤ s.size ∧ i = .int .i64 (k : Int) ∧ wr = w.drewN m) (fun i _ => s.size - (intOf i).toNat)
  case atStart => exact ⟨0, 0, by omega, rfl, rfl⟩
  case round =>
    obtain ⟨k, m, hk, rfl, rfl⟩ := hrel
    by_cases hkn : k < s.size
    · have a1 := HA.out k hkn
      obtain ⟨p, hp⟩ : ∃ p : Nat, (s[k]'hkn).toNat = p := ⟨_, rfl⟩
      rw [hp] at a1
      have hkd : decide ((k : Int) < (s.size : Int)) = true := decide_eq_true (by omega)
      have hkI : (k : Int) < (s.size : Int) := by omega
      go_wp2
      go_quiet (fail)
      go_wp2
      go_roundw
      case rel => exact ⟨k + 1, _, by omega, by go_num, rfl⟩
      case measure => simp [intOf]; omega
    · have hkd : decide ((k : Int) < (s.size : Int)) = false := decide_eq_false (by omega)
      go_wp2
      go_ret
      exact ⟨rfl, _, rfl⟩

theorem bas_any (v : Value) (s : ByteArray) (w : World) (h : SB w v s.data.toList) (hm : s.size ≤ 1000000000) : Calls Try.prog 10 #[v, .string s] w fun e w' => e = .returned (.bool true) ∧ ∃ m, w' = w.drewN m := by
  obtain ⟨ao, c, rfl, _, _, hc⟩ := h
  have hl : s.data.toList.length = s.size := by simp
  rw [hl]
  by_cases h0 : s.size = 0
  · rw [h0]
    exact bas_nil ao c s w h0
  · have hne : s.data.toList ≠ [] := by intro e; rw [e] at hl; simp at hl; omega
    obtain ⟨b, o, rfl, hc'⟩ := hc hne
    exact bas_cons b o s.size c s w rfl hm (fun j hj => hc' j (by rw [hl]; exact hj))

set_option maxHeartbeats 400000 in
theorem zzb5 (a0 : Option Addr) (n c : Nat) (s : ByteArray) (w : World) (hn : n ≤ maxLen) (hs : s.size ≤ maxLen) :
    Calls Try.prog 5 #[.slice a0 n c, .string s] w fun e w' => e = .returned (.bool (decide (n + s.size ≤ 1048576))) ∧ w = w' := by
  unfold maxLen at hn hs
  by_cases h1 : 1048576 < n
  · have hd : decide (n + s.size ≤ 1048576) = false := decide_eq_false (by omega)
    rw [hd]
    clear hd
    have h1' : (1048576 : Int) < (n : Int) := by omega
    go_enter Try.func5, Try.ntmps5
    go_wp2
    go_ret
    exact ⟨rfl, rfl⟩
  · by_cases h2 : 1048576 < s.size
    · have hd : decide (n + s.size ≤ 1048576) = false := decide_eq_false (by omega)
      rw [hd]
      clear hd
      have h2' : (1048576 : Int) < (s.size : Int) := by omega
      go_enter Try.func5, Try.ntmps5
      go_wp2
      go_ret
      exact ⟨rfl, rfl⟩
    · by_cases h3 : n + s.size ≤ 1048576
      · have hd : decide (n + s.size ≤ 1048576) = true := decide_eq_true h3
        rw [hd]
        clear hd
        go_enter Try.func5, Try.ntmps5
        go_wp2
        go_ret
        exact ⟨rfl, rfl⟩
      · have hd : decide (n + s.size ≤ 1048576) = false := decide_eq_false h3
        rw [hd]
        clear hd
        go_enter Try.func5, Try.ntmps5
        go_wp2
        go_ret
        exact ⟨rfl, rfl⟩

set_option maxHeartbeats 400000 in
theorem can_out (a0 : Option Addr) (n c : Nat) (s : ByteArray) (w : World) (hn : n ≤ maxLen) (hs : s.size ≤ maxLen) (h1 : ¬ (n + s.size ≤ 1048576)) :
    Calls Try.prog 3 #[.slice a0 n c, .string s] w fun e w' => e = .returned (.bool true) ∧ Below w.heap.size w w' := by
  have hd : Hid (decide (n + s.size ≤ 1048576) = false) := decide_eq_false h1
  go_enter Try.func3, Try.ntmps3
  go_wp2_with (go_at_call 5; refine (zzb5 _ _ _ _ _ hn hs).mono ?_; rintro e w' ⟨rfl, rfl⟩; rw [hd.out])
  go_ret
  exact ⟨rfl, Below.refl _ _⟩

set_option maxRecDepth 100000 in
set_option maxHeartbeats 2000000 in
theorem can_main (a0 : Option Addr) (c : Nat) (bs : List UInt8) (s : ByteArray) (w : World) (hS : SB w (.slice a0 bs.length c) bs) (hns : bs.length + s.size ≤ 1048576) :
    Calls Try.prog 3 #[.slice a0 bs.length c, .string s] w fun e w' => e = .returned (.bool true) ∧ Below w.heap.size w w' := by
  have HS : Hid (SB w (.slice a0 bs.length c) bs) := hS
  clear hS
  obtain ⟨n, HN⟩ : ∃ n, Hid (n = bs.length) := ⟨_, rfl⟩
  obtain ⟨l, Hl⟩ : ∃ l, Hid (l = s.data.toList) := ⟨_, rfl⟩
  have HL : Hid (l.length = s.size) := by show l.length = _; rw [Hl.out]; simp
  have hlm := esc_len l
  obtain ⟨W, HW⟩ : ∃ W, Hid (W = bs ++ esc l) := ⟨_, rfl⟩
  obtain ⟨m, Hm⟩ : ∃ m, Hid (m = W.length) := ⟨_, rfl⟩
  have hm1 : n ≤ m := by rw [Hm.out, HW.out, List.length_append, HN.out]; omega
  have hm2 : m ≤ n + 6 * s.size := by rw [Hm.out, HW.out, List.length_append, HN.out, ← HL.out]; omega
  have HmE : Hid (m - n = (esc l).length) := by show _ = _; rw [Hm.out, HW.out, List.length_append, HN.out]; omega
  rw [← HN.out] at hns ⊢
  clear hlm
  have hdz : Hid (decide (n + s.size ≤ 1048576) = true) := decide_eq_true hns
  have d1 : decide ((1048576 : Int) < (n : Int)) = false := decide_eq_false (by omega)
  have d2 : decide ((1048576 : Int) - (n : Int) < (s.size : Int)) = false := decide_eq_false (by omega)
  have d5 : decide ((m : Int) < (n : Int)) = false := decide_eq_false (by omega)
  have hb9 : Hid (bs.length ≤ 1000000000) := by show _ ≤ _; rw [← HN.out]; omega
  have HBm : Hid (bs.length ≤ maxLen) := by have := hb9.out; show _ ≤ _; unfold maxLen; omega
  go_enter Try.func3, Try.ntmps3
  go_wp2_with (go_at_call 5; refine (zzb5 _ _ _ _ _ (by unfold maxLen; omega) (by unfold maxLen; omega)).mono ?_; rintro e w' ⟨rfl, rfl⟩; rw [hdz.out])
  -- b = cloneBytes(b)
  refine (clone_any _ bs _ (by rw [HN.out]; exact HS.out) hb9.out).mono ?_
  rintro e w1 ⟨vb, rfl, ob, hb1⟩
  have HB1 : Hid (Below w.heap.size w w1) := hb1
  have HOb : Hid (w1.ownsRow w.heap.size 5 1 vb bs.length (cs bs)) := ob
  clear hb1 ob
  go_wp2_with fail
  -- want := cloneBytes(b)
  refine (clone_any _ bs _ (SB_of_own HOb.out) hb9.out).mono ?_
  rintro e w2 ⟨vw, rfl, ow, hb2⟩
  have HB2 : Hid (Below w.heap.size w w2) := HB1.out.trans (hb2.mono HB1.out.size)
  have HSw : Hid (SB w2 vw bs) := SB_of_own ow
  have Hltw : Hid (∀ k, vw.ownBlock = some k → w1.heap.size ≤ k ∧ k < w2.heap.size) := ow.lt
  have HOb2 : Hid (w2.ownsRow w.heap.size 5 1 vb bs.length (cs bs)) := by
    refine HOb.out.kept (row := none) ⟨hb2.os, hb2.tape, hb2.output, hb2.size, fun k hk _ => hb2.block k hk⟩ ?_
    rcases h : vb.ownBlock with _ | q
    · exact .inl rfl
    · exact .inr (by simp)
  clear hb2 ow
  obtain ⟨aw, cw, rfl, hwnil, hwc, hwcell⟩ := HSw.out
  clear hwnil hwc hwcell
  rw [← HN.out] at HSw Hltw ⊢
  go_wp2_with fail
  refine (esc_any w.heap.size vb bs s w2 HB2.out.size HOb2.out (by rw [← HN.out]; omega)).mono ?_
  rintro e w3 ⟨vo, rfl, hO3⟩
  rw [← Hl.out, ← HW.out] at hO3
  have HB3 : Hid (Below w.heap.size w w3) := HB2.out.trans (hO3.below (fun k hk => (HOb2.out.lt k hk).1))
  have HOo : Hid (w3.ownsRow w.heap.size 5 1 vo W.length (cs W)) := hO3.own
  have HSw3 : Hid (SB w3 (.slice aw n cw) bs) := HSw.out.keep (fun a u hu ho => by
    have h1 := Hltw.out a.block ho
    refine hO3.grew.cell hu ?_
    intro e
    have := (HOb.out.lt a.block e.symm).2
    omega)
  clear hO3 HOb HB1 HSw Hltw HOb2 HB2
  have hshape : (vo = .slice none 0 0 ∧ m = 0 ∧ n = 0 ∧ l = []) ∨ ∃ g cap, vo = .slice (some ⟨g, 0, none⟩) m cap ∧ m ≤ cap ∧ cap ≤ maxLen ∧ g < w3.heap.size := by
    rcases HOo.out.2 with ⟨e1, e2⟩ | ⟨g, cap, cur, e1, _, hh, e4, e5, _⟩
    · refine .inl ⟨e1, by rw [Hm.out, e2], by have := Hm.out; omega, ?_⟩
      have h1 : (esc l).length = 0 := by rw [← HmE.out, Hm.out, e2]; omega
      have h2 := (esc_len l).1
      exact List.eq_nil_of_length_eq_zero (by omega)
    · exact .inr ⟨g, cap, by rw [Hm.out]; exact e1, by rw [Hm.out]; exact e4, e5, lt_of_block hh⟩
  have Hcell : Hid (∀ g cap, vo = .slice (some ⟨g, 0, none⟩) m cap → ∀ j (h : j < W.length), w3.cell? ⟨g, 0 + j, none⟩ = some (.int .u8 (W[j]).toNat)) := by
    intro g cap e j hj
    have h1 := HOo.out
    rw [e] at h1
    have h2 := h1.cells (g := g) rfl j _ (cs_get W j hj)
    rw [Addr.add_lit] at h2
    exact h2
  clear HOo
  rcases hshape with ⟨rfl, hm0, hn0, hl0⟩ | ⟨g, cap, rfl, hle, hcm, hg3⟩
  · subst hm0 hn0
    have hnil : bs = [] := List.eq_nil_of_length_eq_zero HN.out.symm
    have HPr : Hid (SB w3 (.slice none 0 0) bs) := by rw [hnil]; exact ⟨none, 0, rfl, fun _ => ⟨rfl, rfl⟩, Nat.le_refl _, fun h => absurd rfl h⟩
    have hs0 : s.size ≤ 0 := by rw [← HL.out, hl0]; exact Nat.le_refl _
    have HSl : Hid (l = []) := hl0
    clear hnil hl0 d1 d2 d5 Hcell
    go_wp2_with fail
    refine (same_any _ _ bs w3 HPr.out HSw3.out HBm.out).mono ?_
    rintro e w4 ⟨rfl, q4, rfl⟩
    have HB4 : Hid (Below w.heap.size w (w3.drewN q4)) := below_drewN HB3.out q4
    generalize w3.drewN q4 = w4 at *
    go_wp2_with fail
    refine (dec_nil _ _ _).mono ?_
    rintro e w5 ⟨vd, rfl, od, hb5⟩
    have HSd : Hid (SB w5 vd s.data.toList) := by
      show SB _ _ _
      rw [← Hl.out, HSl.out]
      exact SB_of_own od
    have HB5 : Hid (Below w.heap.size w w5) := HB4.out.trans (hb5.mono HB4.out.size)
    clear od hb5
    go_wp2_with fail
    refine (bas_any vd s w5 HSd.out (by omega)).mono ?_
    rintro e w6 ⟨rfl, q6, rfl⟩
    go_wp2
    go_ret
    exact ⟨rfl, below_drewN HB5.out q6⟩
  · have hnc : (n : Int) ≤ (cap : Int) := by omega
    have hnm : (n : Int) ≤ (m : Int) := by omega
    unfold maxLen at hcm
    have HPr : Hid (SB w3 (.slice (some ⟨g, 0, none⟩) n cap) bs) := by
      refine ⟨_, cap, by rw [HN.out], fun h => by simp at h, by rw [← HN.out]; omega, fun _ => ⟨g, 0, rfl, fun j hj => ?_⟩⟩
      have hjW : j < W.length := by rw [HW.out, List.length_append]; omega
      have e3 : W[j]'hjW = bs[j] := by
        have := HW.out
        subst this
        rw [List.getElem_append_left hj]
      have h2 := Hcell.out g cap rfl j hjW
      rw [e3] at h2
      exact h2
    have HT : Hid (∀ j (h : j < (esc l).length), w3.cell? ⟨g, n + j, none⟩ = some (.int .u8 ((esc l)[j]).toNat)) := by
      intro j hj
      have hjW : n + j < W.length := by rw [HW.out, List.length_append, HN.out]; omega
      have e3 : W[n + j]'hjW = (esc l)[j] := by
        have h1 := HW.out
        subst h1
        have h2 := HN.out
        subst h2
        rw [List.getElem_append_right (by omega)]
        congr 1
        omega
      have h2 := Hcell.out g cap rfl (n + j) hjW
      rw [e3, Nat.zero_add] at h2
      exact h2
    clear Hcell
    by_cases hl0 : l = []
    · have hmn : m = n := by
        have h1 := HmE.out
        rw [hl0] at h1
        have h2 : (esc []).length = 0 := rfl
        omega
      subst hmn
      have HSl : Hid (l = []) := hl0
      clear hl0 HT
      by_cases hcn : cap = m
      · subst hcn
        go_wp2_with fail
        refine (same_any _ _ bs w3 HPr.out HSw3.out HBm.out).mono ?_
        rintro e w4 ⟨rfl, q4, rfl⟩
        have HB4 : Hid (Below w.heap.size w (w3.drewN q4)) := below_drewN HB3.out q4
        generalize w3.drewN q4 = w4 at *
        go_wp2_with fail
        refine (dec_nil _ _ _).mono ?_
        rintro e w5 ⟨vd, rfl, od, hb5⟩
        have HSd : Hid (SB w5 vd s.data.toList) := by
          show SB _ _ _
          rw [← Hl.out, HSl.out]
          exact SB_of_own od
        have HB5 : Hid (Below w.heap.size w w5) := HB4.out.trans (hb5.mono HB4.out.size)
        clear od hb5
        go_wp2_with fail
        refine (bas_any vd s w5 HSd.out (by omega)).mono ?_
        rintro e w6 ⟨rfl, q6, rfl⟩
        go_wp2
        go_ret
        exact ⟨rfl, below_drewN HB5.out q6⟩
      · go_wp2_with fail
        refine (same_any _ _ bs w3 HPr.out HSw3.out HBm.out).mono ?_
        rintro e w4 ⟨rfl, q4, rfl⟩
        have HB4 : Hid (Below w.heap.size w (w3.drewN q4)) := below_drewN HB3.out q4
        generalize w3.drewN q4 = w4 at *
        go_wp2_with fail
        refine (dec_nil _ _ _).mono ?_
        rintro e w5 ⟨vd, rfl, od, hb5⟩
        have HSd : Hid (SB w5 vd s.data.toList) := by
          show SB _ _ _
          rw [← Hl.out, HSl.out]
          exact SB_of_own od
        have HB5 : Hid (Below w.heap.size w w5) := HB4.out.trans (hb5.mono HB4.out.size)
        clear od hb5
        go_wp2_with fail
        refine (bas_any vd s w5 HSd.out (by omega)).mono ?_
        rintro e w6 ⟨rfl, q6, rfl⟩
        go_wp2
        go_ret
        exact ⟨rfl, below_drewN HB5.out q6⟩
    · have hpos : 0 < (esc l).length := by
        have h1 := (esc_len l).1
        have h2 : 0 < l.length := List.length_pos_iff.2 hl0
        omega
      have hmn : n < m := by have := HmE.out; omega
      have hcn : ¬ cap = n := by omega
      clear hl0 hpos
      go_wp2_with fail
      refine (same_any _ _ bs w3 HPr.out HSw3.out HBm.out).mono ?_
      rintro e w4 ⟨rfl, q4, rfl⟩
      have HB4 : Hid (Below w.heap.size w (w3.drewN q4)) := below_drewN HB3.out q4
      have HT4 : Hid (∀ j (h : j < (esc l).length), (w3.drewN q4).cell? ⟨g, n + j, none⟩ = some (.int .u8 ((esc l)[j]).toNat)) := HT.out
      have hg4 : g < (w3.drewN q4).heap.size := hg3
      clear HT
      generalize w3.drewN q4 = w4 at *
      go_wp2_with fail
      have hcall := dec_cons g n (cap - n) l w4 (by rw [← HmE.out]; omega) HT4.out hg4
      rw [← HmE.out] at hcall
      refine hcall.mono ?_
      clear hcall
      rintro e w5 ⟨vd, rfl, od, hb5⟩
      have HSd : Hid (SB w5 vd s.data.toList) := by
        show SB _ _ _
        rw [← Hl.out]
        exact SB_of_own od
      have HB5 : Hid (Below w.heap.size w w5) := HB4.out.trans (hb5.mono HB4.out.size)
      clear od hb5
      go_wp2_with fail
      refine (bas_any vd s w5 HSd.out (by omega)).mono ?_
      rintro e w6 ⟨rfl, q6, rfl⟩
      go_wp2
      go_ret
      exact ⟨rfl, below_drewN HB5.out q6⟩

end Go.Proofs.Qxb6629355a
