/- The walk of decodeCanonicalJSONBody over an escape. -/
import Derived.Test.Qxb6629355aEsc
import Derived.Test.Qxb6629355aCut
namespace Go.Proofs.Qxb6629355a
open Go.RowKit Go.Lib
set_option linter.unusedSimpArgs false

set_option maxHeartbeats 400000 in
theorem hex13 (n : Nat) (h : n < 16) (w : World) : Calls Try.prog 13 #[.int .u8 ((hexd n).toNat : Int)] w fun e w' => e = .returned (.tuple #[.int .u8 (n : Int), .bool true]) ∧ w = w' := by
  rw [hexd_val n h]
  by_cases h10 : n < 10
  · rw [if_pos h10]
    obtain ⟨x, hx⟩ : ∃ x : Nat, x = 48 + n := ⟨_, rfl⟩
    rw [← hx]
    have hx1 : (x : Int) - 48 = (n : Int) := by omega
    have d1 : decide (48 ≤ (x : Int)) = true := decide_eq_true (by omega)
    have d2 : decide ((x : Int) ≤ 57) = true := decide_eq_true (by omega)
    have hx2 : IntKind.u8.wrap ((x : Int) - 48) = (n : Int) := by rw [hx1, IntKind.wrap_u8']; omega
    clear hx
    go_enter Try.func13, Try.ntmps13
    go_wp2
    go_ret2
    exact ⟨by simp, rfl⟩
  · rw [if_neg h10]
    obtain ⟨y, hy⟩ : ∃ y : Nat, n = y + 10 := ⟨n - 10, by omega⟩
    obtain ⟨x, hx⟩ : ∃ x : Nat, x = 87 + n := ⟨_, rfl⟩
    rw [← hx]
    have hx1 : (x : Int) - 97 = (y : Int) := by omega
    have d1 : decide (48 ≤ (x : Int)) = true := decide_eq_true (by omega)
    have d2 : decide ((x : Int) ≤ 57) = false := decide_eq_false (by omega)
    have d3 : decide (97 ≤ (x : Int)) = true := decide_eq_true (by omega)
    have d4 : decide ((x : Int) ≤ 102) = true := decide_eq_true (by omega)
    have hx2 : IntKind.u8.wrap ((x : Int) - 97) = (y : Int) := by rw [hx1, IntKind.wrap_u8']; omega
    have hx3 : IntKind.u8.wrap ((y : Int) + 10) = (n : Int) := by rw [IntKind.wrap_u8']; omega
    have HY : Hid (n = y + 10) := hy
    clear hx hy
    go_enter Try.func13, Try.ntmps13
    go_wp2
    go_ret2
    exact ⟨by simp; have := HY.out; omega, rfl⟩

set_option maxHeartbeats 400000 in
theorem short14 (c : Nat) (h8 : c ≠ 8) (h9 : c ≠ 9) (h10 : c ≠ 10) (h12 : c ≠ 12) (h13 : c ≠ 13) (w : World) : Calls Try.prog 14 #[.int .u8 (c : Int)] w fun e w' => e = .returned (.bool false) ∧ w = w' := by
  have e8 : ((c : Int) == 8) = false := by simp; omega
  have e9 : ((c : Int) == 9) = false := by simp; omega
  have e10 : ((c : Int) == 10) = false := by simp; omega
  have e12 : ((c : Int) == 12) = false := by simp; omega
  have e13 : ((c : Int) == 13) = false := by simp; omega
  go_enter Try.func14, Try.ntmps14
  go_wp2
  go_ret
  exact ⟨rfl, rfl⟩

theorem or_join (q r : Nat) (hq : q < 2) (hr : r < 16) : bits .or .u8 ((q * 16 : Nat) : Int) (r : Int) = ((q * 16 + r : Nat) : Int) := by
  rw [u8_or_nat (q * 16) r (by omega) (by omega), nat_join 4 (q * 16) r (by omega) (by omega)]

/-- the bytes of an escape, one by one -/
theorem esc_at (l : List UInt8) (k j : Nat) (hk : k < l.length) (hj : j < (escB l[k]).length) : ∃ h : (esc (l.take k)).length + j < (esc l).length, (esc l)[(esc (l.take k)).length + j]'h = (escB l[k])[j] := by
  have e : esc l = esc (l.take k) ++ (escB l[k] ++ esc (l.drop (k + 1))) := by
    conv => lhs; rw [← List.take_append_drop k l, esc_append, List.drop_eq_getElem_cons hk]
    rfl
  have hlt : (esc (l.take k)).length + j < (esc l).length := by rw [e, List.length_append, List.length_append]; omega
  refine ⟨hlt, ?_⟩
  have h2 : (esc l)[(esc (l.take k)).length + j]? = (escB l[k])[j]? := by
    rw [e, List.getElem?_append_right (by omega), Nat.add_sub_cancel_left, List.getElem?_append_left hj]
  rw [List.getElem?_eq_getElem hlt, List.getElem?_eq_getElem hj] at h2
  exact Option.some.inj h2

theorem esc_full (l : List UInt8) : (esc (l.take l.length)).length = (esc l).length := by rw [List.take_length]

set_option maxRecDepth 100000 in
set_option maxHeartbeats 2000000 in
theorem dec_cons (b o c : Nat) (l : List UInt8) (w : World) (hl : (esc l).length ≤ 100000000) (hc : ∀ j (h : j < (esc l).length), w.cell? ⟨b, o + j, none⟩ = some (.int .u8 ((esc l)[j]).toNat)) (hb : b < w.heap.size) :
    Calls Try.prog 9 #[.slice (some ⟨b, o, none⟩) (esc l).length c] w fun e w' => ∃ vo, e = .returned (.tuple #[vo, .bool true]) ∧ w'.ownsRow w.heap.size 5 1 vo l.length (cs l) ∧ Below w.heap.size w w' := by
  obtain ⟨i0, hi, hz0, hz1, hz2⟩ := info_parts info5
  have HC : Hid (∀ j (h : j < (esc l).length), w.cell? ⟨b, o + j, none⟩ = some (.int .u8 ((esc l)[j]).toNat)) := hc
  have hll := (esc_len l).1
  clear hc
  obtain ⟨n, HN⟩ : ∃ n, Hid (n = (esc l).length) := ⟨_, rfl⟩
  rw [← HN.out] at hl hll ⊢
  go_enter Try.func9, Try.ntmps9
  go_wp2_with (at_make; refine wpList_make_own _ rfl _ _ 22 rfl w.heap.size 5 i0 (.int .u8 0) 1 Try.underlying22 hi hz0 hz1 _ _ _ n rfl rfl rfl (by rw [hz2]; omega) (by unfold maxLen; omega) (Nat.le_refl _) ?_; intro w1 hown hgrow)
  have HO1 : Hid (w1.ownsRow w.heap.size 5 1 (.slice (some ⟨w.heap.size, 0, none⟩) 0 n) 0 []) := hown
  have HB1 : Hid (Below w.heap.size w w1) := (Below.refl _ _).grown hgrow (Nat.le_refl _) (by intro k hk; cases hk)
  clear hown hgrow hi hz0 hz1 hz2
  go_loopw [4, 5] (fun vo i wr => ∃ k : Nat, k ≤ l.length ∧ i = .int .i64 ((esc (l.take k)).length : Int) ∧ wr.ownsRow w.heap.size 5 1 vo (l.take k).length (cs (l.take k)) ∧ Below w.heap.size w wr) (fun _ i _ => n - (intOf i).toNat)
  case atStart => exact ⟨0, by omega, rfl, HO1.out, HB1.out⟩
  case round =>
    clear HO1 HB1
    obtain ⟨k, hk, rfl, hown, hbel⟩ := hrel
    have HO : Hid (Own w.heap.size wr u4.ownBlock wr u4 (l.take k)) := Own.start hbel.size hown
    have HB : Hid (Below w.heap.size w wr) := hbel
    clear hown hbel
    by_cases hkl : k < l.length
    · have H1 : Hid (∀ j (h : j < (escB l[k]).length), wr.cell? ⟨b, o + ((esc (l.take k)).length + j), none⟩ = some (.int .u8 ((escB l[k])[j]).toNat)) := by
        intro j hj
        obtain ⟨h1, h2⟩ := esc_at l k j hkl hj
        rw [← h2]
        exact (HB.out.cell (p := ⟨b, _, none⟩) hb).trans (HC.out _ h1)
      have hes : (esc (l.take k)).length + (escB l[k]).length ≤ n := by
        have h1 := (escB_len l[k]).1
        obtain ⟨h2, _⟩ := esc_at l k ((escB l[k]).length - 1) hkl (by omega)
        rw [HN.out]; omega
      have Hsn : Hid (esc (l.take (k + 1)) = esc (l.take k) ++ escB l[k] ∧ l.take (k + 1) = l.take k ++ [l[k]]) := ⟨esc_take_snoc l k hkl, List.take_succ_eq_append_getElem hkl⟩
      have Hbd : Hid ((l.take k).length + [l[k]].length ≤ 140737488355328) := by
        have : (l.take k).length ≤ k := List.length_take_le _ _
        show _ ≤ _; simp only [List.length_cons, List.length_nil]; omega
      obtain ⟨x, hx⟩ : ∃ x, x = l[k] := ⟨_, rfl⟩
      rw [← hx] at H1 hes Hsn Hbd
      clear hx
      obtain ⟨p, hp⟩ : ∃ p, p = (esc (l.take k)).length := ⟨_, rfl⟩
      rw [← hp] at H1 hes ⊢
      have HP : Hid (p = (esc (l.take k)).length) := hp
      clear hp
      obtain ⟨cc, hcc⟩ : ∃ cc, cc = x.toNat := ⟨_, rfl⟩
      have hc256 : cc < 256 := by rw [hcc]; exact x.toNat_lt
      have Hcc : Hid (x.toNat = cc) := hcc.symm
      clear hcc
      have Hend : Hid (∀ (w2 : World) (v2 : Value), Own w.heap.size wr u4.ownBlock w2 v2 (l.take k ++ [x]) → w2.ownsRow w.heap.size 5 1 v2 (l.take (k + 1)).length (cs (l.take (k + 1))) ∧ Below w.heap.size w w2) := by
        intro w2 v2 h
        rw [Hsn.out.2]
        exact ⟨h.own, HB.out.trans (h.below (fun q hq => (HO.out.own.lt q hq).1))⟩
      have Hnw : Hid (∀ wx : World, ∀ j u, (cs [x])[j]? = some u → (wx.alloc (.cells #[.int .u8 (cc : Int)] 5)).cell? ((⟨wx.heap.size, 0, none⟩ : Addr).add j) = some u) := by
        intro wx j u hu
        have e : cs [x] = [.int .u8 (cc : Int)] := by show [Value.int .u8 (x.toNat : Int)] = _; rw [Hcc.out]
        rw [e] at hu
        exact World.news_of_block (heap_alloc_new wx _) j u hu
      rcases (show (32 ≤ cc ∧ cc ≠ 34 ∧ cc ≠ 92) ∨ cc = 34 ∨ cc = 92 ∨ cc = 8 ∨ cc = 9 ∨ cc = 10 ∨ cc = 12 ∨ cc = 13 ∨ (cc < 32 ∧ cc ≠ 8 ∧ cc ≠ 9 ∧ cc ≠ 10 ∧ cc ≠ 12 ∧ cc ≠ 13) from by omega) with ⟨p1, p2, p3⟩ | h | h | h | h | h | h | h | ⟨h, h8, h9, h10, h12, h13⟩
      · -- plain
        have he : escB x = [x] := escB_plain ⟨by rw [Hcc.out]; omega, by rw [Hcc.out]; omega, by rw [Hcc.out]; omega⟩
        have c0 := H1.out 0 (by rw [he]; simp)
        simp only [he, List.getElem_cons_zero, List.getElem_cons_succ, Nat.add_zero] at c0
        rw [he] at hes
        have hes2 : p + 1 ≤ n := by simpa using hes
        have Hlen : Hid ((esc (l.take (k + 1))).length = p + 1) := by show _ = _; rw [Hsn.out.1, he, List.length_append, ← HP.out]; rfl
        have hp0 : (p : Int) < (n : Int) := by omega
        have d0 : decide ((p : Int) < (n : Int)) = true := decide_eq_true hp0
        simp only [Hcc.out] at c0
        have e1 : decide ((cc : Int) < 32) = false := decide_eq_false (by omega)
        have e2 : ((cc : Int) == 34) = false := by simp; omega
        have e3 : ((cc : Int) != 92) = true := by simp; omega
        clear hes he
        go_wp2_with (first | (at_builtin; refine wpList_append_sl rfl _ _ rfl _ rfl [x] ⟨wr.heap.size, 0, none⟩ 1 1 rfl rfl (Hnw.out wr) (HO.out.alloc _) Hbd.out ?_; intro v2 w2 hO2))
        have HR := Hend.out _ _ hO2
        clear hO2
        go_wp2
        go_roundw
        case rel => first | exact ⟨k + 1, by omega, by rw [Hlen.out]; go_num, HR.1, HR.2⟩ | ((repeat apply Exists.intro); exact ⟨⟨k + 1, by omega, by rw [Hlen.out]; go_num, HR.1, HR.2⟩, rfl⟩)
        case measure => simp [intOf]; omega
      · subst h
        have he : escB x = [92, 34] := escB_34 Hcc.out
        have c0 := H1.out 0 (by rw [he]; simp)
        simp only [he, List.getElem_cons_zero, List.getElem_cons_succ, Nat.add_zero] at c0
        have c1 := H1.out 1 (by rw [he]; simp)
        simp only [he, List.getElem_cons_zero, List.getElem_cons_succ, Nat.add_zero] at c1
        rw [he] at hes
        have hes2 : p + 2 ≤ n := by simpa using hes
        have Hlen : Hid ((esc (l.take (k + 1))).length = p + 2) := by show _ = _; rw [Hsn.out.1, he, List.length_append, ← HP.out]; rfl
        have hp0 : (p : Int) < (n : Int) := by omega
        have hp1 : (p : Int) + 1 < (n : Int) := by omega
        have d0 : decide ((p : Int) < (n : Int)) = true := decide_eq_true hp0
        have c0' : wr.cell? ⟨b, o + p, none⟩ = some (.int .u8 92) := c0
        have c1' : wr.cell? ⟨b, o + (p + 1), none⟩ = some (.int .u8 34) := c1
        clear c0 c1
        clear hes he
        go_wp2_with (first | (at_builtin; refine wpList_append_sl rfl _ _ rfl _ rfl [x] ⟨wr.heap.size, 0, none⟩ 1 1 rfl rfl (Hnw.out wr) (HO.out.alloc _) Hbd.out ?_; intro v2 w2 hO2))
        have HR := Hend.out _ _ hO2
        clear hO2
        go_wp2
        go_roundw
        case rel => first | exact ⟨k + 1, by omega, by rw [Hlen.out]; go_num, HR.1, HR.2⟩ | ((repeat apply Exists.intro); exact ⟨⟨k + 1, by omega, by rw [Hlen.out]; go_num, HR.1, HR.2⟩, rfl⟩)
        case measure => simp [intOf]; omega
      · subst h
        have he : escB x = [92, 92] := escB_92 Hcc.out
        have c0 := H1.out 0 (by rw [he]; simp)
        simp only [he, List.getElem_cons_zero, List.getElem_cons_succ, Nat.add_zero] at c0
        have c1 := H1.out 1 (by rw [he]; simp)
        simp only [he, List.getElem_cons_zero, List.getElem_cons_succ, Nat.add_zero] at c1
        rw [he] at hes
        have hes2 : p + 2 ≤ n := by simpa using hes
        have Hlen : Hid ((esc (l.take (k + 1))).length = p + 2) := by show _ = _; rw [Hsn.out.1, he, List.length_append, ← HP.out]; rfl
        have hp0 : (p : Int) < (n : Int) := by omega
        have hp1 : (p : Int) + 1 < (n : Int) := by omega
        have d0 : decide ((p : Int) < (n : Int)) = true := decide_eq_true hp0
        have c0' : wr.cell? ⟨b, o + p, none⟩ = some (.int .u8 92) := c0
        have c1' : wr.cell? ⟨b, o + (p + 1), none⟩ = some (.int .u8 92) := c1
        clear c0 c1
        clear hes he
        go_wp2_with (first | (at_builtin; refine wpList_append_sl rfl _ _ rfl _ rfl [x] ⟨wr.heap.size, 0, none⟩ 1 1 rfl rfl (Hnw.out wr) (HO.out.alloc _) Hbd.out ?_; intro v2 w2 hO2))
        have HR := Hend.out _ _ hO2
        clear hO2
        go_wp2
        go_roundw
        case rel => first | exact ⟨k + 1, by omega, by rw [Hlen.out]; go_num, HR.1, HR.2⟩ | ((repeat apply Exists.intro); exact ⟨⟨k + 1, by omega, by rw [Hlen.out]; go_num, HR.1, HR.2⟩, rfl⟩)
        case measure => simp [intOf]; omega
      · subst h
        have he : escB x = [92, 98] := escB_8 Hcc.out
        have c0 := H1.out 0 (by rw [he]; simp)
        simp only [he, List.getElem_cons_zero, List.getElem_cons_succ, Nat.add_zero] at c0
        have c1 := H1.out 1 (by rw [he]; simp)
        simp only [he, List.getElem_cons_zero, List.getElem_cons_succ, Nat.add_zero] at c1
        rw [he] at hes
        have hes2 : p + 2 ≤ n := by simpa using hes
        have Hlen : Hid ((esc (l.take (k + 1))).length = p + 2) := by show _ = _; rw [Hsn.out.1, he, List.length_append, ← HP.out]; rfl
        have hp0 : (p : Int) < (n : Int) := by omega
        have hp1 : (p : Int) + 1 < (n : Int) := by omega
        have d0 : decide ((p : Int) < (n : Int)) = true := decide_eq_true hp0
        have c0' : wr.cell? ⟨b, o + p, none⟩ = some (.int .u8 92) := c0
        have c1' : wr.cell? ⟨b, o + (p + 1), none⟩ = some (.int .u8 98) := c1
        clear c0 c1
        clear hes he
        go_wp2_with (first | (at_builtin; refine wpList_append_sl rfl _ _ rfl _ rfl [x] ⟨wr.heap.size, 0, none⟩ 1 1 rfl rfl (Hnw.out wr) (HO.out.alloc _) Hbd.out ?_; intro v2 w2 hO2) | (go_at_call 12; go_in))
        have HR := Hend.out _ _ hO2
        clear hO2
        go_wp2
        go_roundw
        case rel => first | exact ⟨k + 1, by omega, by rw [Hlen.out]; go_num, HR.1, HR.2⟩ | ((repeat apply Exists.intro); exact ⟨⟨k + 1, by omega, by rw [Hlen.out]; go_num, HR.1, HR.2⟩, rfl⟩)
        case measure => simp [intOf]; omega
      · subst h
        have he : escB x = [92, 116] := escB_9 Hcc.out
        have c0 := H1.out 0 (by rw [he]; simp)
        simp only [he, List.getElem_cons_zero, List.getElem_cons_succ, Nat.add_zero] at c0
        have c1 := H1.out 1 (by rw [he]; simp)
        simp only [he, List.getElem_cons_zero, List.getElem_cons_succ, Nat.add_zero] at c1
        rw [he] at hes
        have hes2 : p + 2 ≤ n := by simpa using hes
        have Hlen : Hid ((esc (l.take (k + 1))).length = p + 2) := by show _ = _; rw [Hsn.out.1, he, List.length_append, ← HP.out]; rfl
        have hp0 : (p : Int) < (n : Int) := by omega
        have hp1 : (p : Int) + 1 < (n : Int) := by omega
        have d0 : decide ((p : Int) < (n : Int)) = true := decide_eq_true hp0
        have c0' : wr.cell? ⟨b, o + p, none⟩ = some (.int .u8 92) := c0
        have c1' : wr.cell? ⟨b, o + (p + 1), none⟩ = some (.int .u8 116) := c1
        clear c0 c1
        clear hes he
        go_wp2_with (first | (at_builtin; refine wpList_append_sl rfl _ _ rfl _ rfl [x] ⟨wr.heap.size, 0, none⟩ 1 1 rfl rfl (Hnw.out wr) (HO.out.alloc _) Hbd.out ?_; intro v2 w2 hO2) | (go_at_call 12; go_in))
        have HR := Hend.out _ _ hO2
        clear hO2
        go_wp2
        go_roundw
        case rel => first | exact ⟨k + 1, by omega, by rw [Hlen.out]; go_num, HR.1, HR.2⟩ | ((repeat apply Exists.intro); exact ⟨⟨k + 1, by omega, by rw [Hlen.out]; go_num, HR.1, HR.2⟩, rfl⟩)
        case measure => simp [intOf]; omega
      · subst h
        have he : escB x = [92, 110] := escB_10 Hcc.out
        have c0 := H1.out 0 (by rw [he]; simp)
        simp only [he, List.getElem_cons_zero, List.getElem_cons_succ, Nat.add_zero] at c0
        have c1 := H1.out 1 (by rw [he]; simp)
        simp only [he, List.getElem_cons_zero, List.getElem_cons_succ, Nat.add_zero] at c1
        rw [he] at hes
        have hes2 : p + 2 ≤ n := by simpa using hes
        have Hlen : Hid ((esc (l.take (k + 1))).length = p + 2) := by show _ = _; rw [Hsn.out.1, he, List.length_append, ← HP.out]; rfl
        have hp0 : (p : Int) < (n : Int) := by omega
        have hp1 : (p : Int) + 1 < (n : Int) := by omega
        have d0 : decide ((p : Int) < (n : Int)) = true := decide_eq_true hp0
        have c0' : wr.cell? ⟨b, o + p, none⟩ = some (.int .u8 92) := c0
        have c1' : wr.cell? ⟨b, o + (p + 1), none⟩ = some (.int .u8 110) := c1
        clear c0 c1
        clear hes he
        go_wp2_with (first | (at_builtin; refine wpList_append_sl rfl _ _ rfl _ rfl [x] ⟨wr.heap.size, 0, none⟩ 1 1 rfl rfl (Hnw.out wr) (HO.out.alloc _) Hbd.out ?_; intro v2 w2 hO2) | (go_at_call 12; go_in))
        have HR := Hend.out _ _ hO2
        clear hO2
        go_wp2
        go_roundw
        case rel => first | exact ⟨k + 1, by omega, by rw [Hlen.out]; go_num, HR.1, HR.2⟩ | ((repeat apply Exists.intro); exact ⟨⟨k + 1, by omega, by rw [Hlen.out]; go_num, HR.1, HR.2⟩, rfl⟩)
        case measure => simp [intOf]; omega
      · subst h
        have he : escB x = [92, 102] := escB_12 Hcc.out
        have c0 := H1.out 0 (by rw [he]; simp)
        simp only [he, List.getElem_cons_zero, List.getElem_cons_succ, Nat.add_zero] at c0
        have c1 := H1.out 1 (by rw [he]; simp)
        simp only [he, List.getElem_cons_zero, List.getElem_cons_succ, Nat.add_zero] at c1
        rw [he] at hes
        have hes2 : p + 2 ≤ n := by simpa using hes
        have Hlen : Hid ((esc (l.take (k + 1))).length = p + 2) := by show _ = _; rw [Hsn.out.1, he, List.length_append, ← HP.out]; rfl
        have hp0 : (p : Int) < (n : Int) := by omega
        have hp1 : (p : Int) + 1 < (n : Int) := by omega
        have d0 : decide ((p : Int) < (n : Int)) = true := decide_eq_true hp0
        have c0' : wr.cell? ⟨b, o + p, none⟩ = some (.int .u8 92) := c0
        have c1' : wr.cell? ⟨b, o + (p + 1), none⟩ = some (.int .u8 102) := c1
        clear c0 c1
        clear hes he
        go_wp2_with (first | (at_builtin; refine wpList_append_sl rfl _ _ rfl _ rfl [x] ⟨wr.heap.size, 0, none⟩ 1 1 rfl rfl (Hnw.out wr) (HO.out.alloc _) Hbd.out ?_; intro v2 w2 hO2) | (go_at_call 12; go_in))
        have HR := Hend.out _ _ hO2
        clear hO2
        go_wp2
        go_roundw
        case rel => first | exact ⟨k + 1, by omega, by rw [Hlen.out]; go_num, HR.1, HR.2⟩ | ((repeat apply Exists.intro); exact ⟨⟨k + 1, by omega, by rw [Hlen.out]; go_num, HR.1, HR.2⟩, rfl⟩)
        case measure => simp [intOf]; omega
      · subst h
        have he : escB x = [92, 114] := escB_13 Hcc.out
        have c0 := H1.out 0 (by rw [he]; simp)
        simp only [he, List.getElem_cons_zero, List.getElem_cons_succ, Nat.add_zero] at c0
        have c1 := H1.out 1 (by rw [he]; simp)
        simp only [he, List.getElem_cons_zero, List.getElem_cons_succ, Nat.add_zero] at c1
        rw [he] at hes
        have hes2 : p + 2 ≤ n := by simpa using hes
        have Hlen : Hid ((esc (l.take (k + 1))).length = p + 2) := by show _ = _; rw [Hsn.out.1, he, List.length_append, ← HP.out]; rfl
        have hp0 : (p : Int) < (n : Int) := by omega
        have hp1 : (p : Int) + 1 < (n : Int) := by omega
        have d0 : decide ((p : Int) < (n : Int)) = true := decide_eq_true hp0
        have c0' : wr.cell? ⟨b, o + p, none⟩ = some (.int .u8 92) := c0
        have c1' : wr.cell? ⟨b, o + (p + 1), none⟩ = some (.int .u8 114) := c1
        clear c0 c1
        clear hes he
        go_wp2_with (first | (at_builtin; refine wpList_append_sl rfl _ _ rfl _ rfl [x] ⟨wr.heap.size, 0, none⟩ 1 1 rfl rfl (Hnw.out wr) (HO.out.alloc _) Hbd.out ?_; intro v2 w2 hO2) | (go_at_call 12; go_in))
        have HR := Hend.out _ _ hO2
        clear hO2
        go_wp2
        go_roundw
        case rel => first | exact ⟨k + 1, by omega, by rw [Hlen.out]; go_num, HR.1, HR.2⟩ | ((repeat apply Exists.intro); exact ⟨⟨k + 1, by omega, by rw [Hlen.out]; go_num, HR.1, HR.2⟩, rfl⟩)
        case measure => simp [intOf]; omega
      · obtain ⟨q, hq⟩ : ∃ q, q = cc / 16 := ⟨_, rfl⟩
        obtain ⟨r, hr⟩ : ∃ r, r = cc % 16 := ⟨_, rfl⟩
        have he : escB x = [92, 117, 48, 48, hexd q, hexd r] := by rw [escB_ctl (by rw [Hcc.out]; exact h) (by rw [Hcc.out]; exact h8) (by rw [Hcc.out]; exact h9) (by rw [Hcc.out]; exact h10) (by rw [Hcc.out]; exact h12) (by rw [Hcc.out]; exact h13), Hcc.out, hq, hr]
        have c0 := H1.out 0 (by rw [he]; simp)
        simp only [he, List.getElem_cons_zero, List.getElem_cons_succ, Nat.add_zero] at c0
        have c1 := H1.out 1 (by rw [he]; simp)
        simp only [he, List.getElem_cons_zero, List.getElem_cons_succ, Nat.add_zero] at c1
        have c2 := H1.out 2 (by rw [he]; simp)
        simp only [he, List.getElem_cons_zero, List.getElem_cons_succ, Nat.add_zero] at c2
        have c3 := H1.out 3 (by rw [he]; simp)
        simp only [he, List.getElem_cons_zero, List.getElem_cons_succ, Nat.add_zero] at c3
        have c4 := H1.out 4 (by rw [he]; simp)
        simp only [he, List.getElem_cons_zero, List.getElem_cons_succ, Nat.add_zero] at c4
        have c5 := H1.out 5 (by rw [he]; simp)
        simp only [he, List.getElem_cons_zero, List.getElem_cons_succ, Nat.add_zero] at c5
        rw [he] at hes
        have hes2 : p + 6 ≤ n := by simpa using hes
        have Hlen : Hid ((esc (l.take (k + 1))).length = p + 6) := by show _ = _; rw [Hsn.out.1, he, List.length_append, ← HP.out]; rfl
        have hp0 : (p : Int) < (n : Int) := by omega
        have hp1 : (p : Int) + 1 < (n : Int) := by omega
        have hp2 : (p : Int) + 2 < (n : Int) := by omega
        have hp3 : (p : Int) + 3 < (n : Int) := by omega
        have hp4 : (p : Int) + 4 < (n : Int) := by omega
        have hp5 : (p : Int) + 5 < (n : Int) := by omega
        have d0 : decide ((p : Int) < (n : Int)) = true := decide_eq_true hp0
        have c0' : wr.cell? ⟨b, o + p, none⟩ = some (.int .u8 92) := c0
        have c1' : wr.cell? ⟨b, o + (p + 1), none⟩ = some (.int .u8 117) := c1
        have c2' : wr.cell? ⟨b, o + (p + 2), none⟩ = some (.int .u8 48) := c2
        have c3' : wr.cell? ⟨b, o + (p + 3), none⟩ = some (.int .u8 48) := c3
        clear c0 c1 c2 c3
        have hq2 : q < 2 := by omega
        have hr16 : r < 16 := by omega
        obtain ⟨q16, hq16⟩ : ∃ q16, q16 = q * 16 := ⟨_, rfl⟩
        have hsh : IntKind.u8.wrap ((q : Int) * 16) = (q16 : Int) := by rw [IntKind.wrap_u8']; omega
        have hor : bits .or .u8 (q16 : Int) (r : Int) = (cc : Int) := by rw [hq16, or_join q r hq2 hr16]; congr 1; omega
        have e32 : decide (32 ≤ (cc : Int)) = false := decide_eq_false (by omega)
        clear hq hr hq16
        clear hes he
        go_wp2_with (first | (at_builtin; refine wpList_append_sl rfl _ _ rfl _ rfl [x] ⟨wr.heap.size, 0, none⟩ 1 1 rfl rfl (Hnw.out wr) (HO.out.alloc _) Hbd.out ?_; intro v2 w2 hO2) | (go_at_call 12; go_in) | (go_at_call 13; refine (hex13 _ ?_ _).mono ?_; omega; rintro e w' ⟨rfl, rfl⟩) | (go_at_call 14; refine (short14 _ h8 h9 h10 h12 h13 _).mono ?_; rintro e w' ⟨rfl, rfl⟩))
        have HR := Hend.out _ _ hO2
        clear hO2
        go_wp2
        go_roundw
        case rel => first | exact ⟨k + 1, by omega, by rw [Hlen.out]; go_num, HR.1, HR.2⟩ | ((repeat apply Exists.intro); exact ⟨⟨k + 1, by omega, by rw [Hlen.out]; go_num, HR.1, HR.2⟩, rfl⟩)
        case measure => simp [intOf]; omega
    · have hkl2 : k = l.length := by omega
      subst hkl2
      have hpn : Hid ((esc (l.take l.length)).length = n) := by show _ = _; rw [HN.out, esc_full]
      have HOe : Hid (wr.ownsRow w.heap.size 5 1 u4 l.length (cs l)) := by
        have h := HO.out.own
        rw [List.take_length] at h
        exact h
      obtain ⟨p, hp⟩ : ∃ p, p = (esc (l.take l.length)).length := ⟨_, rfl⟩
      rw [← hp]
      have hpe : (n : Int) ≤ (p : Int) := by rw [hp, hpn.out]; omega
      have d0 : decide ((p : Int) < (n : Int)) = false := decide_eq_false (by omega)
      clear hp
      go_wp2
      go_ret2
      exact ⟨u4, rfl, HOe.out, HB.out⟩

end Go.Proofs.Qxb6629355a
