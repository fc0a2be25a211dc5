/- The walk of AppendJSONEscaped. -/
import Derived.Test.Qxb6629355aOwn
import Derived.Test.Qxb6629355aEsc
import Derived.Deep.RegionHeld3
import Derived.Deep.DrawnRows
namespace Go.Proofs.Qxb6629355a
open Go.RowKit Go.Lib
attribute [local go_sem] Go.wp_at_zero Go.wp_at_succ

theorem byte_at (s : ByteArray) (k : Nat) (h : k < s.size) : s.data.toList[k]'(by simpa using h) = s[k] := rfl

theorem ext_data (s : ByteArray) (d k : Nat) : (s.extract d k).data.toList = (s.data.toList.drop d).take (k - d) := Lib.extract_data s d k

theorem hex_index (n : Nat) (h : n < 16) (w : World) : (Instr.index 9 (.string ⟨#[48, 49, 50, 51, 52, 53, 54, 55, 56, 57, 97, 98, 99, 100, 101, 102]⟩) (.int .u8 (n : Int))).run Try.prog w = .ok (.int .u8 ((hexd n).toNat : Int)) w := by
  rcases (show n = 0 ∨ n = 1 ∨ n = 2 ∨ n = 3 ∨ n = 4 ∨ n = 5 ∨ n = 6 ∨ n = 7 ∨ n = 8 ∨ n = 9 ∨ n = 10 ∨ n = 11 ∨ n = 12 ∨ n = 13 ∨ n = 14 ∨ n = 15 from by omega) with rfl | rfl | rfl | rfl | rfl | rfl | rfl | rfl | rfl | rfl | rfl | rfl | rfl | rfl | rfl | rfl <;> kernel_rfl

theorem and_15 (c : Nat) (h : c < 256) : bits .and .u8 (c : Int) 15 = ((c % 16 : Nat) : Int) := by
  have := u8_and_nat c 15 h (by omega)
  rw [show ((15 : Nat) : Int) = 15 from rfl] at this
  rw [this, show (15 : Nat) = 2 ^ 4 - 1 from rfl, Nat.and_two_pow_sub_one_eq_mod]

set_option maxRecDepth 100000 in
set_option maxHeartbeats 1000000 in
theorem esc_any (base : Nat) (v : Value) (bs : List UInt8) (s : ByteArray) (w : World) (hb : base ≤ w.heap.size) (hown : w.ownsRow base 5 1 v bs.length (cs bs)) (hs : bs.length + 6 * s.size ≤ 1000000000) :
    Calls Try.prog 7 #[v, .string s] w fun e w' => ∃ v', e = .returned v' ∧ Own base w v.ownBlock w' v' (bs ++ esc s.data.toList) := by
  have HO0 : Hid (Own base w v.ownBlock w v bs) := Own.start hb hown
  clear hown hb
  have hsz : s.size ≤ 1000000000 := by omega
  have hll : s.data.toList.length = s.size := by simp
  obtain ⟨l, hl⟩ : ∃ l, l = s.data.toList := ⟨_, rfl⟩
  rw [← hl] at hll ⊢
  have Hl : Hid (l = s.data.toList) := hl
  have HL : Hid (l.length = s.size) := hll
  clear hl hll
  go_enter Try.func7, Try.ntmps7
  go_wp2
  go_loopw [0, 5, 6] (fun vb dn i wr => ∃ d k : Nat, d ≤ k ∧ k ≤ s.size ∧ dn = .int .i64 (d : Int) ∧ i = .int .i64 (k : Int) ∧ Own base w v.ownBlock wr vb (bs ++ esc (l.take d)) ∧ Flat l d k) (fun _ _ i _ => s.size - (intOf i).toNat)
  case atStart => exact ⟨0, 0, by omega, by omega, rfl, rfl, by simpa [esc] using HO0.out, flat_start _ _⟩
  case round =>
    clear HO0
    obtain ⟨d, k, hdk, hk, rfl, rfl, hO, hF⟩ := hrel
    have HO : Hid (Own base w v.ownBlock wr u0 (bs ++ esc (l.take d))) := hO
    have HF : Hid (Flat l d k) := hF
    have hel := (esc_len (l.take d)).2
    have htl : (l.take d).length ≤ d := List.length_take_le _ _
    have hbl : (bs ++ esc (l.take d)).length + 6 * (s.size - d) ≤ 1000000000 := by rw [List.length_append]; omega
    clear hO hF hel htl
    by_cases hks : k < s.size
    · have hkd : decide ((k : Int) < (s.size : Int)) = true := decide_eq_true (by omega)
      obtain ⟨c, hc⟩ : ∃ c, (s[k]'hks).toNat = c := ⟨_, rfl⟩
      have hc256 : c < 256 := by rw [← hc]; exact (s[k]'hks).toNat_lt
      have Hk : Hid (∃ h : k < l.length, (l[k]'h).toNat = c ∧ esc (l.take (k + 1)) = esc (l.take k) ++ escB (l[k]'h) ∧ (plainB (l[k]'h) → Flat l d (k + 1))) := by
        have h1 : k < l.length := by rw [HL.out]; exact hks
        have h2 : l[k]'h1 = s[k]'hks := by
          have := Hl.out
          subst this
          rfl
        exact ⟨h1, by rw [h2]; exact hc, esc_take_snoc l k h1, fun hp => flat_step hdk h1 HF.out hp⟩
      by_cases hp : 32 ≤ c ∧ c ≠ 34 ∧ c ≠ 92
      · obtain ⟨p1, p2, p3⟩ := hp
        have q1 : ((c : Int) != 34) = true := by simp; omega
        have q2 : ((c : Int) != 92) = true := by simp; omega
        have q3 : decide (32 ≤ (c : Int)) = true := decide_eq_true (by omega)
        have HF2 : Hid (Flat l d (k + 1)) := by
          obtain ⟨h1, h2, _, h4⟩ := Hk.out
          exact h4 ⟨by omega, by omega, by omega⟩
        go_wp2
        go_roundw
        case rel => exact ⟨d, k + 1, by omega, by omega, rfl, by go_num, HO.out, HF2.out⟩
        case measure => simp [intOf]; omega
      · have hp2 : Hid (c < 32 ∨ c = 34 ∨ c = 92) := by show _ ∨ _; omega
        clear hp
        have hdkI : (d : Int) ≤ (k : Int) := by omega
        have hj : Hid (bs ++ esc (l.take d) ++ (s.extract d k).data.toList = bs ++ esc (l.take k)) := by
          show _ = _
          rw [ext_data, ← Hl.out, List.append_assoc, flat_join hdk HF.out]
        have hes : (s.extract d k).size ≤ k - d := by simp; omega
        have Hb1 : Hid ((bs ++ esc (l.take d)).length + (s.extract d k).size ≤ 140737488355328) := by show _ ≤ _; omega
        clear hes
        have Hb2 : Hid ((bs ++ esc (l.take k)).length + 6 ≤ 140737488355328) := by
          show _ ≤ _
          have h1 := (esc_len (l.take k)).2
          have h2 : (l.take k).length ≤ k := List.length_take_le _ _
          rw [List.length_append]; omega
        have Hfin : Hid (∀ (wx : World) (vx : Value) (X : List UInt8), Own base w v.ownBlock wx vx (bs ++ esc (l.take k) ++ X) → (∀ b : UInt8, b.toNat = c → escB b = X) → Own base w v.ownBlock wx vx (bs ++ esc (l.take (k + 1)))) := by
          intro wx vx X hx hX
          obtain ⟨h1, h2, h3, _⟩ := Hk.out
          rw [h3, hX _ h2, ← List.append_assoc]
          exact hx
        rcases (show c = 34 ∨ c = 92 ∨ c = 8 ∨ c = 9 ∨ c = 10 ∨ c = 12 ∨ c = 13 ∨ (c < 32 ∧ c ≠ 8 ∧ c ≠ 9 ∧ c ≠ 10 ∧ c ≠ 12 ∧ c ≠ 13) from by have := hp2.out; omega) with h | h | h | h | h | h | h | ⟨h, h8, h9, h10, h12, h13⟩
        · subst h
          clear hp2 Hk
          go_wp2_with (first | (at_builtin; refine wpList_append_str rfl _ _ rfl _ (s.extract d k) rfl rfl HO.out Hb1.out ?_; intro v1 w1 hO1; rw [hj.out] at hO1) | (at_builtin; refine wpList_append_sl rfl _ _ rfl _ rfl [92, 34] ⟨w1.heap.size, 0, none⟩ 2 2 rfl rfl (World.news_of_block (heap_alloc_new _ _)) (hO1.alloc _) (Nat.le_trans (Nat.add_le_add_left (by decide) _) Hb2.out) ?_; intro v2 w2 hO2))
          have HR : Hid (Own base w v.ownBlock w2 v2 (bs ++ esc (l.take (k + 1)))) := Hfin.out _ _ _ hO2 (fun b hb => escB_34 hb)
          clear hO1 hO2
          go_wp2
          go_roundw
          case rel => first | exact ⟨k + 1, k + 1, by omega, by omega, by go_num, by go_num, HR.out, flat_start _ _⟩ | ((repeat apply Exists.intro); exact ⟨⟨k + 1, k + 1, by omega, by omega, by go_num, by go_num, HR.out, flat_start _ _⟩, rfl⟩)
          case measure => simp [intOf]; omega
        · subst h
          clear hp2 Hk
          go_wp2_with (first | (at_builtin; refine wpList_append_str rfl _ _ rfl _ (s.extract d k) rfl rfl HO.out Hb1.out ?_; intro v1 w1 hO1; rw [hj.out] at hO1) | (at_builtin; refine wpList_append_sl rfl _ _ rfl _ rfl [92, 92] ⟨w1.heap.size, 0, none⟩ 2 2 rfl rfl (World.news_of_block (heap_alloc_new _ _)) (hO1.alloc _) (Nat.le_trans (Nat.add_le_add_left (by decide) _) Hb2.out) ?_; intro v2 w2 hO2))
          have HR : Hid (Own base w v.ownBlock w2 v2 (bs ++ esc (l.take (k + 1)))) := Hfin.out _ _ _ hO2 (fun b hb => escB_92 hb)
          clear hO1 hO2
          go_wp2
          go_roundw
          case rel => first | exact ⟨k + 1, k + 1, by omega, by omega, by go_num, by go_num, HR.out, flat_start _ _⟩ | ((repeat apply Exists.intro); exact ⟨⟨k + 1, k + 1, by omega, by omega, by go_num, by go_num, HR.out, flat_start _ _⟩, rfl⟩)
          case measure => simp [intOf]; omega
        · subst h
          clear hp2 Hk
          go_wp2_with (first | (at_builtin; refine wpList_append_str rfl _ _ rfl _ (s.extract d k) rfl rfl HO.out Hb1.out ?_; intro v1 w1 hO1; rw [hj.out] at hO1) | (at_builtin; refine wpList_append_str rfl _ _ rfl _ ⟨#[92, 98]⟩ rfl rfl hO1 (Nat.le_trans (Nat.add_le_add_left (by decide) _) Hb2.out) ?_; intro v2 w2 hO2))
          have HR : Hid (Own base w v.ownBlock w2 v2 (bs ++ esc (l.take (k + 1)))) := Hfin.out _ _ _ hO2 (fun b hb => escB_8 hb)
          clear hO1 hO2
          go_wp2
          go_roundw
          case rel => first | exact ⟨k + 1, k + 1, by omega, by omega, by go_num, by go_num, HR.out, flat_start _ _⟩ | ((repeat apply Exists.intro); exact ⟨⟨k + 1, k + 1, by omega, by omega, by go_num, by go_num, HR.out, flat_start _ _⟩, rfl⟩)
          case measure => simp [intOf]; omega
        · subst h
          clear hp2 Hk
          go_wp2_with (first | (at_builtin; refine wpList_append_str rfl _ _ rfl _ (s.extract d k) rfl rfl HO.out Hb1.out ?_; intro v1 w1 hO1; rw [hj.out] at hO1) | (at_builtin; refine wpList_append_str rfl _ _ rfl _ ⟨#[92, 116]⟩ rfl rfl hO1 (Nat.le_trans (Nat.add_le_add_left (by decide) _) Hb2.out) ?_; intro v2 w2 hO2))
          have HR : Hid (Own base w v.ownBlock w2 v2 (bs ++ esc (l.take (k + 1)))) := Hfin.out _ _ _ hO2 (fun b hb => escB_9 hb)
          clear hO1 hO2
          go_wp2
          go_roundw
          case rel => first | exact ⟨k + 1, k + 1, by omega, by omega, by go_num, by go_num, HR.out, flat_start _ _⟩ | ((repeat apply Exists.intro); exact ⟨⟨k + 1, k + 1, by omega, by omega, by go_num, by go_num, HR.out, flat_start _ _⟩, rfl⟩)
          case measure => simp [intOf]; omega
        · subst h
          clear hp2 Hk
          go_wp2_with (first | (at_builtin; refine wpList_append_str rfl _ _ rfl _ (s.extract d k) rfl rfl HO.out Hb1.out ?_; intro v1 w1 hO1; rw [hj.out] at hO1) | (at_builtin; refine wpList_append_str rfl _ _ rfl _ ⟨#[92, 110]⟩ rfl rfl hO1 (Nat.le_trans (Nat.add_le_add_left (by decide) _) Hb2.out) ?_; intro v2 w2 hO2))
          have HR : Hid (Own base w v.ownBlock w2 v2 (bs ++ esc (l.take (k + 1)))) := Hfin.out _ _ _ hO2 (fun b hb => escB_10 hb)
          clear hO1 hO2
          go_wp2
          go_roundw
          case rel => first | exact ⟨k + 1, k + 1, by omega, by omega, by go_num, by go_num, HR.out, flat_start _ _⟩ | ((repeat apply Exists.intro); exact ⟨⟨k + 1, k + 1, by omega, by omega, by go_num, by go_num, HR.out, flat_start _ _⟩, rfl⟩)
          case measure => simp [intOf]; omega
        · subst h
          clear hp2 Hk
          go_wp2_with (first | (at_builtin; refine wpList_append_str rfl _ _ rfl _ (s.extract d k) rfl rfl HO.out Hb1.out ?_; intro v1 w1 hO1; rw [hj.out] at hO1) | (at_builtin; refine wpList_append_str rfl _ _ rfl _ ⟨#[92, 102]⟩ rfl rfl hO1 (Nat.le_trans (Nat.add_le_add_left (by decide) _) Hb2.out) ?_; intro v2 w2 hO2))
          have HR : Hid (Own base w v.ownBlock w2 v2 (bs ++ esc (l.take (k + 1)))) := Hfin.out _ _ _ hO2 (fun b hb => escB_12 hb)
          clear hO1 hO2
          go_wp2
          go_roundw
          case rel => first | exact ⟨k + 1, k + 1, by omega, by omega, by go_num, by go_num, HR.out, flat_start _ _⟩ | ((repeat apply Exists.intro); exact ⟨⟨k + 1, k + 1, by omega, by omega, by go_num, by go_num, HR.out, flat_start _ _⟩, rfl⟩)
          case measure => simp [intOf]; omega
        · subst h
          clear hp2 Hk
          go_wp2_with (first | (at_builtin; refine wpList_append_str rfl _ _ rfl _ (s.extract d k) rfl rfl HO.out Hb1.out ?_; intro v1 w1 hO1; rw [hj.out] at hO1) | (at_builtin; refine wpList_append_str rfl _ _ rfl _ ⟨#[92, 114]⟩ rfl rfl hO1 (Nat.le_trans (Nat.add_le_add_left (by decide) _) Hb2.out) ?_; intro v2 w2 hO2))
          have HR : Hid (Own base w v.ownBlock w2 v2 (bs ++ esc (l.take (k + 1)))) := Hfin.out _ _ _ hO2 (fun b hb => escB_13 hb)
          clear hO1 hO2
          go_wp2
          go_roundw
          case rel => first | exact ⟨k + 1, k + 1, by omega, by omega, by go_num, by go_num, HR.out, flat_start _ _⟩ | ((repeat apply Exists.intro); exact ⟨⟨k + 1, k + 1, by omega, by omega, by go_num, by go_num, HR.out, flat_start _ _⟩, rfl⟩)
          case measure => simp [intOf]; omega
        · have e34 : ((c : Int) == 34) = false := by simp; omega
          have e92 : ((c : Int) == 92) = false := by simp; omega
          have e8 : ((c : Int) == 8) = false := by simp; omega
          have e9 : ((c : Int) == 9) = false := by simp; omega
          have e10 : ((c : Int) == 10) = false := by simp; omega
          have e12 : ((c : Int) == 12) = false := by simp; omega
          have e13 : ((c : Int) == 13) = false := by simp; omega
          have e32 : decide (32 ≤ (c : Int)) = false := decide_eq_false (by omega)
          clear hp2 Hk
          go_wp2_with (at_builtin; refine wpList_append_str rfl _ _ rfl _ (s.extract d k) rfl rfl HO.out Hb1.out ?_; intro v1 w1 hO1; rw [hj.out] at hO1)
          obtain ⟨q, hq⟩ : ∃ q, q = c / 16 := ⟨_, rfl⟩
          obtain ⟨r, hr⟩ : ∃ r, r = c % 16 := ⟨_, rfl⟩
          have hq16 : (c : Int) / 16 = (q : Int) := by omega
          have hr16 : bits .and .u8 (c : Int) 15 = (r : Int) := by rw [and_15 c hc256, hr]
          have hiq := hex_index q (by omega)
          have hir := hex_index r (by omega)
          have HX : Hid (∀ b : UInt8, b.toNat = c → escB b = [92, 117, 48, 48, hexd q, hexd r]) := by
            intro b hb
            rw [escB_ctl (by omega) (by omega) (by omega) (by omega) (by omega) (by omega), hb, ← hq, ← hr]
          clear hq hr e34 e92 e8 e9 e10 e12 e13 e32
          go_region_held3 (fun _ => True) (trivial) ((refine step_append_sl (by rfl) _ _ (by rfl) _ (by rfl) [92, 117, 48, 48, hexd q, hexd r] ⟨w1.heap.size, 0, none⟩ 6 6 (by rfl) (by rfl) (World.news_of_block (heap_alloc_new w1 _)) (by first | exact (hO1.alloc _).drew | exact hO1.drew.alloc _) (Nat.le_trans (Nat.add_le_add_left (by exact Nat.le_refl 6) _) Hb2.out) (by exact Nat.succ_pos 5) ?_; intro v2 w2 hO2))
          all_goals
            have HR : Hid (Own base w v.ownBlock w2 v2 (bs ++ esc (l.take (k + 1)))) := Hfin.out _ _ _ hO2 HX.out
            clear hO1 hO2
            go_wp2
            go_roundw
            case rel => first | exact ⟨k + 1, k + 1, by omega, by omega, by go_num, by go_num, HR.out, flat_start _ _⟩ | ((repeat apply Exists.intro); exact ⟨⟨k + 1, k + 1, by omega, by omega, by go_num, by go_num, HR.out, flat_start _ _⟩, rfl⟩)
            case measure => simp [intOf]; omega
    · have hkd : decide ((k : Int) < (s.size : Int)) = false := decide_eq_false (by omega)
      have hk2 : k = s.size := by omega
      have hds : (d : Int) ≤ (s.size : Int) := by omega
      have hj : Hid (bs ++ esc (l.take d) ++ (s.extract d s.size).data.toList = bs ++ esc l) := by
        show _ = _
        rw [ext_data, ← Hl.out, List.append_assoc, ← hk2, flat_join hdk HF.out, hk2, ← HL.out, List.take_length]
      have hes : (s.extract d s.size).size ≤ s.size - d := by simp
      have Hb1 : Hid ((bs ++ esc (l.take d)).length + (s.extract d s.size).size ≤ 140737488355328) := by show _ ≤ _; omega
      clear hes hk2
      go_wp2_with (at_builtin; refine wpList_append_str rfl _ _ rfl _ (s.extract d s.size) rfl rfl HO.out Hb1.out ?_; intro v1 w1 hO1; rw [hj.out] at hO1)
      go_ret
      exact ⟨v1, rfl, hO1⟩

end Go.Proofs.Qxb6629355a
