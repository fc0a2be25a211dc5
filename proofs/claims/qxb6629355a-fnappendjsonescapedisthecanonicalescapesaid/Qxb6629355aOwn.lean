/- Byte slices that the call owns: appends, with where the new slice lies. -/
import Derived.Test.Qxb6629355aRows
import Derived.WalkKit
import Derived.WalkSpells
import Derived.WalkLawsBesides
import Derived.Lib.AppendStr
import Derived.Lib.Strings
import Derived.Deep.AppendLies
namespace Go.Proofs.Qxb6629355a
open Go.RowKit Go.Lib

theorem info5 : (Try.prog.info? 5).map (fun i => (i.zero, i.size, i.bytes)) = some (some (.int .u8 0), 1, 1) := by kernel_rfl

/-- bytes as cells -/
def cs (l : List UInt8) : List Value := l.map fun b => Value.int .u8 b.toNat
theorem cs_append (a b : List UInt8) : cs (a ++ b) = cs a ++ cs b := List.map_append
theorem cs_length (a : List UInt8) : (cs a).length = a.length := List.length_map _
theorem cs_get (a : List UInt8) (k : Nat) (h : k < a.length) : (cs a)[k]? = some (.int .u8 (a[k]).toNat) := by simp [cs, h]
theorem cs_one (a : List UInt8) : ∀ u ∈ cs a, u.oneCell' = true := by
  intro u hu
  obtain ⟨_, _, rfl⟩ := List.mem_map.1 hu
  rfl
theorem strCells_cs (s : ByteArray) : strCells s = cs s.data.toList := rfl

theorem run_append_str_at (w : World) (base : Nat) (ty : TypeId) (v : Value) (n : Nat) (xs : List Value) (hown : w.ownsRow base 5 1 v n xs) (s : ByteArray)
    (hbytes : n + s.size ≤ 140737488355328) (hbase : base ≤ w.heap.size) :
    ∃ v' w', (Builtin.append_ #[22, 9] ty #[v, .string s]).run Try.prog w = .ok v' w' ∧ w'.ownsRow base 5 1 v' (n + s.size) (xs ++ strCells s) ∧ w.grownBy w' v.ownBlock ∧
      (v'.ownBlock = v.ownBlock ∨ v'.ownBlock = some w.heap.size) := by
  obtain ⟨i, hi, hz0, hz1, hz2⟩ := info_parts info5
  have h63 : n + s.size ≤ maxLen := by unfold maxLen; omega
  obtain ⟨v', w', hr, h2, h3, h4⟩ := run_append_own_string (P := Try.prog) w base 22 9 ty 5 i Try.underlying22 Try.underlying9 hi hz0 hz1 hz2 v n xs hown s h63 hbytes hbase
  refine ⟨v', w', hr, h2, h3, ?_⟩
  have hxl : xs.length = n := by simpa using hown.1
  rcases hown.2 with ⟨rfl, rfl⟩ | ⟨g, cap, cur, rfl, hbg, hg, hnc, hcm, hcs, htake⟩
  · by_cases hm : s.size = 0
    · left; rw [h4.2 ⟨rfl, hm⟩]
    · right
      have he := run_append_nil_string (P := Try.prog) w 22 9 ty 5 i (.int .u8 0) Try.underlying22 Try.underlying9 hi hz0 s (by omega) (by omega) (by rw [hz2]; omega)
      rw [he] at hr
      injection hr with e1 _
      rw [← e1]; rfl
  · by_cases hroom : n + s.size ≤ cap
    · left
      have hcs' : cur.size = cap := by simpa using hcs
      have he := run_append_room_string (P := Try.prog) w 22 9 ty 5 i Try.underlying22 Try.underlying9 hi hz1 g n cap cur hg s hroom (by omega)
      rw [he] at hr
      injection hr with e1 _
      rw [← e1]; rfl
    · right
      have holds : ∀ j u, xs[j]? = some u → w.cell? ((⟨g, 0, none⟩ : Addr).add j) = some u := hown.cells (g := g) rfl
      have he := run_append_grow_string (P := Try.prog) w 22 9 ty 5 i (.int .u8 0) Try.underlying22 Try.underlying9 hi hz0 ⟨g, 0, none⟩ n cap xs (by rw [hz1]; simpa using hxl) holds s (by omega) (by omega) (by rw [hz2]; exact growslice_fits (by omega) (by omega))
      rw [he] at hr
      injection hr with e1 _
      rw [← e1]; rfl

/-- v owns the bytes bs; of what was there in w0 nothing has turned but the row r0, in which v may lie -/
structure Own (base : Nat) (w0 : World) (r0 : Option Nat) (w : World) (v : Value) (bs : List UInt8) : Prop where
  low : base ≤ w0.heap.size
  own : w.ownsRow base 5 1 v bs.length (cs bs)
  grew : w0.grownBy w r0
  lies : v.ownBlock = r0 ∨ ∀ k, v.ownBlock = some k → w0.heap.size ≤ k

theorem Own.start {base : Nat} {w : World} {v : Value} {bs : List UInt8} (hb : base ≤ w.heap.size) (h : w.ownsRow base 5 1 v bs.length (cs bs)) : Own base w v.ownBlock w v bs :=
  ⟨hb, h, World.grownBy.refl _ _, .inl rfl⟩

theorem Own.alloc {base : Nat} {w0 w : World} {r0 : Option Nat} {v : Value} {bs : List UInt8} (h : Own base w0 r0 w v bs) (o : Obj) : Own base w0 r0 (w.alloc o) v bs :=
  ⟨h.low, h.own.alloc o, ⟨h.grew.os, h.grew.tape, h.grew.output, by have := h.grew.size; simp; omega, fun k hk hne => by rw [Below.heap_alloc _ _ _ (by have := h.grew.size; omega)]; exact h.grew.block k hk hne⟩, h.lies⟩
theorem Own.drew {base : Nat} {w0 w : World} {r0 : Option Nat} {v : Value} {bs : List UInt8} (h : Own base w0 r0 w v bs) : Own base w0 r0 w.drew v bs :=
  ⟨h.low, h.own, ⟨h.grew.os, h.grew.tape, h.grew.output, h.grew.size, h.grew.block⟩, h.lies⟩

theorem Own.step {base : Nat} {w0 w w' : World} {r0 : Option Nat} {v v' : Value} {bs news : List UInt8} (h : Own base w0 r0 w v bs)
    (h2 : w'.ownsRow base 5 1 v' (bs.length + news.length) (cs bs ++ cs news)) (h3 : w.grownBy w' v.ownBlock) (h4 : v'.ownBlock = v.ownBlock ∨ v'.ownBlock = some w.heap.size) : Own base w0 r0 w' v' (bs ++ news) := by
  refine ⟨h.low, by rw [List.length_append, cs_append]; exact h2, ⟨h3.os.trans h.grew.os, h3.tape.trans h.grew.tape, h3.output.trans h.grew.output, Nat.le_trans h.grew.size h3.size, fun k hk hne => ?_⟩, ?_⟩
  · rw [h3.block k (Nat.lt_of_lt_of_le hk h.grew.size) ?_]
    · exact h.grew.block k hk hne
    · rcases h.lies with e | e
      · rw [e]; exact hne
      · intro he
        have := e k he.symm
        omega
  · rcases h4 with e | e
    · rcases h.lies with e2 | e2
      · left; rw [e, e2]
      · right; rw [e]; exact e2
    · right
      intro k hk
      rw [e] at hk
      injection hk with hk
      have := h.grew.size
      omega

theorem Own.hb {base : Nat} {w0 w : World} {r0 : Option Nat} {v : Value} {bs : List UInt8} (h : Own base w0 r0 w v bs) : base ≤ w.heap.size := Nat.le_trans h.low h.grew.size

/-- 'append(b, s...)' of a string, at the operation -/
theorem wpList_append_str {w : World} {ops : Array Oper} {rest : List Oper} {o : Oper} {a : Act} {Q : Exit → Act → World → Prop} (hgd : o.guard = none) (sl x : Operand)
    (ho : o.op = .call { callee := .builtin .append, args := #[sl, x], argTypes := #[22, 9] })
    (v : Value) (s : ByteArray) (hs : a.eval sl = v) (hx : a.eval x = .string s) {base : Nat} {w0 : World} {r0 : Option Nat} {bs : List UInt8} (hO : Own base w0 r0 w v bs) (hbytes : bs.length + s.size ≤ 140737488355328)
    (h : ∀ v' w', Own base w0 r0 w' v' (bs ++ s.data.toList) → wpList Try.prog ops Q rest (a.put o.dst v') w') : wpList Try.prog ops Q (o :: rest) a w := by
  refine wpList_plain hgd fun K hK => ?_
  obtain ⟨v', w', hr, h2, h3, h4⟩ := run_append_str_at w base o.type v bs.length (cs bs) hO.own s hbytes hO.hb
  rw [strCells_cs] at h2
  unfold Oper.wp execOp
  simp only [ho, resolve, invoke, builtin, Sem.run_bind, Sem.run_pure, Result.andThen_ok, List.map_toArray, List.map_cons, List.map_nil, hs, hx, hr]
  exact hK _ _ (h v' w' (hO.step (by exact h2) h3 h4))

/-- the same of a slice of bytes -/
theorem wpList_append_sl {w : World} {ops : Array Oper} {rest : List Oper} {o : Oper} {a : Act} {Q : Exit → Act → World → Prop} (hgd : o.guard = none) (sl x : Operand)
    (ho : o.op = .call { callee := .builtin .append, args := #[sl, x], argTypes := #[22, 22] })
    (v : Value) (hs : a.eval sl = v) (news : List UInt8) (ad : Addr) (m c : Nat) (hx : a.eval x = .slice (some ad) m c) (hm : m = news.length) (hnews : ∀ j u, (cs news)[j]? = some u → w.cell? (ad.add j) = some u)
    {base : Nat} {w0 : World} {r0 : Option Nat} {bs : List UInt8} (hO : Own base w0 r0 w v bs) (hbytes : bs.length + news.length ≤ 140737488355328)
    (h : ∀ v' w', Own base w0 r0 w' v' (bs ++ news) → wpList Try.prog ops Q rest (a.put o.dst v') w') : wpList Try.prog ops Q (o :: rest) a w := by
  subst hm
  obtain ⟨i, hi, hz0, hz1, hz2⟩ := info_parts info5
  refine wpList_append_own_at w hgd sl x 22 ho base 5 i (.int .u8 0) 1 1 Try.underlying22 hi hz0 hz1 hz2 rfl (by decide) v bs.length (cs bs) hs hO.own ad news.length c (cs news) hx (by rw [cs_length, Nat.mul_one]) hnews (cs_one _) (by unfold maxLen; omega) (by omega) hO.hb ?_
  intro v' w' h2 h3 _ h4
  exact h v' w' (hO.step h2 h3 h4)

/-- at a step of a region that draws -/
theorem step_append_sl {w : World} {ops : Array Oper} {o : Oper} {a : Act} {K : Act → World → Prop} {Q : Exit → Act → World → Prop} {E : Prop} (hgd : o.guard = none) (sl x : Operand)
    (ho : o.op = .call { callee := .builtin .append, args := #[sl, x], argTypes := #[22, 22] })
    (v : Value) (hs : a.eval sl = v) (news : List UInt8) (ad : Addr) (m c : Nat) (hx : a.eval x = .slice (some ad) m c) (hm : m = news.length) (hnews : ∀ j u, (cs news)[j]? = some u → w.cell? (ad.add j) = some u)
    {base : Nat} {w0 : World} {r0 : Option Nat} {bs : List UInt8} (hO : Own base w0 r0 w v bs) (hbytes : bs.length + news.length ≤ 140737488355328) (h0 : 0 < news.length)
    (h : ∀ v' w', Own base w0 r0 w' v' (bs ++ news) → K (a.put o.dst v') w') : if Region.wanted o (yielded ops a.tmps) = true then Oper.wp Try.prog o a w K Q else E := by
  subst hm
  obtain ⟨i, hi, hz0, hz1, hz2⟩ := info_parts info5
  refine step_append_lies w hgd sl x 22 ho base 5 i (.int .u8 0) 1 1 Try.underlying22 hi hz0 hz1 hz2 rfl (by decide) v bs.length (cs bs) hs hO.own ad news.length c (cs news) hx (by rw [cs_length, Nat.mul_one]) hnews (cs_one _) h0 (by unfold maxLen; omega) (by omega) hO.hb _ rfl ?_
  intro g cap w' h2 h3 h4 _
  refine h _ w' (hO.step h2 h3 ?_)
  rcases h4 with e | e
  · left; rw [e]; rfl
  · right; rw [e]; rfl

end Go.Proofs.Qxb6629355a
