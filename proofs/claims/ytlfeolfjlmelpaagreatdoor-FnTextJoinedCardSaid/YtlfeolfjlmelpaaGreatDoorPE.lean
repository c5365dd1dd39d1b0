/- What is appended to a buffer: the operation's laws, for a plain region and for one that draws its order. -/
import Derived.Test.YtlfeolfjlmelpaaGreatDoorPC
import Derived.ArgAppend
import Derived.RegionTactic
namespace Go.Proofs.YtlfeolfjlmelpaaGreatDoor
open Go.RowKit

theorem info5P : ∃ i, Tryz.prog.info? 5 = some i ∧ i.zero = some (.int .u8 0) ∧ i.size = 1 ∧ i.bytes = 1 := info_parts info5

/-- A buffer that the call owns, or a full slice of bytes. -/
def Out (B : Nat) (v : Value) (l : List UInt8) (W0 w : World) : Prop :=
  Buf B v l W0 w ∨ (∃ a, v = .slice (some a) l.length l.length ∧ IsB w (some a) l.length l ∧ Below B W0 w ∧ B ≤ w.heap.size)
theorem Buf.out {B : Nat} {v : Value} {l : List UInt8} {W0 w : World} (h : Buf B v l W0 w) : Out B v l W0 w := .inl h
theorem Out.below {B : Nat} {v : Value} {l : List UInt8} {W0 w : World} (h : Out B v l W0 w) : Below B W0 w ∧ B ≤ w.heap.size := by
  rcases h with h | ⟨a, -, -, h1, h2⟩
  · exact ⟨h.2.1, h.2.2⟩
  · exact ⟨h1, h2⟩
theorem Out.gr {v : Value} {l : List UInt8} {W0 w : World} (h : Out W0.heap.size v l W0 w) : W0.grownBy w none := below_gr h.below.1
theorem Out.kept {B : Nat} {v : Value} {l : List UInt8} {W0 w w' : World} (h : Out B v l W0 w) (hg : w.grownBy w' none) : Out B v l W0 w' := by
  rcases h with h | ⟨a, h0, h1, h2, h3⟩
  · exact .inl (h.kept hg)
  · exact .inr ⟨a, h0, h1.kept0 hg, h2.grown hg h3 (fun k hk => by cases hk), Nat.le_trans h3 hg.size⟩
theorem Out.slice {B : Nat} {v : Value} {l : List UInt8} {W0 w : World} (h : Out B v l W0 w) : ∃ A c, v = .slice A l.length c ∧ IsB w A c l := by
  rcases h with h | ⟨a, h0, h1, -, -⟩
  · by_cases hl : l = []
    · subst hl
      rcases h.1.2 with ⟨h2, -⟩ | ⟨g, cap, cur, fz, hv, -, hb, -, hle, hmx, hsz, htk⟩
      · exact ⟨none, 0, h2, IsB.nil _ (by omega)⟩
      · exact ⟨_, cap, hv, IsB.nil _ hmx⟩
    · exact h.isB hl
  · exact ⟨_, _, h0, h1⟩

theorem grownBy_own {B : Nat} {v : Value} {l : List UInt8} {W0 w w' : World} (hb : Buf B v l W0 w) {v' : Value} {l' : List UInt8} (h2 : w'.ownsRowF B 5 1 v' l'.length (l'.map by8)) (h3 : w.grownBy w' v.ownBlock) : Buf B v' l' W0 w' :=
  Lib.OwnBuf.grown hb h2 h3

/-- append of bytes that lie in memory. -/
theorem run_out {B : Nat} {v : Value} {l : List UInt8} {W0 w : World} (hb : Out B v l W0 w) (bs : List UInt8) (ad : Addr) (c : Nat) (hne : bs ≠ []) (ty : TypeId)
    (hcells : ∀ j u, (bs.map by8)[j]? = some u → w.cell? (ad.add j) = some u) (hlen : l.length + bs.length ≤ 1000000000) :
    ∃ v' w', (Builtin.append_ #[28, 28] ty #[v, .slice (some ad) bs.length c]).run Tryz.prog w = .ok v' w' ∧ Buf B v' (l ++ bs) W0 w' := by
  obtain ⟨i, hi, hz, hsize, hby⟩ := info5P
  have hpos : 0 < bs.length := List.length_pos_iff.2 hne
  have h1 : ∀ u ∈ bs.map by8, u.oneCell' = true := by
    intro u hu
    obtain ⟨y, -, rfl⟩ := List.mem_map.1 hu
    rfl
  rcases hb with hb | ⟨a, rfl, hB, hbl, hsz⟩
  · obtain ⟨v', w', h5, h2, h3, -⟩ := run_append_ownF (P := Tryz.prog) w B 28 ty 5 i (.int .u8 0) 1 1 Tryz.underlying28 hi hz hsize hby rfl (by decide) v l.length (l.map by8) hb.1 ad bs.length c (bs.map by8) (by simp) hcells h1 (by unfold maxLen; omega) (by omega) hb.2.2
    refine ⟨v', w', h5, grownBy_own hb ?_ h3⟩
    rw [List.length_append, List.map_append]
    exact h2
  · obtain ⟨v', w', h5, h2, h3⟩ := run_append_arg_grows (P := Tryz.prog) w 28 ty 5 i (.int .u8 0) 1 1 Tryz.underlying28 hi hz hsize hby rfl (by decide) a l.length l.length (l.map by8) (by simp) (by
      intro j u hu
      rw [List.getElem?_map] at hu
      cases hq : l[j]? with
      | none => rw [hq] at hu; simp at hu
      | some y =>
        rw [hq] at hu
        obtain ⟨hj, hy⟩ := List.getElem?_eq_some_iff.1 hq
        obtain ⟨b, o, ha, hk⟩ := hB.get (by rintro rfl; simp at hj)
        cases ha
        have := hk j hj
        rw [hy] at this
        rw [show (⟨b, o, none⟩ : Addr).add j = ⟨b, o + j, none⟩ by unfold Addr.add; split <;> simp_all]
        rw [this]; simpa using hu) ad bs.length c (bs.map by8) (by simp) hcells (by omega) (by unfold maxLen; omega) (by omega)
    refine ⟨v', w', h5, ?_, hbl.grown h3 hsz (fun k hk => by cases hk), Nat.le_trans hsz h3.size⟩
    have h6 := World.ownsRowF_of h2
    rw [List.length_append, List.map_append]
    refine ⟨h6.1, ?_⟩
    rcases h6.2 with h7 | ⟨g, cap, cur, fz, hv, hg, rest⟩
    · exact .inl h7
    · exact .inr ⟨g, cap, cur, fz, hv, Nat.le_trans hsz hg, rest⟩

theorem wp_app {o : Oper} {a : Act} {w : World} {K : Act → World → Prop} {Q : Exit → Act → World → Prop} (s x : Operand)
    (ho : o.op = .call { callee := .builtin .append, args := #[s, x], argTypes := #[28, 28] }) {B : Nat} {v : Value} {l : List UInt8} {W0 : World} (hb : Out B v l W0 w) (hs : a.eval s = v)
    (bs : List UInt8) (ad : Addr) (c : Nat) (hx : a.eval x = .slice (some ad) bs.length c) (hne : bs ≠ []) (hcells : ∀ j u, (bs.map by8)[j]? = some u → w.cell? (ad.add j) = some u) (hlen : l.length + bs.length ≤ 1000000000)
    (h : ∀ v' w', Buf B v' (l ++ bs) W0 w' → K (a.put o.dst v') w') : o.wp Tryz.prog a w K Q := by
  obtain ⟨v', w', hr, h2⟩ := run_out hb bs ad c hne o.type hcells hlen
  unfold Oper.wp execOp
  simp only [ho, resolve, invoke, builtin, Sem.run_bind, Sem.run_pure, Result.andThen_ok, List.map_toArray, List.map_cons, List.map_nil, hs, hx, hr]
  exact h _ _ h2
theorem wl_app {ops : Array Oper} {rest : List Oper} {o : Oper} {a : Act} {w : World} {Q : Exit → Act → World → Prop} (hgd : o.guard = none) (s x : Operand)
    (ho : o.op = .call { callee := .builtin .append, args := #[s, x], argTypes := #[28, 28] }) {B : Nat} {v : Value} {l : List UInt8} {W0 : World} (hb : Out B v l W0 w) (hs : a.eval s = v)
    (bs : List UInt8) (ad : Addr) (c : Nat) (hx : a.eval x = .slice (some ad) bs.length c) (hne : bs ≠ []) (hcells : ∀ j u, (bs.map by8)[j]? = some u → w.cell? (ad.add j) = some u) (hlen : l.length + bs.length ≤ 1000000000)
    (h : ∀ v' w', Buf B v' (l ++ bs) W0 w' → wpList Tryz.prog ops Q rest (a.put o.dst v') w') : wpList Tryz.prog ops Q (o :: rest) a w :=
  wpList_plain hgd fun _ hK => wp_app s x ho hb hs bs ad c hx hne hcells hlen fun v' w' h2 => hK _ _ (h v' w' h2)
theorem step_app {ops : Array Oper} {o : Oper} {a : Act} {w : World} {K : Act → World → Prop} {Q : Exit → Act → World → Prop} {E : Prop} (hgd : o.guard = none) (s x : Operand)
    (ho : o.op = .call { callee := .builtin .append, args := #[s, x], argTypes := #[28, 28] }) {B : Nat} {v : Value} {l : List UInt8} {W0 : World} (hb : Out B v l W0 w) (hs : a.eval s = v)
    (bs : List UInt8) (ad : Addr) (c : Nat) (hx : a.eval x = .slice (some ad) bs.length c) (hne : bs ≠ []) (hcells : ∀ j u, (bs.map by8)[j]? = some u → w.cell? (ad.add j) = some u) (hlen : l.length + bs.length ≤ 1000000000)
    (h : ∀ v' w', Buf B v' (l ++ bs) W0 w' → K (a.put o.dst v') w') : if Region.wanted o (yielded ops a.tmps) = true then Oper.wp Tryz.prog o a w K Q else E := by
  have hw : Region.wanted o (yielded ops a.tmps) = true := by simp [Region.wanted, hgd]
  rw [if_pos hw]
  exact wp_app s x ho hb hs bs ad c hx hne hcells hlen h

/-- One byte, as the statement has just laid it. -/
theorem one_cells (w0 : World) (c : UInt8) : ∀ j u, ([c].map by8)[j]? = some u → (w0.alloc (.cells #[by8 c] 5)).cell? ((⟨w0.heap.size, 0, none⟩ : Addr).add j) = some u := by
  intro j u hj
  match j, hj with
  | 0, hj =>
    simp at hj; subst hj
    rw [show (⟨w0.heap.size, 0, none⟩ : Addr).add 0 = ⟨w0.heap.size, 0, none⟩ by simp [Addr.add]]
    exact blk_cell (blk_new w0 _) 0
  | (j + 1), hj => simp at hj
theorem wl_byte {ops : Array Oper} {rest : List Oper} {o : Oper} {a : Act} {w0 : World} {Q : Exit → Act → World → Prop} (hgd : o.guard = none) (s x : Operand)
    (ho : o.op = .call { callee := .builtin .append, args := #[s, x], argTypes := #[28, 28] }) {B : Nat} {v : Value} {l : List UInt8} {W0 : World} (hb : Out B v l W0 w0) (hs : a.eval s = v)
    (c : UInt8) (k : Int) (hk : k = c.toNat) (hx : a.eval x = .slice (some ⟨w0.heap.size, 0, none⟩) 1 1) (hlen : l.length + 1 ≤ 1000000000)
    (h : ∀ v' w', Buf B v' (l ++ [c]) W0 w' → wpList Tryz.prog ops Q rest (a.put o.dst v') w') : wpList Tryz.prog ops Q (o :: rest) a (w0.alloc (.cells #[.int .u8 k] 5)) := by
  subst hk
  exact wl_app hgd s x ho (hb.kept (gr_alloc (gr_refl _ _) _)) hs [c] _ 1 hx (by simp) (one_cells w0 c) hlen h
theorem step_byte {ops : Array Oper} {o : Oper} {a : Act} {w0 : World} {K : Act → World → Prop} {Q : Exit → Act → World → Prop} {E : Prop} (hgd : o.guard = none) (s x : Operand)
    (ho : o.op = .call { callee := .builtin .append, args := #[s, x], argTypes := #[28, 28] }) {B : Nat} {v : Value} {l : List UInt8} {W0 : World} (hb : Out B v l W0 w0) (hs : a.eval s = v)
    (c : UInt8) (k : Int) (hk : k = c.toNat) (hx : a.eval x = .slice (some ⟨w0.heap.size, 0, none⟩) 1 1) (hlen : l.length + 1 ≤ 1000000000)
    (h : ∀ v' w', Buf B v' (l ++ [c]) W0 w' → K (a.put o.dst v') w') : if Region.wanted o (yielded ops a.tmps) = true then Oper.wp Tryz.prog o a (w0.alloc (.cells #[.int .u8 k] 5)) K Q else E := by
  subst hk
  exact step_app hgd s x ho (hb.kept (gr_alloc (gr_refl _ _) _)) hs [c] _ 1 hx (by simp) (one_cells w0 c) hlen h

/-! ### text -/
theorem wp_text {o : Oper} {a : Act} {w : World} {K : Act → World → Prop} {Q : Exit → Act → World → Prop} (s x : Operand)
    (ho : o.op = .call { callee := .builtin .append, args := #[s, x], argTypes := #[28, 9] }) {B : Nat} {v : Value} {l : List UInt8} {W0 : World} (hb : Buf B v l W0 w) (hs : a.eval s = v)
    (t : List UInt8) (hx : a.eval x = .string ⟨t.toArray⟩) (hlen : l.length + t.length ≤ 1000000000)
    (h : ∀ v' w', Buf B v' (l ++ t) W0 w' → K (a.put o.dst v') w') : o.wp Tryz.prog a w K Q := by
  obtain ⟨i, hi, hz, hsize, hby⟩ := info5P
  obtain ⟨v', w', hr, h2, h3, -⟩ := Lib.run_append_own_stringF (P := Tryz.prog) w B 28 9 o.type 5 i Tryz.underlying28 Tryz.underlying9 hi hz hsize hby v l.length (l.map by8) hb.1 ⟨t.toArray⟩ (by unfold maxLen; simp [ByteArray.size]; omega) (by simp [ByteArray.size]; omega) hb.2.2
  unfold Oper.wp execOp
  simp only [ho, resolve, invoke, builtin, Sem.run_bind, Sem.run_pure, Result.andThen_ok, List.map_toArray, List.map_cons, List.map_nil, hs, hx, hr]
  exact h _ _ (Buf.text t (Lib.OwnBuf.grown hb h2 h3))
theorem wl_text {ops : Array Oper} {rest : List Oper} {o : Oper} {a : Act} {w : World} {Q : Exit → Act → World → Prop} (hgd : o.guard = none) (s x : Operand)
    (ho : o.op = .call { callee := .builtin .append, args := #[s, x], argTypes := #[28, 9] }) {B : Nat} {v : Value} {l : List UInt8} {W0 : World} (hb : Buf B v l W0 w) (hs : a.eval s = v)
    (t : List UInt8) (hx : a.eval x = .string ⟨t.toArray⟩) (hlen : l.length + t.length ≤ 1000000000)
    (h : ∀ v' w', Buf B v' (l ++ t) W0 w' → wpList Tryz.prog ops Q rest (a.put o.dst v') w') : wpList Tryz.prog ops Q (o :: rest) a w :=
  wpList_plain hgd fun _ hK => wp_text s x ho hb hs t hx hlen fun v' w' h2 => hK _ _ (h v' w' h2)
theorem step_text {ops : Array Oper} {o : Oper} {a : Act} {w : World} {K : Act → World → Prop} {Q : Exit → Act → World → Prop} {E : Prop} (hgd : o.guard = none) (s x : Operand)
    (ho : o.op = .call { callee := .builtin .append, args := #[s, x], argTypes := #[28, 9] }) {B : Nat} {v : Value} {l : List UInt8} {W0 : World} (hb : Buf B v l W0 w) (hs : a.eval s = v)
    (t : List UInt8) (hx : a.eval x = .string ⟨t.toArray⟩) (hlen : l.length + t.length ≤ 1000000000)
    (h : ∀ v' w', Buf B v' (l ++ t) W0 w' → K (a.put o.dst v') w') : if Region.wanted o (yielded ops a.tmps) = true then Oper.wp Tryz.prog o a w K Q else E := by
  have hw : Region.wanted o (yielded ops a.tmps) = true := by simp [Region.wanted, hgd]
  rw [if_pos hw]
  exact wp_text s x ho hb hs t hx hlen h
end Go.Proofs.YtlfeolfjlmelpaaGreatDoor
