/- Cuts of slices of bytes, the decoder of UTF-8 and TrimLeft on them, ParseUint of written digits. -/
import Derived.Test.YtlfeolfjlmelpaaGreatDoorPH
import Derived.Test.YtlfeolfjlmelpaaGreatDoorPF
namespace Go.Proofs.YtlfeolfjlmelpaaGreatDoor
open Go.RowKit

theorem elem28 : Tryz.prog.elem 28 = 5 := by simp [Program.elem, Tryz.underlying28]
theorem und28 : Tryz.prog.underlying 28 = some (.slice (Tryz.prog.elem 28)) := by rw [elem28]; exact Tryz.underlying28
theorem addr_addn (b o m : Nat) : (⟨b, o, none⟩ : Addr).add m = ⟨b, o + m, none⟩ := by
  unfold Addr.add
  split <;> simp_all
theorem IsB.drop {w : World} {b o c : Nat} {xs : List UInt8} (h : IsB w (some ⟨b, o, none⟩) c xs) (m : Nat) (hm : m < xs.length) : IsB w (some ⟨b, o + m, none⟩) (c - m) (xs.drop m) := by
  have h1 := h.le
  have h2 := h.cap
  refine ⟨by simp; omega, by omega, fun _ => ?_⟩
  obtain ⟨b', o', cs, fr, e, hb, k⟩ := h.row (by rintro rfl; simp at hm)
  cases e
  refine ⟨b, o + m, cs, fr, rfl, hb, fun i hi => ?_⟩
  rw [List.length_drop] at hi
  rw [Nat.add_assoc, k (m + i) (by omega)]
  simp
/-- s[:m:m]: full. -/
theorem IsB.full {w : World} {b o c : Nat} {xs : List UInt8} (h : IsB w (some ⟨b, o, none⟩) c xs) (m : Nat) (hm : m ≤ xs.length) :
    IsB w (some ⟨b, o, none⟩) m (xs.take m) ∧ ∀ (W : World) (k1 k2 : IntKind), (Instr.slice 28 (.slice (some ⟨b, o, none⟩) xs.length c) none (some (.int k1 (m : Int))) (some (.int k2 (m : Int)))).run Tryz.prog W = .ok (.slice (some ⟨b, o, none⟩) m m) W := by
  have h1 := h.le
  have h2 := h.cap
  refine ⟨⟨by simp; omega, by omega, fun hne => ?_⟩, fun W k1 k2 => ?_⟩
  · obtain ⟨b', o', cs, fr, e, hb, k⟩ := h.row (by rintro rfl; simp at hne)
    cases e
    refine ⟨b, o, cs, fr, rfl, hb, fun i hi => ?_⟩
    simp only [List.length_take] at hi
    rw [k i (by omega)]; simp
  · obtain ⟨i0, hi, hz0, hz1, hz2⟩ := info_parts info5
    rw [run_slice_hm W 28 (some ⟨b, o, none⟩) xs.length c und28 k1 k2 (m : Int) (m : Int) (Int.natCast_nonneg _) (Int.le_refl _) (by omega), elem28]
    simp [sizeOf, typeInfo, hi, hz1, sliced, Result.andThen]
    intro _
    rw [addr_addn, Nat.add_zero]
/-- s[lo:hi]. -/
theorem IsB.mid {w : World} {b o c : Nat} {xs : List UInt8} (h : IsB w (some ⟨b, o, none⟩) c xs) (lo n : Nat) (hn : lo + n ≤ xs.length) :
    ∃ A' c', IsB w A' c' ((xs.drop lo).take n) ∧ ∀ (W : World) (k1 k2 : IntKind), (Instr.slice 28 (.slice (some ⟨b, o, none⟩) xs.length c) (some (.int k1 (lo : Int))) (some (.int k2 ((lo + n : Nat) : Int))) none).run Tryz.prog W = .ok (.slice A' ((xs.drop lo).take n).length c') W := by
  have h1 := h.le
  have h2 := h.cap
  have hl : ((xs.drop lo).take n).length = n := by simp; omega
  refine ⟨some (if c = lo then ⟨b, o, none⟩ else ⟨b, o + lo, none⟩), c - lo, ⟨by rw [hl]; omega, by omega, fun hne => ?_⟩, fun W k1 k2 => ?_⟩
  · have hpos : 0 < n := by
      rcases Nat.eq_zero_or_pos n with h | h
      · subst h; simp at hne
      · exact h
    obtain ⟨b', o', cs, fr, e, hb, k⟩ := h.row (by rintro rfl; simp at hn; omega)
    cases e
    rw [if_neg (by omega)]
    refine ⟨b, o + lo, cs, fr, rfl, hb, fun i hi => ?_⟩
    rw [hl] at hi
    rw [Nat.add_assoc, k (lo + i) (by omega)]
    simp
  · obtain ⟨i0, hi, hz0, hz1, hz2⟩ := info_parts info5
    rw [run_slice_lh W 28 (some ⟨b, o, none⟩) xs.length c und28 k1 k2 (lo : Int) ((lo + n : Nat) : Int) (Int.natCast_nonneg _) (by omega) (by omega), elem28, hl]
    simp [sizeOf, typeInfo, hi, hz1, sliced, Result.andThen, addr_addn]
    split <;> exact ⟨rfl, by omega⟩

theorem get_bang (l : List UInt8) (j : Nat) (h : j < l.length) : (⟨l.toArray⟩ : ByteArray).get! j = l[j] := by
  show l.toArray[j]! = l[j]
  simp [h]
theorem decB_of {w : World} {A : Option Addr} {c : Nat} (l : List UInt8) (hne : l ≠ []) (h : IsB w A c l) (hU : HasU w) :
    Calls Tryz.prog 179 #[.slice A l.length c] w fun e w' => e = .returned (.tuple #[.int .i32 ((Lib.decodeL l).1 : Nat), .int .i64 ((Lib.decodeL l).2 : Nat)]) ∧ w.grownBy w' none := by
  obtain ⟨b, o, rfl, hk⟩ := h.get hne
  refine (Tryz.utf8_DecodeRune ⟨l.toArray⟩ b o c w hU (fun j hj => ?_)).mono ?_
  · have hj2 : j < l.length := hj
    rw [hk j hj2, get_bang l j hj2]
  · rintro e w' ⟨rfl, hb⟩
    have h0 : (⟨l.toArray⟩ : ByteArray).size ≠ 0 := by
      intro h
      exact hne (List.eq_nil_of_length_eq_zero h)
    have hd : Lib.decodeGo ⟨l.toArray⟩ = Lib.decodeL l := by unfold Lib.decodeGo; rw [if_neg h0]; rfl
    rw [hd]
    exact ⟨rfl, below_gr hb⟩

/-- TrimLeft leaves so many fewer. -/
theorem trim_of {w : World} {A : Option Addr} {c : Nat} (l : List UInt8) (h : IsB w A c l) (cs : ByteArray) (hcs : cs.size ≤ 1000) (has : ∀ (j : Nat) b, cs.data.toList[j]? = some b → b.toNat < 128) :
    Calls Tryz.prog 211 #[.slice A l.length c, .string cs] w fun e w' => (∃ A' c', e = .returned (.slice A' (Lib.trimLeftS l cs.data.toList).length c')) ∧ w.grownBy w' none := by
  have hle : (Lib.trimLeftS l cs.data.toList).length ≤ l.length := by
    unfold Lib.trimLeftS
    exact (List.dropWhile_sublist _).length_le
  refine (Tryz.bytes_TrimLeft A l.length c l cs w rfl h.le h.cap (fun h0 => ?_) (by omega) has).mono ?_
  · obtain ⟨b, o, rfl, hk⟩ := h.get (by rintro rfl; simp at h0)
    exact ⟨b, o, rfl, fun i hi => by rw [hk i hi]; simp [hi]⟩
  · rintro e w' ⟨rfl, hb⟩
    refine ⟨?_, below_gr hb⟩
    unfold Lib.leftV
    split
    · rename_i h1
      have h0 : (Lib.trimLeftS l cs.data.toList).length = 0 := by omega
      exact ⟨none, 0, by rw [h0]⟩
    · unfold Lib.fromV
      exact ⟨_, _, by rw [show l.length - (l.length - (Lib.trimLeftS l cs.data.toList).length) = (Lib.trimLeftS l cs.data.toList).length by omega]⟩

set_option maxRecDepth 1000000 in
theorem parseUintB_of {w : World} (s : ByteArray) (base bits : Int) (v mx : Nat) (hv : v ≤ mx) (hC : Calls Tryz.prog 137 #[.string s, .int .i64 base, .int .i64 bits] w (PuEnds w v mx)) :
    Calls Tryz.prog 96 #[.string s, .int .i64 base, .int .i64 bits] w fun e w' => e = .returned (.tuple #[.int .u64 (v : Nat), .nilIface]) ∧ w.grownBy w' none := by
  have HC := Lib.hid hC
  have HV := Lib.hid hv
  clear hC hv
  go_enter Tryz.func96, Tryz.ntmps96
  go_wp2_with fail
  refine HC.out.mono ?_
  rintro e w' ⟨he, hg⟩
  rw [if_pos HV.out] at he
  subst he
  have HG := Lib.hid hg
  clear hg HC HV
  go_wp2
  go_ret2
  exact ⟨rfl, HG.out⟩

theorem dv_hx {d : Nat} (h : d < 16) : dv (hx d) = d := by
  unfold dv
  rw [hx_toNat h]
  split <;> split <;> first | omega | (split <;> omega)
theorem digB_hx {d : Nat} (h : d < 16) : digB 16 (hx d) := by
  refine ⟨?_, by rw [dv_hx h]; exact h⟩
  rw [hx_toNat h]
  split <;> omega
/-- Two written digits. -/
theorem parse2 {w : World} (c : UInt8) : Calls Tryz.prog 96 #[.string ⟨([hx (c.toNat / 16), hx (c.toNat % 16)] : List UInt8).toArray⟩, .int .i64 16, .int .i64 8] w fun e w' => e = .returned (.tuple #[.int .u64 (c.toNat : Nat), .nilIface]) ∧ w.grownBy w' none := by
  have hc := c.toNat_lt
  have hv : val 16 0 [hx (c.toNat / 16), hx (c.toNat % 16)] = c.toNat := by
    simp only [val]
    rw [dv_hx (by omega), dv_hx (by omega)]; omega
  have := pub16_8 (w := w) (hx (c.toNat / 16)) [hx (c.toNat % 16)] (by simp) (by
    intro y hy
    simp only [List.mem_cons, List.not_mem_nil, or_false] at hy
    rcases hy with rfl | rfl <;> exact digB_hx (by omega))
  rw [hv] at this
  exact parseUintB_of _ 16 8 c.toNat 255 (by omega) this
/-- Four written digits, the first two nought. -/
theorem parse4 {w : World} (c : UInt8) : Calls Tryz.prog 96 #[.string ⟨([48, 48, hx (c.toNat / 16), hx (c.toNat % 16)] : List UInt8).toArray⟩, .int .i64 16, .int .i64 32] w fun e w' => e = .returned (.tuple #[.int .u64 (c.toNat : Nat), .nilIface]) ∧ w.grownBy w' none := by
  have hc := c.toNat_lt
  have h48 : dv 48 = 0 := by decide
  have hv : val 16 0 [48, 48, hx (c.toNat / 16), hx (c.toNat % 16)] = c.toNat := by
    simp only [val]
    rw [dv_hx (by omega), dv_hx (by omega), h48]; omega
  have := pub16_32 (w := w) 48 [48, hx (c.toNat / 16), hx (c.toNat % 16)] (by simp) (by
    intro y hy
    simp only [List.mem_cons, List.not_mem_nil, or_false] at hy
    rcases hy with rfl | rfl | rfl | rfl
    · unfold digB dv; decide
    · unfold digB dv; decide
    · exact digB_hx (by omega)
    · exact digB_hx (by omega))
  rw [hv] at this
  exact parseUintB_of _ 16 32 c.toNat 4294967295 (by omega) this

/-! ### text behind a buffer, or behind a full slice -/
theorem run_outText {B : Nat} {v : Value} {l : List UInt8} {W0 w : World} (hb : Out B v l W0 w) (t : List UInt8) (hne : t ≠ []) (ty : TypeId) (hlen : l.length + t.length ≤ 1000000000) :
    ∃ v' w', (Builtin.append_ #[28, 9] ty #[v, .string ⟨t.toArray⟩]).run Tryz.prog w = .ok v' w' ∧ Buf B v' (l ++ t) W0 w' := by
  obtain ⟨i, hi, hz, hsize, hby⟩ := info5P
  have hpos : 0 < t.length := List.length_pos_iff.2 hne
  have hss : (⟨t.toArray⟩ : ByteArray).size = t.length := rfl
  rcases hb with hb | ⟨a, rfl, hB, hbl, hsz⟩
  · obtain ⟨v', w', hr, h2, h3, -⟩ := Lib.run_append_own_stringF (P := Tryz.prog) w B 28 9 ty 5 i Tryz.underlying28 Tryz.underlying9 hi hz hsize hby v l.length (l.map by8) hb.1 ⟨t.toArray⟩ (by unfold maxLen; rw [hss]; omega) (by rw [hss]; omega) hb.2.2
    exact ⟨v', w', hr, Buf.text t (Lib.OwnBuf.grown hb h2 h3)⟩
  · have holds : ∀ j u, (l.map by8)[j]? = some u → w.cell? (a.add j) = some u := by
      intro j u hu
      rw [List.getElem?_map] at hu
      cases hq : l[j]? with
      | none => rw [hq] at hu; simp at hu
      | some y =>
        rw [hq] at hu
        obtain ⟨hj, hy⟩ := List.getElem?_eq_some_iff.1 hq
        obtain ⟨b, o, ha, hk⟩ := hB.get (by rintro rfl; simp at hj)
        cases ha
        have := hk j hj
        rw [hy] at this
        rw [addr_addn, this]; simpa using hu
    have hr := Lib.run_append_grow_string (P := Tryz.prog) w 28 9 ty 5 i (.int .u8 0) Tryz.underlying28 Tryz.underlying9 hi hz a l.length l.length (l.map by8) (by rw [hsize]; simp) holds ⟨t.toArray⟩ (by rw [hss]; omega) (by rw [hss]; omega) (by rw [hby, hss]; exact growslice_fits (by omega) (by omega))
    have hge := grownCap_ge w (l.length + (⟨t.toArray⟩ : ByteArray).size) l.length 5
    have hcm2 : grownCap w (l.length + (⟨t.toArray⟩ : ByteArray).size) l.length 5 ≤ maxLen := grownCap_le_maxLen w _ _ 5 (by unfold maxLen; rw [hss]; omega)
    refine ⟨_, _, hr, Buf.text t ⟨⟨by simp [ByteArray.size, Lib.strCells], .inr ⟨w.heap.size, _, _, (0, 0), rfl, hsz, heap_alloc_new w.drew _, Nat.zero_le _, hge, hcm2, ?_, ?_⟩⟩, ?_, ?_⟩⟩
    · have hz1 : (Value.int IntKind.u8 0).cells.size = 1 := rfl
      have hx2 : (l.map by8).length = l.length := by simp
      simp only [Array.size_append, List.size_toArray, size_zeroCells, hz1, hx2, strCells_list, List.length_map, hss] at hge ⊢
      omega
    · simp only [Array.toList_append, List.append_assoc]
      rw [← List.append_assoc]
      have hx3 : (l.map by8 ++ Lib.strCells ⟨t.toArray⟩).length = (l.length + (⟨t.toArray⟩ : ByteArray).size) * 1 := by rw [strCells_list]; simp [ByteArray.size]
      rw [← hx3]
      exact List.take_left
    · exact hbl.grown (gr_alloc (gr_drew (gr_refl w none)) _) hsz (fun k hk => by cases hk)
    · simp; omega
theorem wl_textO {ops : Array Oper} {rest : List Oper} {o : Oper} {a : Act} {w : World} {Q : Exit → Act → World → Prop} (hgd : o.guard = none) (s x : Operand)
    (ho : o.op = .call { callee := .builtin .append, args := #[s, x], argTypes := #[28, 9] }) {B : Nat} {v : Value} {l : List UInt8} {W0 : World} (hb : Out B v l W0 w) (hs : a.eval s = v)
    (t : List UInt8) (hx : a.eval x = .string ⟨t.toArray⟩) (hne : t ≠ []) (hlen : l.length + t.length ≤ 1000000000)
    (h : ∀ v' w', Buf B v' (l ++ t) W0 w' → wpList Tryz.prog ops Q rest (a.put o.dst v') w') : wpList Tryz.prog ops Q (o :: rest) a w := by
  refine wpList_plain hgd fun K hK => ?_
  obtain ⟨v', w', hr, h2⟩ := run_outText hb t hne o.type hlen
  unfold Oper.wp execOp
  simp only [ho, resolve, invoke, builtin, Sem.run_bind, Sem.run_pure, Result.andThen_ok, List.map_toArray, List.map_cons, List.map_nil, hs, hx, hr]
  exact hK _ _ (h _ _ h2)
end Go.Proofs.YtlfeolfjlmelpaaGreatDoor
