/- LA, LB, LC in one text. -/
import Derived.Test.YtlfeolfjlmelpaaGreatDoorKZ
import Derived.Test.YtlfeolfjlmelpaaGreatDoorKI
import Derived.ArgAppend
import Derived.Lib.SlBytesConst
namespace Go.Proofs.YtlfeolfjlmelpaaGreatDoor
open Go.RowKit

set_option maxHeartbeats 1000000 in
set_option maxRecDepth 1000000 in
theorem tokKind {w : World} (k a n p s0 s : Value) :
    Calls Tryz.prog 29 #[.agg #[k, a, n, p, s0, s]] w fun e w' => e = .returned k ∧ w.grownBy w' none := by
  have hg := gr_alloc (gr_refl w none) (.cells #[k, a, n, p, s0, s] 72 (0, 0))
  have hb := blk_new w (.cells #[k, a, n, p, s0, s] 72 (0, 0))
  have hk0 := blk_cell hb 0
  have HG := Lib.hid hg
  clear hg hb
  go_enter Tryz.func29, Tryz.ntmps29
  go_wp2
  go_ret
  exact ⟨rfl, HG.out⟩

set_option maxHeartbeats 1000000 in
set_option maxRecDepth 1000000 in
theorem tokRaw {w : World} (k a n p s : Value) {A : Option Addr} {c : Nat} {xs : List UInt8} (h : IsB w A c xs) :
    Calls Tryz.prog 31 #[.agg #[k, a, n, p, .slice A xs.length c, s]] w fun e w' => e = .returned (.string ⟨xs.toArray⟩) ∧ w.grownBy w' none := by
  have hg := gr_alloc (gr_refl w none) (.cells #[k, a, n, p, .slice A xs.length c, s] 72 (0, 0))
  have hb := blk_new w (.cells #[k, a, n, p, .slice A xs.length c, s] 72 (0, 0))
  have hk4 := blk_cell hb 4
  have hs := (h.kept0 hg).str
  have HG := Lib.hid hg
  clear hg hb h
  go_enter Tryz.func31, Tryz.ntmps31
  go_wp2
  go_ret
  exact ⟨rfl, HG.out⟩

set_option maxHeartbeats 1000000 in
set_option maxRecDepth 1000000 in
theorem newDecoder {w : World} (A : Option Addr) (n c : Nat) :
    Calls Tryz.prog 27 #[.slice A n c] w fun e w' => e = .returned (.pointer (some ⟨w.heap.size, 0, none⟩)) ∧ HasDec w' w.heap.size (.int .u8 0) (.int .u8 0) (.int .u8 0) (.int .u8 0) (.int .i64 0) (.slice none 0 0) (.string ⟨#[]⟩) .nilIface (.slice none 0 0) (.slice A n c) (.slice A n c) ∧ w.grownBy w' none := by
  have hb := blk_new w (.cells #[.int .u8 0, .int .u8 0, .int .u8 0, .int .u8 0, .int .i64 0, .slice none 0 0, .string ⟨#[]⟩, .nilIface, .slice none 0 0, .slice A n c, .slice A n c] 104 (0, 0))
  have HB := Lib.hid hb
  clear hb
  go_enter Tryz.func27, Tryz.ntmps27
  go_wp2
  go_ret
  exact ⟨rfl, HB.out, gr_alloc (gr_refl _ _) _⟩
end Go.Proofs.YtlfeolfjlmelpaaGreatDoor
namespace Go.Proofs.YtlfeolfjlmelpaaGreatDoor
open Go.RowKit

theorem read_name {w : World} {g : Nat} {ta tn tp tr ts le os : Value} {A B : Option Addr} {c nb cb : Nat} {r : List UInt8}
    (hd : HasDec w g (.int .u8 0) (.int .u8 0) ta tn tp tr ts le os (.slice B nb cb) (.slice A (97 :: 58 :: r).length c)) (h : IsB w A c (97 :: 58 :: r)) (hnb : (97 :: 58 :: r).length ≤ nb) (hb : nb ≤ 9223372036854775807) :
    Calls Tryz.prog 28 #[.pointer (some ⟨g, 0, none⟩)] w fun e w' => ∃ A0 c0, e = .returned (.tuple #[.agg #[.int .u8 2, .int .u8 129, .int .u8 0, .int .i64 ((nb : Int) - (97 :: 58 :: r).length), .slice A0 [(97 : UInt8)].length c0, .string ByteArray.empty], .nilIface]) ∧ IsB w' A0 c0 [97] ∧
      ∃ A' c', IsB w' A' c' (skip r) ∧ HasDec w' g (.int .u8 0) (.int .u8 2) (.int .u8 129) (.int .u8 0) (.int .i64 ((nb : Int) - (97 :: 58 :: r).length)) (.slice A0 [(97 : UInt8)].length c0) (.string ByteArray.empty) le os (.slice B nb cb) (.slice A' (skip r).length c') ∧ w.grownBy w' (some g) :=
  Read_of (kd := 2) hd (by decide) (by decide) (fun w1 hg => parseNext_bof (gr_blk hg hd (by simp)) (h.kept0 hg) hnb hb)

theorem read_end {w : World} {g : Nat} {ta tn tp tr ts le : Value} {A B : Option Addr} {c nb cb : Nat}
    (hd : HasDec w g (.int .u8 0) (.int .u8 3) ta tn tp tr ts le (.slice none 0 0) (.slice B nb cb) (.slice A ([] : List UInt8).length c)) (h : IsB w A c []) (hb : nb ≤ 9223372036854775807) :
    Calls Tryz.prog 28 #[.pointer (some ⟨g, 0, none⟩)] w fun e w' => ∃ A0 c0, e = .returned (.tuple #[.agg #[.int .u8 1, .int .u8 0, .int .u8 0, .int .i64 (nb : Int), .slice A0 ([] : List UInt8).length c0, .string ByteArray.empty], .nilIface]) ∧ IsB w' A0 c0 [] ∧
      ∃ A' c', IsB w' A' c' [] ∧ HasDec w' g (.int .u8 0) (.int .u8 1) (.int .u8 0) (.int .u8 0) (.int .i64 (nb : Int)) (.slice A0 ([] : List UInt8).length c0) (.string ByteArray.empty) le (.slice none 0 0) (.slice B nb cb) (.slice A' ([] : List UInt8).length c') ∧ w.grownBy w' (some g) :=
  Read_of (kd := 1) hd (by decide) (by decide) (fun w1 hg => parseNext_eof (gr_blk hg hd (by simp)) (h.kept0 hg) hb)
theorem read_num {w : World} {g : Nat} {ta tn tp tr ts le os : Value} {A B : Option Addr} {c nb cb : Nat} {x : UInt8} {r : List UInt8} {k : Int} {neg : Bool}
    (hd : HasDec w g (.int .u8 0) (.int .u8 2) ta tn tp tr ts le os (.slice B nb cb) (.slice A (x :: r).length c)) (h : IsB w A c (x :: r)) (hnb : (x :: r).length ≤ nb) (hb : nb ≤ 9223372036854775807) (hk : k ≠ 4)
    (hx : Plain x ∧ x.toNat ≠ 123 ∧ x.toNat ≠ 60 ∧ x.toNat ≠ 91) (hx2 : x.toNat ≠ 34 ∧ x.toNat ≠ 39)
    (hI : ∀ w1 A1 c1, IsB w1 A1 c1 (x :: r) → Calls Tryz.prog 130 #[.slice A1 (x :: r).length c1, .bool true] w1 fun e w' => e = .returned (.int .i64 0) ∧ w1 = w')
    (hP : ∀ w1 A1 c1, IsB w1 A1 c1 (x :: r) → Calls Tryz.prog 131 #[.slice A1 (x :: r).length c1] w1 (NumEnds w1 (x :: r) k neg)) :
    Calls Tryz.prog 28 #[.pointer (some ⟨g, 0, none⟩)] w fun e w' => ∃ A0 c0, e = .returned (.tuple #[.agg #[.int .u8 3, .int .u8 1, .int .u8 (if neg then bits .or .u8 k 128 else k), .int .i64 ((nb : Int) - (x :: r).length), .slice A0 (x :: r).length c0, .string ⟨(x :: r).toArray⟩], .nilIface]) ∧ IsB w' A0 c0 (x :: r) ∧
      ∃ A' c', IsB w' A' c' [] ∧ HasDec w' g (.int .u8 0) (.int .u8 3) (.int .u8 1) (.int .u8 (if neg then bits .or .u8 k 128 else k)) (.int .i64 ((nb : Int) - (x :: r).length)) (.slice A0 (x :: r).length c0) (.string ⟨(x :: r).toArray⟩) le os (.slice B nb cb) (.slice A' ([] : List UInt8).length c') ∧ w.grownBy w' (some g) :=
  Read_of (kd := 3) hd (by decide) (by decide) (fun w1 hg => parseNext_name (gr_blk hg hd (by simp)) (h.kept0 hg) hx (fun w2 A1 c1 hg2 hd2 h2 =>
    parseScalar_of hd2 h2 hx2 (fun w3 hg3 => parseLiteral_no (gr_blk hg3 hd2 (by simp)) (h2.kept0 hg3) (fun w4 h4 => hI w4 A1 c1 h4))
      (fun w3 hg3 => (parseNumberValue_of (gr_blk hg3 hd2 (by simp)) (h2.kept0 hg3) (by simp) hnb hb hk (fun w4 hg4 => hP w4 A1 c1 ((h2.kept0 hg3).kept0 hg4))).mono (by
        rintro e w' ⟨rfl, A', c', h5, h6, h7⟩
        exact ⟨A1, c1, rfl, h2.keptD (gr_trans (gr_weak hg3) h7) hd2 (by decide), A', c', h5, h6, h7⟩))))
end Go.Proofs.YtlfeolfjlmelpaaGreatDoor
namespace Go.Proofs.YtlfeolfjlmelpaaGreatDoor
open Go.RowKit

/-- Nothing told of any type. -/
abbrev Z25 : Obj := .cells #[.bool false, .bool false, .int .i64 0, .bool false, .int .i32 0, .bool false, .int .u64 0, .bool false, .int .u32 0, .bool false, .int .u64 0, .bool false, .int .u64 0, .bool false, .string ⟨#[]⟩, .bool false, .string ⟨#[]⟩, .bool false] 25 (0, 0)

theorem ownsRow_isB {w : World} {base : Nat} {v : Value} {n : Nat} {xs : List UInt8} (h : w.ownsRow base 5 1 v n (xs.map by8)) (hne : xs ≠ []) : ∃ A c, v = .slice A xs.length c ∧ IsB w A c xs := by
  obtain ⟨h1, h2⟩ := h
  have hn : n = xs.length := by simpa using h1.symm
  have hpos : xs.length ≠ 0 := fun h => hne (List.eq_nil_of_length_eq_zero h)
  rcases h2 with ⟨-, h0⟩ | ⟨g, cap, cur, hv, -, hb, hle, hmx, hsz, htk⟩
  · omega
  · subst hn
    refine ⟨_, cap, hv, hle, hmx, fun _ => ⟨g, 0, cur, (0, 0), rfl, hb, fun i hi => ?_⟩⟩
    rw [Nat.zero_add]
    have h3 : (cur.toList.take (xs.length * 1))[i]? = some (by8 xs[i]) := by
      rw [htk, List.getElem?_map, List.getElem?_eq_getElem hi]; rfl
    rw [Nat.mul_one, List.getElem?_take_of_lt hi] at h3
    simpa using h3

/-- What 'values' tells. -/
def ValEnds (w1 : World) (Pv : List Value → Prop) (e : Ending) (w' : World) : Prop := (∃ vs : List Value, e = .returned (.agg vs.toArray) ∧ Pv vs) ∧ w1.grownBy w' none
/-- What TextScalar tells of one scalar. -/
def ScalarEnds (w1 : World) (raw : List UInt8) (Pv : List Value → Prop) (e : Ending) (w' : World) : Prop := (∃ vs : List Value, e = .returned (.tuple #[.agg vs.toArray, .string ⟨raw.toArray⟩, .bool true]) ∧ Pv vs) ∧ w1.grownBy w' none
theorem results_cell_str_bool (t : Array Value) (W2 : World) (R : Nat) (vs : Array Value) (x y : Value) (h : t.getD 2 undef = .pointer (some ⟨R, 0, none⟩)) (hl : (loadVar 25 ⟨R, 0, none⟩).run Tryz.prog W2 = .ok (.agg vs) W2) (hx : t.getD 3 undef = x) (hy : t.getD 4 undef = y) :
    (results Tryz.f9 t).run Tryz.prog W2 = .ok (.tuple #[.agg vs, x, y]) W2 := by
  unfold results
  rw [Tryz.results9]
  generalize hk : loadVar 25 ⟨R, 0, none⟩ = K at hl
  have h2 : (asAddr (t.getD 2 undef)) = pure (⟨R, 0, none⟩ : Addr) := by rw [h]; rfl
  have h3 : (do loadVar 25 (← asAddr (t.getD 2 undef)) : Sem Value) = K := by rw [h2, ← hk]; rfl
  have h4 : (#[ResultVar.cell 2 25, .tmp 3, .tmp 4].mapM (fun x => match x with | .tmp i => pure (t.getD i undef) | .cell a ty => do loadVar ty (← asAddr (t.getD a undef))) : Sem (Array Value)) = (do let v ← K; pure #[v, x, y]) := by
    rw [← h3, ← hx, ← hy]; simp
  erw [h4]
  simp [hl]
theorem there_z25 {W : World} {R : Nat} (h : W.heap[R]? = some Z25) : W.there R 0 18 := by
  intro j hj
  rw [Nat.zero_add]
  refine ⟨?_, blk_frozen h j⟩
  rw [blk_cell h j, Array.getElem?_eq_getElem (by simpa using hj)]
  rfl
theorem there_gr {W W' : World} {R n : Nat} (h : W.there R 0 n) (hg : W.grownBy W' none) : W'.there R 0 n := by
  intro j hj
  obtain ⟨h1, h2⟩ := h j hj
  obtain ⟨v, hv⟩ := Option.isSome_iff_exists.1 h1
  have h3 := gr_cell hg hv
  refine ⟨by rw [h3]; rfl, ?_⟩
  exact ((gr_below hg).frozen (p := ⟨R, 0 + j, none⟩) (World.block_lt_of_cell? W ⟨R, 0 + j, none⟩ hv)).trans h2
theorem rangeAt_gr {W W' : World} {R o : Nat} {cs : List Value} (h : W.rangeAt R o cs) (hg : W.grownBy W' none) : W'.rangeAt R o cs := fun j v hv => gr_cell hg (h j v hv)
theorem rangeAt_blk {W : World} {T : Nat} {l : List Value} {t : TypeId} (h : W.heap[T]? = some (.cells l.toArray t (0, 0))) : W.rangeAt T 0 l := fun j v hv => by
  rw [Nat.zero_add, blk_cell h j]; simpa using hv

set_option maxHeartbeats 4000000 in
set_option maxRecDepth 1000000 in
theorem textScalar_num {w : World} {A : Option Addr} {c : Nat} {x : UInt8} {r : List UInt8} {k : Int} {neg : Bool} (h : IsB w A c (x :: r)) (hl : (x :: r).length ≤ 4096) (hk : k ≠ 4)
    (hx : Plain x ∧ x.toNat ≠ 123 ∧ x.toNat ≠ 60 ∧ x.toNat ≠ 91) (hx2 : x.toNat ≠ 34 ∧ x.toNat ≠ 39)
    (hI : ∀ w1 A1 c1, IsB w1 A1 c1 (x :: r) → Calls Tryz.prog 130 #[.slice A1 (x :: r).length c1, .bool true] w1 fun e w' => e = .returned (.int .i64 0) ∧ w1 = w')
    (hP : ∀ w1 A1 c1, IsB w1 A1 c1 (x :: r) → Calls Tryz.prog 131 #[.slice A1 (x :: r).length c1] w1 (NumEnds w1 (x :: r) k neg))
    (Pv : List Value → Prop) (hPv : ∀ vs, Pv vs → vs.length = 18 ∧ ∀ v ∈ vs, v.oneCell' = true)
    (hV : ∀ w1 p s0, w.grownBy w1 none → Calls Tryz.prog 30 #[.agg #[.int .u8 3, .int .u8 1, .int .u8 (if neg then bits .or .u8 k 128 else k), p, s0, .string ⟨(x :: r).toArray⟩]] w1 (ValEnds w1 Pv)) :
    Calls Tryz.prog 9 #[.slice A (x :: r).length c] w (ScalarEnds w (x :: r) Pv) := by
  have H := Lib.hid h
  have HI := Lib.hid hI
  have HP := Lib.hid hP
  have HK := Lib.hid hk
  have HX := Lib.hid hx
  have HX2 := Lib.hid hx2
  have HPV := Lib.hid hPv
  have HV := Lib.hid hV
  clear hI hP hk hx hx2 hPv hV
  obtain ⟨b, o, rfl, hcell⟩ := h.get (by simp)
  obtain ⟨i0, hi, hz0, hz1, hz2⟩ : ∃ i, Tryz.prog.info? 5 = some i ∧ i.zero = some (.int .u8 0) ∧ i.size = 1 ∧ i.bytes = 1 := by
    have h5 := info5
    cases hq : Tryz.prog.info? 5 with
    | none => rw [hq] at h5; simp at h5
    | some i => rw [hq] at h5; simp at h5; exact ⟨i, rfl, h5⟩
  have HC := Lib.hid hcell
  have HL := Lib.hid hl
  have hcv := Lib.run_convert_bytes_const (P := Tryz.prog) (w.alloc Z25) 28 5 #[.int .u8 97, .int .u8 58, .int .u8 32] 3 3 Tryz.underlying28 Tryz.underlying5
  rw [World.size_alloc] at hcv
  have hbn := blk_new (w.alloc Z25) (.cells #[.int .u8 97, .int .u8 58, .int .u8 32] 5 (3, 4))
  rw [World.size_alloc] at hbn
  have HBN := Lib.hid hbn
  clear hbn
  have hlen : r.length + 1 ≤ 4096 := by simpa using hl
  clear h hcell hl
  go_enter Tryz.func9, Tryz.ntmps9
  go_wp2_with (first
    | (at_builtin; refine wpList_append_grows _ rfl (.tmp 11) (.tmp 12) 28 rfl 5 i0 (.int .u8 0) 1 1 Tryz.underlying28 hi hz0 hz1 hz2 rfl (by decide) (some ⟨w.heap.size + 1, 0, none⟩) 3 3 [.int .u8 97, .int .u8 58, .int .u8 32] rfl (by simp) rfl ?c1 ⟨b, o, none⟩ (r.length + 1) c ((x :: r).map by8) rfl (by simp) ?c2 ?c3 (by omega) (by unfold maxLen; omega) (by omega) ?grow)
    | fail)
  case c1 =>
    intro b' hb' j u hj
    cases hb'
    match j, hj with
    | 0, hj => simp at hj; subst hj; rw [Addr.add_mid]; exact blk_cell HBN.out 0
    | 1, hj => simp at hj; subst hj; rw [Addr.add_mid]; exact blk_cell HBN.out 1
    | 2, hj => simp at hj; subst hj; rw [Addr.add_mid]; exact blk_cell HBN.out 2
  case c2 =>
    intro j u hj
    rw [List.getElem?_map] at hj
    obtain ⟨hj2, hj3⟩ : ∃ h : j < (x :: r).length, by8 (x :: r)[j] = u := by
      cases hq : (x :: r)[j]? with
      | none => rw [hq] at hj; simp at hj
      | some y =>
        rw [hq] at hj
        obtain ⟨h1, h2⟩ := List.getElem?_eq_some_iff.1 hq
        exact ⟨h1, by rw [h2]; simpa using hj⟩
    have h4 := HC.out j hj2
    rw [hj3] at h4
    rw [Addr.add_mid]
    exact gr_cell (gr_alloc (gr_alloc (gr_refl _ _) _) _) h4
  case c3 =>
    intro u hu
    simp only [List.mem_map] at hu
    obtain ⟨y, -, rfl⟩ := hu
    rfl
  case grow =>
    intro v' W hown hgrow
    have hz : w.grownBy ((w.alloc Z25).alloc (.cells #[.int .u8 97, .int .u8 58, .int .u8 32] 5 (3, 4))) none := gr_alloc (gr_alloc (gr_refl _ _) _) _
    have hR : W.heap[w.heap.size]? = some Z25 := gr_blk hgrow (blk_alloc (blk_new w Z25) _) (by simp)
    have HG := gr_trans hz hgrow
    obtain ⟨A', c', rfl, hB⟩ := ownsRow_isB (xs := 97 :: 58 :: 32 :: x :: r) hown (by simp)
    clear hown hgrow hz HBN hcv hi hz0 hz1 hz2 HC
    have hBH := Lib.hid hB
    have hRH := Lib.hid hR
    have hGH := Lib.hid HG
    clear hB hR HG
    go_wp2_with fail
    refine (newDecoder _ _ _).mono ?_
    rintro e W1 ⟨rfl, hd, hg⟩
    have hB := hBH.out.kept0 hg
    have hR := gr_blk hg hRH.out (by simp)
    have HG := gr_trans hGH.out hg
    have hge : w.heap.size ≤ W.heap.size := hGH.out.size
    have hlt : w.heap.size < W.heap.size := blk_lt hRH.out
    generalize W.heap.size = G at hd hge hlt ⊢
    clear hBH hRH hGH hg
    have hd0 := Lib.hid hd
    have hB0 := Lib.hid hB
    have hR0 := Lib.hid hR
    have hG0 := Lib.hid HG
    clear hd hB hR HG
    go_wp2_with fail
    refine (read_name hd0.out hB0.out (Nat.le_refl _) (by simp; omega)).mono ?_
    rintro e W2 ⟨A2, c2, rfl, hN2, A3, c3, hB, hd, hg⟩
    have HG := gr_new hG0.out hg (by rintro g' hg'; cases hg'; exact .inl hge)
    have hR := gr_blk hg hR0.out (by simp; omega)
    have hG2 : G < W2.heap.size := blk_lt hd
    clear hd0 hB0 hR0 hG0 hg hN2
    have hd0 := Lib.hid hd
    have hB0 := Lib.hid hB
    have hR0 := Lib.hid hR
    have hG0 := Lib.hid HG
    clear hd hB hR HG
    go_wp2_with fail
    have hsk : skip (32 :: x :: r) = x :: r := by
      show skip (x :: r) = x :: r
      exact skip_plain HX.out.1
    have hz := gr_alloc (gr_refl W2 none) (.cells #[.int .u8 2, .int .u8 129, .int .u8 0, .int .i64 0, .slice A2 1 c2, .string ByteArray.empty] 72 (0, 0))
    have hd := gr_blk hz hd0.out (by simp)
    have hB := hB0.out.kept0 hz
    rw [hsk] at hd hB
    have hR := gr_blk hz hR0.out (by simp)
    have HG := gr_trans hG0.out hz
    have hlt2 : w.heap.size < W2.heap.size := blk_lt hR0.out
    generalize W2.alloc (.cells #[.int .u8 2, .int .u8 129, .int .u8 0, .int .i64 0, .slice A2 1 c2, .string ByteArray.empty] 72 (0, 0)) = W3 at hd hB hR HG ⊢
    clear hd0 hB0 hR0 hG0 hz hsk
    refine (read_num hd hB (by simp) (by simp; omega) HK.out HX.out HX2.out HI.out HP.out).mono ?_
    rintro e W4 ⟨A4, c4, rfl, hraw, A5, c5, hB4, hd4, hg⟩
    have hV := HV.out
    clear HV
    generalize hNA : (if neg then bits .or .u8 k 128 else k) = NA at hd4 hV ⊢
    have HV := Lib.hid hV
    clear hNA hV
    generalize (((97 :: 58 :: 32 :: x :: r).length : Int) - ((x :: r).length : Int)) = POS at hd4 ⊢
    have HG4 := gr_new HG hg (by rintro g' hg'; cases hg'; exact .inl hge)
    have hR4 := gr_blk hg hR (by simp; omega)
    have hd0 := Lib.hid hd4
    have hB0 := Lib.hid hB4
    have hR0 := Lib.hid hR4
    have hG0 := Lib.hid HG4
    have hW0 := Lib.hid hraw
    clear hd hB hR HG hg hd4 hB4 hR4 HG4 hraw
    go_wp2_with fail
    have hz := gr_alloc (gr_refl W4 none) (.cells #[.int .u8 3, .int .u8 1, .int .u8 NA, .int .i64 POS, .slice A4 (r.length + 1) c4, .string ⟨(x :: r).toArray⟩] 72 (0, 0))
    have hT := blk_new W4 (.cells #[.int .u8 3, .int .u8 1, .int .u8 NA, .int .i64 POS, .slice A4 (r.length + 1) c4, .string ⟨(x :: r).toArray⟩] 72 (0, 0))
    have hd := gr_blk hz hd0.out (by simp)
    have hB := hB0.out.kept0 hz
    have hR := gr_blk hz hR0.out (by simp)
    have hW := hW0.out.kept0 hz
    have HG := gr_trans hG0.out hz
    have hTG : G < W4.heap.size := blk_lt hd0.out
    generalize W4.alloc (.cells #[.int .u8 3, .int .u8 1, .int .u8 NA, .int .i64 POS, .slice A4 (r.length + 1) c4, .string ⟨(x :: r).toArray⟩] 72 (0, 0)) = W5 at hd hB hR HG hT hW ⊢
    generalize W4.heap.size = T at hT hTG ⊢
    clear hd0 hB0 hR0 hG0 hW0 hz
    refine (tokKind _ _ _ _ _ _).mono ?_
    rintro e W6 ⟨rfl, hg⟩
    have hd0 := Lib.hid (gr_blk hg hd (by simp))
    have hB0 := Lib.hid (hB.kept0 hg)
    have hR0 := Lib.hid (gr_blk hg hR (by simp))
    have hG0 := Lib.hid (gr_trans HG hg)
    have hW0 := Lib.hid (hW.kept0 hg)
    have hT0 := Lib.hid (gr_blk hg hT (by simp))
    clear hd hB hR HG hg hW hT
    go_wp2_with fail
    refine (read_end hd0.out hB0.out (by simp; omega)).mono ?_
    rintro e W7 ⟨A6, c6, rfl, -, A7, c7, -, hd4, hg⟩
    have hG1 := Lib.hid (gr_new hG0.out hg (by rintro g' hg'; cases hg'; exact .inl hge))
    have hR1 := Lib.hid (gr_blk hg hR0.out (by simp; omega))
    have hT1 := Lib.hid (gr_blk hg hT0.out (by simp; omega))
    have hW1 := Lib.hid (hW0.out.keptD hg hd0.out (by decide))
    have hlt7 : T < W7.heap.size := blk_lt hT1.out
    clear hg hd4 hd0 hB0 hR0 hG0 hT0 hW0
    go_wp2_with fail
    refine (tokKind _ _ _ _ _ _).mono ?_
    rintro e W8 ⟨rfl, hg8⟩
    have hz8 := gr_trans (gr_alloc (gr_refl W7 none) _) hg8
    have hG2 := Lib.hid (gr_trans hG1.out hz8)
    have hR2 := Lib.hid (gr_blk hz8 hR1.out (by simp))
    have hT2 := Lib.hid (gr_blk hz8 hT1.out (by simp))
    have hW2 := Lib.hid (hW1.out.kept0 hz8)
    have hlt9 : w.heap.size < W7.heap.size := blk_lt hR1.out
    clear hg8 hz8 hG1 hR1 hT1 hW1
    go_wp2_with fail
    have hgd := gr_drew (gr_refl W8 none)
    refine wp_region_held_drew (S := fun w' => w'.rangeAt T 0 [.int .u8 3, .int .u8 1, .int .u8 NA, .int .i64 POS, .slice A4 (r.length + 1) c4, .string ⟨(x :: r).toArray⟩]) (by kernel_rfl) (rangeAt_gr (rangeAt_blk hT2.out) hgd) (fun hHeld => ?_)
    have hS2 := there_gr (there_z25 hR2.out) hgd
    have hS3 := gr_trans hG2.out hgd
    have hS4 := hW2.out.kept0 hgd
    clear hgd
    have H2 := Lib.hid hS2
    have H3 := Lib.hid hS3
    have H4 := Lib.hid hS4
    clear hS2 hS3 hS4
    refine wpAnyH_take (i := 0) rfl (by kernel_rfl) (by kernel_rfl) (by kernel_rfl) (fun _ _ _ h => h) (yieldsIf_load_mid (by rfl) 72 (.tmp 8) rfl T 0 rfl _ _ (fun w' hS => hS) Tryz.underlying72 rfl (by kernel_rfl)) hHeld ?_

    refine wpAnyH_take (i := 2) rfl (by kernel_rfl) (by kernel_rfl) (by kernel_rfl) (fun _ _ _ h => h) (yieldsIf_load_mid (by rfl) 72 (.tmp 8) rfl T 0 rfl _ _ (fun w' hS => hS) Tryz.underlying72 rfl (by kernel_rfl)) hHeld ?_

    refine wpAnyH_ready (rs := [1]) (by kernel_rfl) (by simp) ?_
    refine AllReadyH.cons (o := _) rfl (fun K hK => ?_) AllReadyH.nil
    have H1 := Lib.hid hHeld
    clear hHeld
    go_simp
    refine (HV.out _ _ _ H3.out).mono ?_
    rintro e W9 ⟨⟨vs, rfl, hpv⟩, hg⟩
    obtain ⟨hvl, hv1⟩ := HPV.out vs hpv
    have HP1 := Lib.hid hpv
    have HL1 := Lib.hid hvl
    have HO1 := Lib.hid hv1
    have K1 := Lib.hid (rangeAt_gr H1.out hg)
    have K2 := Lib.hid (there_gr H2.out hg)
    have K3 := Lib.hid (gr_trans H3.out hg)
    have K4 := Lib.hid (H4.out.kept0 hg)
    clear hpv hvl hv1 hg H1 H2 H3 H4
    go_wp2_with fail
    refine hK.out _ _ K1.out (fun hHeld => ?_)
    clear hHeld hK
    refine wpAnyH_ready (rs := [3]) (by kernel_rfl) (by simp) ?_
    refine AllReadyH.cons (o := _) rfl (fun K hK => ?_) AllReadyH.nil
    go_simp
    refine (tokRaw _ _ _ _ _ K4.out).mono ?_
    rintro e W10 ⟨rfl, hg⟩
    have H1 := Lib.hid (rangeAt_gr K1.out hg)
    have H2 := Lib.hid (there_gr K2.out hg)
    have H3 := Lib.hid (gr_trans K3.out hg)
    have H4 := Lib.hid (K4.out.kept0 hg)
    clear hg K1 K2 K3 K4
    go_wp2_with fail
    refine hK.out _ _ H1.out (fun hHeld => ?_)
    clear hHeld hK
    refine wpAnyH_ready (rs := [4]) (by kernel_rfl) (by simp) ?_
    refine AllReadyH.cons (o := _) rfl (fun K hK => ?_) AllReadyH.nil
    rw [if_pos (by rfl)]
    have hsz : vs.toArray.size = 18 := by simp [HL1.out]
    have hi18 : (Tryz.prog.info? 25).map (·.size) = some vs.toArray.size := by rw [hsz]; kernel_rfl
    refine wp_store_mid 25 (.tmp 2) (.tmp 50) rfl w.heap.size 0 vs.toArray rfl rfl (by rw [hsz]; exact H2.out) hi18 (all_oneCell_toArray HO1.out) ?_
    have hth : W10.there w.heap.size 0 vs.length := by rw [HL1.out]; exact H2.out
    have hra := World.rangeAt_setCells_same W10 w.heap.size 0 vs hth
    have hgs : w.grownBy (W10.setCells w.heap.size 0 vs) none := gr_setCells (.inl (Nat.le_refl _)) _ _ H3.out
    have hgT : (W10.setCells w.heap.size 0 vs).rangeAt T 0 [.int .u8 3, .int .u8 1, .int .u8 NA, .int .i64 POS, .slice A4 (r.length + 1) c4, .string ⟨(x :: r).toArray⟩] := World.rangeAt_setCells_apart H1.out _ _ _ (.inl (by omega))
    have hsel : ∀ U : World, U.rangeAt w.heap.size 0 vs → (loadVar 25 ⟨w.heap.size, 0, none⟩).run Tryz.prog U = .ok (.agg vs.toArray) U := fun U hU => run_loadVar_mid (P := Tryz.prog) U w.heap.size 0 25 vs _ hU Tryz.underlying25 rfl (by rw [HL1.out]; kernel_rfl)
    refine hK.out _ _ hgT (fun hHeld => ?_)
    have HRA := Lib.hid hra
    have HGS := Lib.hid hgs
    have HSEL := Lib.hid hsel
    clear hth hra hgs hgT hsz hi18 H1 H2 H3 H4 hK hsel
    generalize W10.setCells w.heap.size 0 vs = W11 at hHeld HRA HGS ⊢
    refine wpAnyH_ready (rs := [5]) (by kernel_rfl) (by simp) ?_
    refine AllReadyH.cons (o := _) rfl (fun K hK => ?_) AllReadyH.nil
    go_simp
    refine hK.out _ _ hHeld (fun _ => ?_)
    clear hK
    refine wpAnyH_ready (rs := [6]) (by kernel_rfl) (by simp) ?_
    refine AllReadyH.cons (o := _) rfl (fun K hK => ?_) AllReadyH.nil
    go_simp
    refine hK.out _ _ hHeld (fun _ => ?_)
    clear hK hHeld
    refine wpAnyH_done (by kernel_rfl) ?_ _
    go_wp2
    refine bodyPost_ret (v := .tuple #[.agg vs.toArray, .string ⟨(x :: r).toArray⟩, .bool true]) ?_ rfl ⟨⟨vs, rfl, HP1.out⟩, HGS.out⟩
    exact results_cell_str_bool _ _ _ _ _ _ rfl (HSEL.out _ HRA.out) rfl rfl
end Go.Proofs.YtlfeolfjlmelpaaGreatDoor
