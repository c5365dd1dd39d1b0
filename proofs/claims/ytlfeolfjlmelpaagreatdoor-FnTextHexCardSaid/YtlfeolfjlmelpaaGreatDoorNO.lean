/- NN, NO in one text. -/
import Derived.Test.YtlfeolfjlmelpaaGreatDoorNM
namespace Go.Proofs.YtlfeolfjlmelpaaGreatDoor
open Go.RowKit
theorem all_zero (A : Array Value) (h : (List.range 800).all (fun i => match A[i]? with | some (.int .u8 0) => true | _ => false) = true) : ∀ i, i < 800 → A[i]? = some (.int .u8 0) := by
  intro i hi
  have h2 := List.all_eq_true.1 h i (List.mem_range.2 hi)
  revert h2
  split
  · intro _; assumption
  · intro h; cases h
theorem zc_digit : ∀ i, i < 800 → Tryz.zeroCells310[i]? = some (.int .u8 0) := all_zero _ (by kernel_rfl)
theorem extract_l (l : List UInt8) : (⟨l.toArray⟩ : ByteArray).extract 0 l.length = ⟨l.toArray⟩ := by
  show (⟨l.toArray⟩ : ByteArray).extract 0 (⟨l.toArray⟩ : ByteArray).size = ⟨l.toArray⟩
  exact ByteArray.extract_zero_size
theorem isD_new (w : World) : IsD (w.alloc (.cells Tryz.zeroCells310 310)) w.heap.size (fun _ => 0) 0 0 false false := by
  have hb := blk_new w (.cells Tryz.zeroCells310 310)
  have hc := blk_cell hb
  exact ⟨⟨_, hb⟩, fun i hi => (hc i).trans (zc_digit i hi), (hc 800).trans (by kernel_rfl), (hc 801).trans (by kernel_rfl), (hc 802).trans (by kernel_rfl), (hc 803).trans (by kernel_rfl)⟩

end Go.Proofs.YtlfeolfjlmelpaaGreatDoor
namespace Go.Proofs.YtlfeolfjlmelpaaGreatDoor
open Go.RowKit

/-- What the float readers hand back: some number, how far they read, and an error of the inner package or none. -/
def AfEnds (w : World) (e : Ending) (w' : World) : Prop :=
  ∃ f n err, e = .returned (.tuple #[.float .f64 f, .int .i64 n, err]) ∧ (err = .nilIface ∨ err = .iface 245 (.int .i64 1) ∨ err = .iface 245 (.int .i64 2)) ∧ w.grownBy w' none

set_option maxHeartbeats 4000000 in
set_option maxRecDepth 1000000 in
theorem atof64_cut {w : World} (l : List UInt8) (cs : Nat → Nat) (hcs : ∀ i (h : i < l.length), l[i].toNat = cs i) (hdig : Digs cs l.length) (hl : l.length ≤ 310) (zc : Nat) (hz : zc < l.length) (hzz : ∀ i, i < zc → cs i = 48) (hnz : 49 ≤ cs zc)
    (d p : Nat) (hd1 : 4503599627370496 ≤ d) (hd2 : d ≤ 9999999999999999999) (hp : p ≤ 22) (hF : HasF w) (hT : ∀ g, w.heap.size ≤ g → HasT w g)
    (hS : Calls Tryz.prog 241 #[.string ⟨l.toArray⟩] w fun e w' => e = .returned (.tuple #[.float .f64 0, .int .i64 0, .bool false]) ∧ w' = w)
    (hR : Calls Tryz.prog 242 #[.string ⟨l.toArray⟩] w fun e w' => e = .returned (.tuple #[.int .u64 d, .int .i64 p, .bool false, .bool true, .bool false, .int .i64 (l.length : Nat), .bool true]) ∧ w' = w) :
    Calls Tryz.prog 220 #[.string ⟨l.toArray⟩] w (AfEnds w) := by
  have hrun : ∀ n w, (Extern.MathFloatBits.float64frombits #[.int .u64 n]).run Tryz.prog w = .ok (.float .f64 n.toNat) w := fun _ _ => rfl
  obtain ⟨hP, h13, h12⟩ := hF
  have HS := Lib.hid hS
  have HR := Lib.hid hR
  have HPF := Lib.hid (fun sg => @parseFloat64_any w d p sg (by omega) (by omega) hp hP)
  have HPG := Lib.hid (fun sg W hg => @parseFloat64_any W (d + 1) p sg (by omega) (by omega) hp (hP.kept hg))
  have HG := Lib.hid (gr_refl w none)
  have HRun := Lib.hid hrun
  have hsz : (⟨l.toArray⟩ : ByteArray).size = l.length := rfl
  have h01 : ((d : Int) == 0) = false := beq_eq_false_iff_ne.2 (by omega)
  have HC := Lib.hid hcs
  have HD := Lib.hid hdig
  have HZ := Lib.hid hzz
  have HT := Lib.hid hT
  clear hT
  clear hS hR hP h13 hrun hcs hdig hzz
  go_enter Tryz.func220, Tryz.ntmps220
  go_wp2_with fail
  refine HS.out.mono ?_
  rintro e w' ⟨rfl, rfl⟩
  go_wp2_with fail
  refine HR.out.mono ?_
  rintro e w' ⟨rfl, rfl⟩
  go_wp2_with fail
  refine (bool2u _ _).mono ?_
  rintro e w' ⟨rfl, rfl⟩
  go_wp2_with fail
  refine (HPF.out _).mono ?_
  rintro e w' ⟨f1, rfl, hg⟩
  have HG1 := Lib.hid hg
  clear hg
  go_wp2_with fail
  refine (HPG.out _ _ HG1.out).mono ?_
  rintro e w2 ⟨f2, rfl, hg⟩
  have HG2 := Lib.hid (gr_trans HG1.out hg)
  clear hg
  go_wp2_with fail
  · go_ret3
    exact ⟨_, _, _, rfl, .inl rfl, HG2.out⟩
  · rw [extract_l]
    have hg0 := gr_alloc HG2.out (.cells Tryz.zeroCells310 310)
    have hN := isD_new w2
    have hge := HG2.out.size
    refine (set_of hN l cs HC.out HD.out (by omega) zc hz HZ.out hnz).mono ?_
    generalize hW0 : w2.alloc (.cells Tryz.zeroCells310 310) = W0 at *
    generalize w2.heap.size = g at *
    rintro e w3 ⟨rfl, es, nd, tr, hI, n1, n2, n5, n3, n4, hg3⟩
    have HI := Lib.hid hI
    have hT3 := (((HT.out g hge).kept (gr_weak hg0)).kept hg3)
    have HG3 := Lib.hid (gr_new hg0 hg3 (by rintro g' hg'; cases hg'; exact .inl hge))
    have HT3 := Lib.hid hT3
    have HD3 := Lib.hid n3
    clear hI hg3 hT3 n3 hg0 hN hW0
    go_wp2_with fail
    refine (floatBits_of HI.out HT3.out n2 n1 HD3.out n4 (by omega) (by omega)).mono ?_
    rintro e w4 ⟨⟨bits, ovf, rfl⟩, hg4⟩
    have HG4 := Lib.hid (gr_new HG3.out hg4 (by rintro g' hg'; cases hg'; exact .inl hge))
    clear hg4
    go_wp2_with fail
    rw [run_callFunc_extern Tryz.func251 (by kernel_rfl) (by kernel_rfl) (by kernel_rfl) (e := Extern.MathFloatBits.float64frombits) (by kernel_rfl)]
    rw [HRun.out]
    simp only [Result.andThen]
    rw [Oper.upon_value]
    cases ovf
    · go_wp2
      go_ret3
      exact ⟨_, _, _, rfl, .inl rfl, HG4.out⟩
    · go_wp2
      go_ret3
      exact ⟨_, _, _, rfl, .inr (.inl rfl), HG4.out⟩
end Go.Proofs.YtlfeolfjlmelpaaGreatDoor
