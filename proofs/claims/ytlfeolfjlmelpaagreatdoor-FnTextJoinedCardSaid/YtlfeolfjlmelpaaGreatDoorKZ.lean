/- impl.values at a token. -/
import Derived.Test.YtlfeolfjlmelpaaGreatDoorKY
import Derived.Test.YtlfeolfjlmelpaaGreatDoorKP
import Derived.Deep.CutRange
import Derived.Deep.MidRow
namespace Go.Proofs.YtlfeolfjlmelpaaGreatDoor
open Go.RowKit
theorem gr_setCells {a : World} {r : Option Nat} {g : Nat} (hp : a.heap.size ≤ g ∨ r = some g) : ∀ (vs : List Value) (o : Nat) {b : World}, a.grownBy b r → a.grownBy (b.setCells g o vs) r
  | [], _, _, h => h
  | v :: vs, o, _, h => gr_setCells hp vs (o + 1) (gr_set (p := ⟨g, o, none⟩) h hp v)
theorem results_cell18 (t : Array Value) (W2 : World) (R : Nat) (vs : Array Value) (h : t.getD 2 undef = .pointer (some ⟨R, 0, none⟩)) (hl : (loadVar 25 ⟨R, 0, none⟩).run Tryz.prog W2 = .ok (.agg vs) W2) :
    (results Tryz.f30 t).run Tryz.prog W2 = .ok (.agg vs) W2 := by
  unfold results
  rw [Tryz.results30]
  generalize hk : loadVar 25 ⟨R, 0, none⟩ = K at hl
  have h2 : (asAddr (t.getD 2 undef)) = pure (⟨R, 0, none⟩ : Addr) := by rw [h]; rfl
  have h3 : (do loadVar 25 (← asAddr (t.getD 2 undef)) : Sem Value) = K := by rw [h2, ← hk]; rfl
  have h4 : (#[ResultVar.cell 2 25].mapM (fun x => match x with | .tmp i => pure (t.getD i undef) | .cell a ty => do loadVar ty (← asAddr (t.getD a undef))) : Sem (Array Value)) = (do let v ← K; pure #[v]) := by
    rw [← h3]; simp
  erw [h4]
  simp [hl]
theorem conv64 (f : Nat) (w : World) : ∃ g w2, (convert 120 116 (.float .f32 f)).run Tryz.prog w = .ok (.float .f64 g) w2 ∧ w.grownBy w2 none := by
  have h1 : (convert 120 116 (.float .f32 f)).run Tryz.prog w = (Conv.floatToFloat .f32 f .f64).run Tryz.prog w := by
    simp [convert, run_underlying Tryz.underlying116, run_underlying Tryz.underlying120]
  have hch : ∀ q : Question, ∃ g w2, (choose q >>= fun x => pure (Value.float .f64 x) : Sem Value).run Tryz.prog w = .ok (.float .f64 g) w2 ∧ w.grownBy w2 none := by
    intro q
    by_cases hq : q.forced = true
    · exact ⟨0, w, by simp [hq], gr_refl w none⟩
    · exact ⟨q.cut (w.tape w.drawn q), w.drew, by simp [hq], gr_drew (gr_refl w none)⟩
  rw [h1]
  unfold Conv.floatToFloat
  rw [if_neg (by decide)]
  split
  · exact hch (.nanConv .f64 f)
  · exact ⟨_, w, rfl, gr_refl w none⟩
  · dsimp only
    split
    · exact hch (.floatToFloat f)
    · exact ⟨_, w, rfl, gr_refl w none⟩

set_option maxHeartbeats 4000000 in
set_option maxRecDepth 1000000 in
theorem values_of {w : World} (k a n p s0 s : Value) (P50 P51 P52 P53 : Int → Bool → Prop) (P57 P58 : ByteArray → Bool → Prop)
    (c49 : ∀ w1, w.grownBy w1 none → Calls Tryz.prog 49 #[.agg #[k, a, n, p, s0, s]] w1 fun e w' => ∃ (x : Bool) (y : Bool), e = .returned (.tuple #[.bool x, .bool y]) ∧ w1.grownBy w' none)
    (c50 : ∀ w1, w.grownBy w1 none → Calls Tryz.prog 50 #[.agg #[k, a, n, p, s0, s]] w1 fun e w' => ∃ (x : Int) (y : Bool), e = .returned (.tuple #[.int .i64 x, .bool y]) ∧ P50 x y ∧ w1.grownBy w' none)
    (c51 : ∀ w1, w.grownBy w1 none → Calls Tryz.prog 51 #[.agg #[k, a, n, p, s0, s]] w1 fun e w' => ∃ (x : Int) (y : Bool), e = .returned (.tuple #[.int .i32 x, .bool y]) ∧ P51 x y ∧ w1.grownBy w' none)
    (c52 : ∀ w1, w.grownBy w1 none → Calls Tryz.prog 52 #[.agg #[k, a, n, p, s0, s]] w1 fun e w' => ∃ (x : Int) (y : Bool), e = .returned (.tuple #[.int .u64 x, .bool y]) ∧ P52 x y ∧ w1.grownBy w' none)
    (c53 : ∀ w1, w.grownBy w1 none → Calls Tryz.prog 53 #[.agg #[k, a, n, p, s0, s]] w1 fun e w' => ∃ (x : Int) (y : Bool), e = .returned (.tuple #[.int .u32 x, .bool y]) ∧ P53 x y ∧ w1.grownBy w' none)
    (c54 : ∀ w1, w.grownBy w1 none → Calls Tryz.prog 54 #[.agg #[k, a, n, p, s0, s]] w1 fun e w' => ∃ (x : Nat) (y : Bool), e = .returned (.tuple #[.float .f64 x, .bool y]) ∧ w1.grownBy w' none)
    (c56 : ∀ w1, w.grownBy w1 none → Calls Tryz.prog 56 #[.agg #[k, a, n, p, s0, s]] w1 fun e w' => ∃ (x : Nat) (y : Bool), e = .returned (.tuple #[.float .f32 x, .bool y]) ∧ w1.grownBy w' none)
    (c57 : ∀ w1, w.grownBy w1 none → Calls Tryz.prog 57 #[.agg #[k, a, n, p, s0, s]] w1 fun e w' => ∃ (x : ByteArray) (y : Bool), e = .returned (.tuple #[.string x, .bool y]) ∧ P57 x y ∧ w1.grownBy w' none)
    (c58 : ∀ w1, w.grownBy w1 none → Calls Tryz.prog 58 #[.agg #[k, a, n, p, s0, s]] w1 fun e w' => ∃ (x : ByteArray) (y : Bool), e = .returned (.tuple #[.string x, .bool y]) ∧ P58 x y ∧ w1.grownBy w' none)
    : Calls Tryz.prog 30 #[.agg #[k, a, n, p, s0, s]] w fun e w' => (∃ (x49 y49 : Bool) (x50 : Int) (y50 : Bool) (x51 : Int) (y51 : Bool) (x52 : Int) (y52 : Bool) (x53 : Int) (y53 : Bool) (x54 : Int) (y54 : Bool) (x56 : Int) (y56 : Bool) (x57 : ByteArray) (y57 : Bool) (x58 : ByteArray) (y58 : Bool), e = .returned (.agg #[.bool x49, .bool y49, .int .i64 x50, .bool y50, .int .i32 x51, .bool y51, .int .u64 x52, .bool y52, .int .u32 x53, .bool y53, .int .u64 x54, .bool y54, .int .u64 x56, .bool y56, .string x57, .bool y57, .string x58, .bool y58]) ∧ P50 x50 y50 ∧ P51 x51 y51 ∧ P52 x52 y52 ∧ P53 x53 y53 ∧ P57 x57 y57 ∧ P58 x58 y58) ∧ w.grownBy w' none := by
  have hbits : ∀ n w, (Extern.MathFloatBits.float64bits #[.float .f64 n]).run Tryz.prog w = .ok (.int .u64 (n : Nat)) w := fun _ _ => rfl
  have C49 := Lib.hid c49
  have C50 := Lib.hid c50
  have C51 := Lib.hid c51
  have C52 := Lib.hid c52
  have C53 := Lib.hid c53
  have C54 := Lib.hid c54
  have C56 := Lib.hid c56
  have C57 := Lib.hid c57
  have C58 := Lib.hid c58
  clear c49 c50 c51 c52 c53 c54 c56 c57 c58
  go_enter Tryz.func30, Tryz.ntmps30
  go_wp2_with fail
  obtain ⟨W, hW⟩ : ∃ W, W = (((w.alloc (.cells #[k, a, n, p, s0, s] 72 (0, 0))).alloc (.cells #[.bool false, .bool false, .int .i64 0, .bool false, .int .i32 0, .bool false, .int .u64 0, .bool false, .int .u32 0, .bool false, .int .u64 0, .bool false, .int .u64 0, .bool false, .string ⟨#[]⟩, .bool false, .string ⟨#[]⟩, .bool false] 25 (0, 0))).alloc (.cells #[.bool false, .bool false, .int .i64 0, .bool false, .int .i32 0, .bool false, .int .u64 0, .bool false, .int .u32 0, .bool false, .int .u64 0, .bool false, .int .u64 0, .bool false, .string ⟨#[]⟩, .bool false, .string ⟨#[]⟩, .bool false] 25 (0, 0))) := ⟨_, rfl⟩
  have HG : w.grownBy W none := by rw [hW]; exact gr_alloc (gr_alloc (gr_alloc (gr_refl _ _) _) _) _
  obtain ⟨N, hN⟩ : ∃ N, N = w.heap.size := ⟨_, rfl⟩
  have hT : W.heap[N]? = some (.cells #[k, a, n, p, s0, s] 72 (0, 0)) := by rw [hW, hN]; exact blk_alloc (blk_alloc (blk_new w _) _) _
  have hR : W.heap[N + 1]? = some (.cells #[.bool false, .bool false, .int .i64 0, .bool false, .int .i32 0, .bool false, .int .u64 0, .bool false, .int .u32 0, .bool false, .int .u64 0, .bool false, .int .u64 0, .bool false, .string ⟨#[]⟩, .bool false, .string ⟨#[]⟩, .bool false] 25 (0, 0)) := by
    have h := blk_alloc (blk_new (w.alloc (.cells #[k, a, n, p, s0, s] 72 (0, 0))) (.cells #[.bool false, .bool false, .int .i64 0, .bool false, .int .i32 0, .bool false, .int .u64 0, .bool false, .int .u32 0, .bool false, .int .u64 0, .bool false, .int .u64 0, .bool false, .string ⟨#[]⟩, .bool false, .string ⟨#[]⟩, .bool false] 25 (0, 0))) (.cells #[.bool false, .bool false, .int .i64 0, .bool false, .int .i32 0, .bool false, .int .u64 0, .bool false, .int .u32 0, .bool false, .int .u64 0, .bool false, .int .u64 0, .bool false, .string ⟨#[]⟩, .bool false, .string ⟨#[]⟩, .bool false] 25 (0, 0))
    rw [World.size_alloc] at h
    rw [hW, hN]; exact h
  have hV : W.heap[N + 2]? = some (.cells #[.bool false, .bool false, .int .i64 0, .bool false, .int .i32 0, .bool false, .int .u64 0, .bool false, .int .u32 0, .bool false, .int .u64 0, .bool false, .int .u64 0, .bool false, .string ⟨#[]⟩, .bool false, .string ⟨#[]⟩, .bool false] 25 (0, 0)) := by
    have h := blk_new ((w.alloc (.cells #[k, a, n, p, s0, s] 72 (0, 0))).alloc (.cells #[.bool false, .bool false, .int .i64 0, .bool false, .int .i32 0, .bool false, .int .u64 0, .bool false, .int .u32 0, .bool false, .int .u64 0, .bool false, .int .u64 0, .bool false, .string ⟨#[]⟩, .bool false, .string ⟨#[]⟩, .bool false] 25 (0, 0))) (.cells #[.bool false, .bool false, .int .i64 0, .bool false, .int .i32 0, .bool false, .int .u64 0, .bool false, .int .u32 0, .bool false, .int .u64 0, .bool false, .int .u64 0, .bool false, .string ⟨#[]⟩, .bool false, .string ⟨#[]⟩, .bool false] 25 (0, 0))
    rw [World.size_alloc, World.size_alloc] at h
    rw [hW, hN]; exact h
  have hN2 : w.heap.size = N := hN.symm
  have hNN : w.heap.size ≤ (⟨N + 2, 0, none⟩ : Addr).block := by rw [hN]; exact Nat.le_add_right _ _
  rw [← hW, ← hN]
  clear hW hN
  have HN2 := Lib.hid hN2
  clear hN2
  refine (C49.out W HG).mono ?_
  rintro e wn ⟨x49, y49, rfl, hgn⟩
  have HGn := gr_trans HG hgn
  have hVn := gr_blk hgn hV (by simp)
  have hTn := gr_blk hgn hT (by simp)
  have hRn := gr_blk hgn hR (by simp)
  clear hgn HG hV hT hR C49
  have c0 := blk_cell hVn 0
  have c1 := blk_cell hVn 1
  have d0 := blk_frozen hVn 0
  have d1 := blk_frozen hVn 1
  have t0 := blk_cell hTn 0
  have t1 := blk_cell hTn 1
  have t2 := blk_cell hTn 2
  have t3 := blk_cell hTn 3
  have t4 := blk_cell hTn 4
  have t5 := blk_cell hTn 5
  have HGn' := Lib.hid HGn
  have HVn := Lib.hid hVn
  have HTn := Lib.hid hTn
  have HRn := Lib.hid hRn
  clear HGn hVn hTn hRn
  go_wp2_with fail
  clear c0 c1 d0 d1 t0 t1 t2 t3 t4 t5
  have HGn := HGn'.out
  have hVn := HVn.out
  have hTn := HTn.out
  have hRn := HRn.out
  clear HGn' HVn HTn HRn
  have HG : w.grownBy ((wn.setCell ⟨N + 2, 0, none⟩ (.bool x49)).setCell ⟨N + 2, 1, none⟩ (.bool y49)) none := gr_set (gr_set HGn (.inl hNN) _) (.inl hNN) _
  have hV : ((wn.setCell ⟨N + 2, 0, none⟩ (.bool x49)).setCell ⟨N + 2, 1, none⟩ (.bool y49)).heap[N + 2]? = some (.cells #[.bool x49, .bool y49, .int .i64 0, .bool false, .int .i32 0, .bool false, .int .u64 0, .bool false, .int .u32 0, .bool false, .int .u64 0, .bool false, .int .u64 0, .bool false, .string ⟨#[]⟩, .bool false, .string ⟨#[]⟩, .bool false] 25 (0, 0)) := by
    have h3 := blk_set (blk_set hVn 0 (.bool x49)) 1 (.bool y49)
    simpa using h3
  have hT : ((wn.setCell ⟨N + 2, 0, none⟩ (.bool x49)).setCell ⟨N + 2, 1, none⟩ (.bool y49)).heap[N]? = some (.cells #[k, a, n, p, s0, s] 72 (0, 0)) := blk_far (blk_far hTn (by simp) _) (by simp) _
  have hR : ((wn.setCell ⟨N + 2, 0, none⟩ (.bool x49)).setCell ⟨N + 2, 1, none⟩ (.bool y49)).heap[N + 1]? = some (.cells #[.bool false, .bool false, .int .i64 0, .bool false, .int .i32 0, .bool false, .int .u64 0, .bool false, .int .u32 0, .bool false, .int .u64 0, .bool false, .int .u64 0, .bool false, .string ⟨#[]⟩, .bool false, .string ⟨#[]⟩, .bool false] 25 (0, 0)) := blk_far (blk_far hRn (by simp) _) (by simp) _
  clear HGn hVn hTn hRn
  generalize ((wn.setCell ⟨N + 2, 0, none⟩ (.bool x49)).setCell ⟨N + 2, 1, none⟩ (.bool y49)) = W at HG hV hT hR ⊢
  clear wn
  refine (C50.out W HG).mono ?_
  rintro e wn ⟨x50, y50, rfl, hq50, hgn⟩
  have HQ50 := Lib.hid hq50
  clear hq50
  have HGn := gr_trans HG hgn
  have hVn := gr_blk hgn hV (by simp)
  have hTn := gr_blk hgn hT (by simp)
  have hRn := gr_blk hgn hR (by simp)
  clear hgn HG hV hT hR C50
  have c0 := blk_cell hVn 2
  have c1 := blk_cell hVn 3
  have d0 := blk_frozen hVn 2
  have d1 := blk_frozen hVn 3
  have t0 := blk_cell hTn 0
  have t1 := blk_cell hTn 1
  have t2 := blk_cell hTn 2
  have t3 := blk_cell hTn 3
  have t4 := blk_cell hTn 4
  have t5 := blk_cell hTn 5
  have HGn' := Lib.hid HGn
  have HVn := Lib.hid hVn
  have HTn := Lib.hid hTn
  have HRn := Lib.hid hRn
  clear HGn hVn hTn hRn
  go_wp2_with fail
  clear c0 c1 d0 d1 t0 t1 t2 t3 t4 t5
  have HGn := HGn'.out
  have hVn := HVn.out
  have hTn := HTn.out
  have hRn := HRn.out
  clear HGn' HVn HTn HRn
  have HG : w.grownBy ((wn.setCell ⟨N + 2, 2, none⟩ (.int .i64 x50)).setCell ⟨N + 2, 3, none⟩ (.bool y50)) none := gr_set (gr_set HGn (.inl hNN) _) (.inl hNN) _
  have hV : ((wn.setCell ⟨N + 2, 2, none⟩ (.int .i64 x50)).setCell ⟨N + 2, 3, none⟩ (.bool y50)).heap[N + 2]? = some (.cells #[.bool x49, .bool y49, .int .i64 x50, .bool y50, .int .i32 0, .bool false, .int .u64 0, .bool false, .int .u32 0, .bool false, .int .u64 0, .bool false, .int .u64 0, .bool false, .string ⟨#[]⟩, .bool false, .string ⟨#[]⟩, .bool false] 25 (0, 0)) := by
    have h3 := blk_set (blk_set hVn 2 (.int .i64 x50)) 3 (.bool y50)
    simpa using h3
  have hT : ((wn.setCell ⟨N + 2, 2, none⟩ (.int .i64 x50)).setCell ⟨N + 2, 3, none⟩ (.bool y50)).heap[N]? = some (.cells #[k, a, n, p, s0, s] 72 (0, 0)) := blk_far (blk_far hTn (by simp) _) (by simp) _
  have hR : ((wn.setCell ⟨N + 2, 2, none⟩ (.int .i64 x50)).setCell ⟨N + 2, 3, none⟩ (.bool y50)).heap[N + 1]? = some (.cells #[.bool false, .bool false, .int .i64 0, .bool false, .int .i32 0, .bool false, .int .u64 0, .bool false, .int .u32 0, .bool false, .int .u64 0, .bool false, .int .u64 0, .bool false, .string ⟨#[]⟩, .bool false, .string ⟨#[]⟩, .bool false] 25 (0, 0)) := blk_far (blk_far hRn (by simp) _) (by simp) _
  clear HGn hVn hTn hRn
  generalize ((wn.setCell ⟨N + 2, 2, none⟩ (.int .i64 x50)).setCell ⟨N + 2, 3, none⟩ (.bool y50)) = W at HG hV hT hR ⊢
  clear wn
  refine (C51.out W HG).mono ?_
  rintro e wn ⟨x51, y51, rfl, hq51, hgn⟩
  have HQ51 := Lib.hid hq51
  clear hq51
  have HGn := gr_trans HG hgn
  have hVn := gr_blk hgn hV (by simp)
  have hTn := gr_blk hgn hT (by simp)
  have hRn := gr_blk hgn hR (by simp)
  clear hgn HG hV hT hR C51
  have c0 := blk_cell hVn 4
  have c1 := blk_cell hVn 5
  have d0 := blk_frozen hVn 4
  have d1 := blk_frozen hVn 5
  have t0 := blk_cell hTn 0
  have t1 := blk_cell hTn 1
  have t2 := blk_cell hTn 2
  have t3 := blk_cell hTn 3
  have t4 := blk_cell hTn 4
  have t5 := blk_cell hTn 5
  have HGn' := Lib.hid HGn
  have HVn := Lib.hid hVn
  have HTn := Lib.hid hTn
  have HRn := Lib.hid hRn
  clear HGn hVn hTn hRn
  go_wp2_with fail
  clear c0 c1 d0 d1 t0 t1 t2 t3 t4 t5
  have HGn := HGn'.out
  have hVn := HVn.out
  have hTn := HTn.out
  have hRn := HRn.out
  clear HGn' HVn HTn HRn
  have HG : w.grownBy ((wn.setCell ⟨N + 2, 4, none⟩ (.int .i32 x51)).setCell ⟨N + 2, 5, none⟩ (.bool y51)) none := gr_set (gr_set HGn (.inl hNN) _) (.inl hNN) _
  have hV : ((wn.setCell ⟨N + 2, 4, none⟩ (.int .i32 x51)).setCell ⟨N + 2, 5, none⟩ (.bool y51)).heap[N + 2]? = some (.cells #[.bool x49, .bool y49, .int .i64 x50, .bool y50, .int .i32 x51, .bool y51, .int .u64 0, .bool false, .int .u32 0, .bool false, .int .u64 0, .bool false, .int .u64 0, .bool false, .string ⟨#[]⟩, .bool false, .string ⟨#[]⟩, .bool false] 25 (0, 0)) := by
    have h3 := blk_set (blk_set hVn 4 (.int .i32 x51)) 5 (.bool y51)
    simpa using h3
  have hT : ((wn.setCell ⟨N + 2, 4, none⟩ (.int .i32 x51)).setCell ⟨N + 2, 5, none⟩ (.bool y51)).heap[N]? = some (.cells #[k, a, n, p, s0, s] 72 (0, 0)) := blk_far (blk_far hTn (by simp) _) (by simp) _
  have hR : ((wn.setCell ⟨N + 2, 4, none⟩ (.int .i32 x51)).setCell ⟨N + 2, 5, none⟩ (.bool y51)).heap[N + 1]? = some (.cells #[.bool false, .bool false, .int .i64 0, .bool false, .int .i32 0, .bool false, .int .u64 0, .bool false, .int .u32 0, .bool false, .int .u64 0, .bool false, .int .u64 0, .bool false, .string ⟨#[]⟩, .bool false, .string ⟨#[]⟩, .bool false] 25 (0, 0)) := blk_far (blk_far hRn (by simp) _) (by simp) _
  clear HGn hVn hTn hRn
  generalize ((wn.setCell ⟨N + 2, 4, none⟩ (.int .i32 x51)).setCell ⟨N + 2, 5, none⟩ (.bool y51)) = W at HG hV hT hR ⊢
  clear wn
  refine (C52.out W HG).mono ?_
  rintro e wn ⟨x52, y52, rfl, hq52, hgn⟩
  have HQ52 := Lib.hid hq52
  clear hq52
  have HGn := gr_trans HG hgn
  have hVn := gr_blk hgn hV (by simp)
  have hTn := gr_blk hgn hT (by simp)
  have hRn := gr_blk hgn hR (by simp)
  clear hgn HG hV hT hR C52
  have c0 := blk_cell hVn 6
  have c1 := blk_cell hVn 7
  have d0 := blk_frozen hVn 6
  have d1 := blk_frozen hVn 7
  have t0 := blk_cell hTn 0
  have t1 := blk_cell hTn 1
  have t2 := blk_cell hTn 2
  have t3 := blk_cell hTn 3
  have t4 := blk_cell hTn 4
  have t5 := blk_cell hTn 5
  have HGn' := Lib.hid HGn
  have HVn := Lib.hid hVn
  have HTn := Lib.hid hTn
  have HRn := Lib.hid hRn
  clear HGn hVn hTn hRn
  go_wp2_with fail
  clear c0 c1 d0 d1 t0 t1 t2 t3 t4 t5
  have HGn := HGn'.out
  have hVn := HVn.out
  have hTn := HTn.out
  have hRn := HRn.out
  clear HGn' HVn HTn HRn
  have HG : w.grownBy ((wn.setCell ⟨N + 2, 6, none⟩ (.int .u64 x52)).setCell ⟨N + 2, 7, none⟩ (.bool y52)) none := gr_set (gr_set HGn (.inl hNN) _) (.inl hNN) _
  have hV : ((wn.setCell ⟨N + 2, 6, none⟩ (.int .u64 x52)).setCell ⟨N + 2, 7, none⟩ (.bool y52)).heap[N + 2]? = some (.cells #[.bool x49, .bool y49, .int .i64 x50, .bool y50, .int .i32 x51, .bool y51, .int .u64 x52, .bool y52, .int .u32 0, .bool false, .int .u64 0, .bool false, .int .u64 0, .bool false, .string ⟨#[]⟩, .bool false, .string ⟨#[]⟩, .bool false] 25 (0, 0)) := by
    have h3 := blk_set (blk_set hVn 6 (.int .u64 x52)) 7 (.bool y52)
    simpa using h3
  have hT : ((wn.setCell ⟨N + 2, 6, none⟩ (.int .u64 x52)).setCell ⟨N + 2, 7, none⟩ (.bool y52)).heap[N]? = some (.cells #[k, a, n, p, s0, s] 72 (0, 0)) := blk_far (blk_far hTn (by simp) _) (by simp) _
  have hR : ((wn.setCell ⟨N + 2, 6, none⟩ (.int .u64 x52)).setCell ⟨N + 2, 7, none⟩ (.bool y52)).heap[N + 1]? = some (.cells #[.bool false, .bool false, .int .i64 0, .bool false, .int .i32 0, .bool false, .int .u64 0, .bool false, .int .u32 0, .bool false, .int .u64 0, .bool false, .int .u64 0, .bool false, .string ⟨#[]⟩, .bool false, .string ⟨#[]⟩, .bool false] 25 (0, 0)) := blk_far (blk_far hRn (by simp) _) (by simp) _
  clear HGn hVn hTn hRn
  generalize ((wn.setCell ⟨N + 2, 6, none⟩ (.int .u64 x52)).setCell ⟨N + 2, 7, none⟩ (.bool y52)) = W at HG hV hT hR ⊢
  clear wn
  refine (C53.out W HG).mono ?_
  rintro e wn ⟨x53, y53, rfl, hq53, hgn⟩
  have HQ53 := Lib.hid hq53
  clear hq53
  have HGn := gr_trans HG hgn
  have hVn := gr_blk hgn hV (by simp)
  have hTn := gr_blk hgn hT (by simp)
  have hRn := gr_blk hgn hR (by simp)
  clear hgn HG hV hT hR C53
  have c0 := blk_cell hVn 8
  have c1 := blk_cell hVn 9
  have d0 := blk_frozen hVn 8
  have d1 := blk_frozen hVn 9
  have t0 := blk_cell hTn 0
  have t1 := blk_cell hTn 1
  have t2 := blk_cell hTn 2
  have t3 := blk_cell hTn 3
  have t4 := blk_cell hTn 4
  have t5 := blk_cell hTn 5
  have HGn' := Lib.hid HGn
  have HVn := Lib.hid hVn
  have HTn := Lib.hid hTn
  have HRn := Lib.hid hRn
  clear HGn hVn hTn hRn
  go_wp2_with fail
  clear c0 c1 d0 d1 t0 t1 t2 t3 t4 t5
  have HGn := HGn'.out
  have hVn := HVn.out
  have hTn := HTn.out
  have hRn := HRn.out
  clear HGn' HVn HTn HRn
  have HG : w.grownBy ((wn.setCell ⟨N + 2, 8, none⟩ (.int .u32 x53)).setCell ⟨N + 2, 9, none⟩ (.bool y53)) none := gr_set (gr_set HGn (.inl hNN) _) (.inl hNN) _
  have hV : ((wn.setCell ⟨N + 2, 8, none⟩ (.int .u32 x53)).setCell ⟨N + 2, 9, none⟩ (.bool y53)).heap[N + 2]? = some (.cells #[.bool x49, .bool y49, .int .i64 x50, .bool y50, .int .i32 x51, .bool y51, .int .u64 x52, .bool y52, .int .u32 x53, .bool y53, .int .u64 0, .bool false, .int .u64 0, .bool false, .string ⟨#[]⟩, .bool false, .string ⟨#[]⟩, .bool false] 25 (0, 0)) := by
    have h3 := blk_set (blk_set hVn 8 (.int .u32 x53)) 9 (.bool y53)
    simpa using h3
  have hT : ((wn.setCell ⟨N + 2, 8, none⟩ (.int .u32 x53)).setCell ⟨N + 2, 9, none⟩ (.bool y53)).heap[N]? = some (.cells #[k, a, n, p, s0, s] 72 (0, 0)) := blk_far (blk_far hTn (by simp) _) (by simp) _
  have hR : ((wn.setCell ⟨N + 2, 8, none⟩ (.int .u32 x53)).setCell ⟨N + 2, 9, none⟩ (.bool y53)).heap[N + 1]? = some (.cells #[.bool false, .bool false, .int .i64 0, .bool false, .int .i32 0, .bool false, .int .u64 0, .bool false, .int .u32 0, .bool false, .int .u64 0, .bool false, .int .u64 0, .bool false, .string ⟨#[]⟩, .bool false, .string ⟨#[]⟩, .bool false] 25 (0, 0)) := blk_far (blk_far hRn (by simp) _) (by simp) _
  clear HGn hVn hTn hRn
  generalize ((wn.setCell ⟨N + 2, 8, none⟩ (.int .u32 x53)).setCell ⟨N + 2, 9, none⟩ (.bool y53)) = W at HG hV hT hR ⊢
  clear wn
  refine (C54.out W HG).mono ?_
  rintro e wn ⟨f54, y54, rfl, hgn⟩
  have HGn := gr_trans HG hgn
  have hVn := gr_blk hgn hV (by simp)
  have hTn := gr_blk hgn hT (by simp)
  have hRn := gr_blk hgn hR (by simp)
  clear hgn HG hV hT hR C54
  have c0 := blk_cell hVn 10
  have c1 := blk_cell hVn 11
  have d0 := blk_frozen hVn 10
  have d1 := blk_frozen hVn 11
  have t0 := blk_cell hTn 0
  have t1 := blk_cell hTn 1
  have t2 := blk_cell hTn 2
  have t3 := blk_cell hTn 3
  have t4 := blk_cell hTn 4
  have t5 := blk_cell hTn 5
  have HGn' := Lib.hid HGn
  have HVn := Lib.hid hVn
  have HTn := Lib.hid hTn
  have HRn := Lib.hid hRn
  clear HGn hVn hTn hRn
  go_wp2_with fail
  rw [run_callFunc_extern Tryz.func55 (by kernel_rfl) (by kernel_rfl) (by kernel_rfl) (e := Extern.MathFloatBits.float64bits) (by kernel_rfl)]
  rw [hbits]
  simp only [Result.andThen]
  rw [Oper.upon_value]
  go_wp2_with fail
  clear c0 c1 d0 d1 t0 t1 t2 t3 t4 t5
  have HGn := HGn'.out
  have hVn := HVn.out
  have hTn := HTn.out
  have hRn := HRn.out
  clear HGn' HVn HTn HRn
  have HG : w.grownBy ((wn.setCell ⟨N + 2, 10, none⟩ (.int .u64 (f54 : Nat))).setCell ⟨N + 2, 11, none⟩ (.bool y54)) none := gr_set (gr_set HGn (.inl hNN) _) (.inl hNN) _
  have hV : ((wn.setCell ⟨N + 2, 10, none⟩ (.int .u64 (f54 : Nat))).setCell ⟨N + 2, 11, none⟩ (.bool y54)).heap[N + 2]? = some (.cells #[.bool x49, .bool y49, .int .i64 x50, .bool y50, .int .i32 x51, .bool y51, .int .u64 x52, .bool y52, .int .u32 x53, .bool y53, .int .u64 (f54 : Nat), .bool y54, .int .u64 0, .bool false, .string ⟨#[]⟩, .bool false, .string ⟨#[]⟩, .bool false] 25 (0, 0)) := by
    have h3 := blk_set (blk_set hVn 10 (.int .u64 (f54 : Nat))) 11 (.bool y54)
    simpa using h3
  have hT : ((wn.setCell ⟨N + 2, 10, none⟩ (.int .u64 (f54 : Nat))).setCell ⟨N + 2, 11, none⟩ (.bool y54)).heap[N]? = some (.cells #[k, a, n, p, s0, s] 72 (0, 0)) := blk_far (blk_far hTn (by simp) _) (by simp) _
  have hR : ((wn.setCell ⟨N + 2, 10, none⟩ (.int .u64 (f54 : Nat))).setCell ⟨N + 2, 11, none⟩ (.bool y54)).heap[N + 1]? = some (.cells #[.bool false, .bool false, .int .i64 0, .bool false, .int .i32 0, .bool false, .int .u64 0, .bool false, .int .u32 0, .bool false, .int .u64 0, .bool false, .int .u64 0, .bool false, .string ⟨#[]⟩, .bool false, .string ⟨#[]⟩, .bool false] 25 (0, 0)) := blk_far (blk_far hRn (by simp) _) (by simp) _
  clear HGn hVn hTn hRn
  generalize ((wn.setCell ⟨N + 2, 10, none⟩ (.int .u64 (f54 : Nat))).setCell ⟨N + 2, 11, none⟩ (.bool y54)) = W at HG hV hT hR ⊢
  clear wn
  refine (C56.out W HG).mono ?_
  rintro e wn ⟨f56, y56, rfl, hgn⟩
  obtain ⟨f64, wn2, hcv, hgn2⟩ := conv64 f56 wn
  replace hgn := gr_trans hgn hgn2
  clear hgn2
  have HGn := gr_trans HG hgn
  have hVn := gr_blk hgn hV (by simp)
  have hTn := gr_blk hgn hT (by simp)
  have hRn := gr_blk hgn hR (by simp)
  clear hgn HG hV hT hR C56
  have c0 := blk_cell hVn 12
  have c1 := blk_cell hVn 13
  have d0 := blk_frozen hVn 12
  have d1 := blk_frozen hVn 13
  have t0 := blk_cell hTn 0
  have t1 := blk_cell hTn 1
  have t2 := blk_cell hTn 2
  have t3 := blk_cell hTn 3
  have t4 := blk_cell hTn 4
  have t5 := blk_cell hTn 5
  have HGn' := Lib.hid HGn
  have HVn := Lib.hid hVn
  have HTn := Lib.hid hTn
  have HRn := Lib.hid hRn
  clear HGn hVn hTn hRn
  go_wp2_with fail
  rw [run_callFunc_extern Tryz.func55 (by kernel_rfl) (by kernel_rfl) (by kernel_rfl) (e := Extern.MathFloatBits.float64bits) (by kernel_rfl)]
  rw [hbits]
  simp only [Result.andThen]
  rw [Oper.upon_value]
  go_wp2_with fail
  clear c0 c1 d0 d1 t0 t1 t2 t3 t4 t5
  have HGn := HGn'.out
  have hVn := HVn.out
  have hTn := HTn.out
  have hRn := HRn.out
  clear HGn' HVn HTn HRn
  have HG : w.grownBy ((wn2.setCell ⟨N + 2, 12, none⟩ (.int .u64 (f64 : Nat))).setCell ⟨N + 2, 13, none⟩ (.bool y56)) none := gr_set (gr_set HGn (.inl hNN) _) (.inl hNN) _
  have hV : ((wn2.setCell ⟨N + 2, 12, none⟩ (.int .u64 (f64 : Nat))).setCell ⟨N + 2, 13, none⟩ (.bool y56)).heap[N + 2]? = some (.cells #[.bool x49, .bool y49, .int .i64 x50, .bool y50, .int .i32 x51, .bool y51, .int .u64 x52, .bool y52, .int .u32 x53, .bool y53, .int .u64 (f54 : Nat), .bool y54, .int .u64 (f64 : Nat), .bool y56, .string ⟨#[]⟩, .bool false, .string ⟨#[]⟩, .bool false] 25 (0, 0)) := by
    have h3 := blk_set (blk_set hVn 12 (.int .u64 (f64 : Nat))) 13 (.bool y56)
    simpa using h3
  have hT : ((wn2.setCell ⟨N + 2, 12, none⟩ (.int .u64 (f64 : Nat))).setCell ⟨N + 2, 13, none⟩ (.bool y56)).heap[N]? = some (.cells #[k, a, n, p, s0, s] 72 (0, 0)) := blk_far (blk_far hTn (by simp) _) (by simp) _
  have hR : ((wn2.setCell ⟨N + 2, 12, none⟩ (.int .u64 (f64 : Nat))).setCell ⟨N + 2, 13, none⟩ (.bool y56)).heap[N + 1]? = some (.cells #[.bool false, .bool false, .int .i64 0, .bool false, .int .i32 0, .bool false, .int .u64 0, .bool false, .int .u32 0, .bool false, .int .u64 0, .bool false, .int .u64 0, .bool false, .string ⟨#[]⟩, .bool false, .string ⟨#[]⟩, .bool false] 25 (0, 0)) := blk_far (blk_far hRn (by simp) _) (by simp) _
  clear HGn hVn hTn hRn
  generalize ((wn2.setCell ⟨N + 2, 12, none⟩ (.int .u64 (f64 : Nat))).setCell ⟨N + 2, 13, none⟩ (.bool y56)) = W at HG hV hT hR ⊢
  clear hcv wn2
  refine (C57.out W HG).mono ?_
  rintro e wn ⟨x57, y57, rfl, hq57, hgn⟩
  have HQ57 := Lib.hid hq57
  clear hq57
  have HGn := gr_trans HG hgn
  have hVn := gr_blk hgn hV (by simp)
  have hTn := gr_blk hgn hT (by simp)
  have hRn := gr_blk hgn hR (by simp)
  clear hgn HG hV hT hR C57
  have c0 := blk_cell hVn 14
  have c1 := blk_cell hVn 15
  have d0 := blk_frozen hVn 14
  have d1 := blk_frozen hVn 15
  have t0 := blk_cell hTn 0
  have t1 := blk_cell hTn 1
  have t2 := blk_cell hTn 2
  have t3 := blk_cell hTn 3
  have t4 := blk_cell hTn 4
  have t5 := blk_cell hTn 5
  have HGn' := Lib.hid HGn
  have HVn := Lib.hid hVn
  have HTn := Lib.hid hTn
  have HRn := Lib.hid hRn
  clear HGn hVn hTn hRn
  go_wp2_with fail
  clear c0 c1 d0 d1 t0 t1 t2 t3 t4 t5
  have HGn := HGn'.out
  have hVn := HVn.out
  have hTn := HTn.out
  have hRn := HRn.out
  clear HGn' HVn HTn HRn
  have HG : w.grownBy ((wn.setCell ⟨N + 2, 14, none⟩ (.string x57)).setCell ⟨N + 2, 15, none⟩ (.bool y57)) none := gr_set (gr_set HGn (.inl hNN) _) (.inl hNN) _
  have hV : ((wn.setCell ⟨N + 2, 14, none⟩ (.string x57)).setCell ⟨N + 2, 15, none⟩ (.bool y57)).heap[N + 2]? = some (.cells #[.bool x49, .bool y49, .int .i64 x50, .bool y50, .int .i32 x51, .bool y51, .int .u64 x52, .bool y52, .int .u32 x53, .bool y53, .int .u64 (f54 : Nat), .bool y54, .int .u64 (f64 : Nat), .bool y56, .string x57, .bool y57, .string ⟨#[]⟩, .bool false] 25 (0, 0)) := by
    have h3 := blk_set (blk_set hVn 14 (.string x57)) 15 (.bool y57)
    simpa using h3
  have hT : ((wn.setCell ⟨N + 2, 14, none⟩ (.string x57)).setCell ⟨N + 2, 15, none⟩ (.bool y57)).heap[N]? = some (.cells #[k, a, n, p, s0, s] 72 (0, 0)) := blk_far (blk_far hTn (by simp) _) (by simp) _
  have hR : ((wn.setCell ⟨N + 2, 14, none⟩ (.string x57)).setCell ⟨N + 2, 15, none⟩ (.bool y57)).heap[N + 1]? = some (.cells #[.bool false, .bool false, .int .i64 0, .bool false, .int .i32 0, .bool false, .int .u64 0, .bool false, .int .u32 0, .bool false, .int .u64 0, .bool false, .int .u64 0, .bool false, .string ⟨#[]⟩, .bool false, .string ⟨#[]⟩, .bool false] 25 (0, 0)) := blk_far (blk_far hRn (by simp) _) (by simp) _
  clear HGn hVn hTn hRn
  generalize ((wn.setCell ⟨N + 2, 14, none⟩ (.string x57)).setCell ⟨N + 2, 15, none⟩ (.bool y57)) = W at HG hV hT hR ⊢
  clear wn
  refine (C58.out W HG).mono ?_
  rintro e wn ⟨x58, y58, rfl, hq58, hgn⟩
  have HQ58 := Lib.hid hq58
  clear hq58
  have HGn := gr_trans HG hgn
  have hVn := gr_blk hgn hV (by simp)
  have hTn := gr_blk hgn hT (by simp)
  have hRn := gr_blk hgn hR (by simp)
  clear hgn HG hV hT hR C58
  have c0 := blk_cell hVn 16
  have c1 := blk_cell hVn 17
  have d0 := blk_frozen hVn 16
  have d1 := blk_frozen hVn 17
  have t0 := blk_cell hTn 0
  have t1 := blk_cell hTn 1
  have t2 := blk_cell hTn 2
  have t3 := blk_cell hTn 3
  have t4 := blk_cell hTn 4
  have t5 := blk_cell hTn 5
  have HGn' := Lib.hid HGn
  have HVn := Lib.hid hVn
  have HTn := Lib.hid hTn
  have HRn := Lib.hid hRn
  clear HGn hVn hTn hRn
  go_upto_region 13 with fail
  clear c0 c1 d0 d1 t0 t1 t2 t3 t4 t5
  have HGn := HGn'.out
  have hVn := HVn.out
  have hTn := HTn.out
  have hRn := HRn.out
  clear HGn' HVn HTn HRn
  have HG : w.grownBy ((wn.setCell ⟨N + 2, 16, none⟩ (.string x58)).setCell ⟨N + 2, 17, none⟩ (.bool y58)) none := gr_set (gr_set HGn (.inl hNN) _) (.inl hNN) _
  have hV : ((wn.setCell ⟨N + 2, 16, none⟩ (.string x58)).setCell ⟨N + 2, 17, none⟩ (.bool y58)).heap[N + 2]? = some (.cells #[.bool x49, .bool y49, .int .i64 x50, .bool y50, .int .i32 x51, .bool y51, .int .u64 x52, .bool y52, .int .u32 x53, .bool y53, .int .u64 (f54 : Nat), .bool y54, .int .u64 (f64 : Nat), .bool y56, .string x57, .bool y57, .string x58, .bool y58] 25 (0, 0)) := by
    have h3 := blk_set (blk_set hVn 16 (.string x58)) 17 (.bool y58)
    simpa using h3
  have hT : ((wn.setCell ⟨N + 2, 16, none⟩ (.string x58)).setCell ⟨N + 2, 17, none⟩ (.bool y58)).heap[N]? = some (.cells #[k, a, n, p, s0, s] 72 (0, 0)) := blk_far (blk_far hTn (by simp) _) (by simp) _
  have hR : ((wn.setCell ⟨N + 2, 16, none⟩ (.string x58)).setCell ⟨N + 2, 17, none⟩ (.bool y58)).heap[N + 1]? = some (.cells #[.bool false, .bool false, .int .i64 0, .bool false, .int .i32 0, .bool false, .int .u64 0, .bool false, .int .u32 0, .bool false, .int .u64 0, .bool false, .int .u64 0, .bool false, .string ⟨#[]⟩, .bool false, .string ⟨#[]⟩, .bool false] 25 (0, 0)) := blk_far (blk_far hRn (by simp) _) (by simp) _
  clear HGn hVn hTn hRn
  generalize ((wn.setCell ⟨N + 2, 16, none⟩ (.string x58)).setCell ⟨N + 2, 17, none⟩ (.bool y58)) = W at HG hV hT hR ⊢
  clear wn
  have hth : W.there (N + 1) 0 18 := by
    intro j hj
    rw [Nat.zero_add]
    refine ⟨?_, blk_frozen hR j⟩
    rw [blk_cell hR j, Array.getElem?_eq_getElem (by simpa using hj)]
    rfl
  refine wp_region_lit ?_
  refine wpList_load_mid rfl 25 (Operand.tmp 3) rfl (N + 2) 0 rfl [.bool x49, .bool y49, .int .i64 x50, .bool y50, .int .i32 x51, .bool y51, .int .u64 x52, .bool y52, .int .u32 x53, .bool y53, .int .u64 (f54 : Nat), .bool y54, .int .u64 (f64 : Nat), .bool y56, .string x57, .bool y57, .string x58, .bool y58] _ (fun j v hv => by rw [Nat.zero_add, blk_cell hV j]; simpa using hv) Tryz.underlying25 rfl (by kernel_rfl) ?_
  refine wpList_store_mid rfl 25 (Operand.tmp 2) (Operand.tmp 77) rfl (N + 1) 0 (List.toArray [.bool x49, .bool y49, .int .i64 x50, .bool y50, .int .i32 x51, .bool y51, .int .u64 x52, .bool y52, .int .u32 x53, .bool y53, .int .u64 (f54 : Nat), .bool y54, .int .u64 (f64 : Nat), .bool y56, .string x57, .bool y57, .string x58, .bool y58]) rfl rfl hth (by kernel_rfl) (by simp [Value.oneCell']) ?_
  have hrs := run_loadVar_mid (P := Tryz.prog) _ (N + 1) 0 25 [.bool x49, .bool y49, .int .i64 x50, .bool y50, .int .i32 x51, .bool y51, .int .u64 x52, .bool y52, .int .u32 x53, .bool y53, .int .u64 (f54 : Nat), .bool y54, .int .u64 (f64 : Nat), .bool y56, .string x57, .bool y57, .string x58, .bool y58] _ (World.rangeAt_setCells_same W (N + 1) 0 [.bool x49, .bool y49, .int .i64 x50, .bool y50, .int .i32 x51, .bool y51, .int .u64 x52, .bool y52, .int .u32 x53, .bool y53, .int .u64 (f54 : Nat), .bool y54, .int .u64 (f64 : Nat), .bool y56, .string x57, .bool y57, .string x58, .bool y58] hth) Tryz.underlying25 rfl (by kernel_rfl)
  have hg2 : w.grownBy (W.setCells (N + 1) 0 [.bool x49, .bool y49, .int .i64 x50, .bool y50, .int .i32 x51, .bool y51, .int .u64 x52, .bool y52, .int .u32 x53, .bool y53, .int .u64 (f54 : Nat), .bool y54, .int .u64 (f64 : Nat), .bool y56, .string x57, .bool y57, .string x58, .bool y58]) none := gr_setCells (by rw [HN2.out]; exact .inl (Nat.le_succ _)) _ _ HG
  generalize W.setCells (N + 1) 0 [.bool x49, .bool y49, .int .i64 x50, .bool y50, .int .i32 x51, .bool y51, .int .u64 x52, .bool y52, .int .u32 x53, .bool y53, .int .u64 (f54 : Nat), .bool y54, .int .u64 (f64 : Nat), .bool y56, .string x57, .bool y57, .string x58, .bool y58] = W2 at hrs hg2 ⊢
  have HG2 := Lib.hid hg2
  have HRS := Lib.hid hrs
  clear HG hR hV hT hrs hg2 hth
  go_wp2
  refine bodyPost_ret (v := .agg #[.bool x49, .bool y49, .int .i64 x50, .bool y50, .int .i32 x51, .bool y51, .int .u64 x52, .bool y52, .int .u32 x53, .bool y53, .int .u64 (f54 : Nat), .bool y54, .int .u64 (f64 : Nat), .bool y56, .string x57, .bool y57, .string x58, .bool y58]) ?_ rfl ?_
  · have hrs := HRS.out
    exact results_cell18 _ _ _ _ rfl hrs
  · exact ⟨⟨_, _, _, _, _, _, _, _, _, _, _, _, _, _, _, _, _, _, rfl, HQ50.out, HQ51.out, HQ52.out, HQ53.out, HQ57.out, HQ58.out⟩, HG2.out⟩
end Go.Proofs.YtlfeolfjlmelpaaGreatDoor
