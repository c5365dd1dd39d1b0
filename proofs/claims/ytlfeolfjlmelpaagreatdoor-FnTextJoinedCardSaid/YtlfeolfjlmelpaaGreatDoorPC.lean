/- Where an escape is wanted; a buffer that the call owns. -/
import Derived.Test.YtlfeolfjlmelpaaGreatDoorPA
import Derived.Test.YtlfeolfjlmelpaaGreatDoorKH
import Derived.Test.YtlfeolfjlmelpaaGreatDoorKJ
import Derived.Lib.BufSteps
namespace Go.Proofs.YtlfeolfjlmelpaaGreatDoor
open Go.RowKit

set_option maxHeartbeats 2000000 in
set_option maxRecDepth 1000000 in
theorem index_of {w : World} (l : List UInt8) (hl : l.length ≤ 1000000000) :
    Calls Tryz.prog 101 #[.string ⟨l.toArray⟩] w fun e w' => e = .returned (.int .i64 (run l : Nat)) ∧ w' = w := by
  have HL := Lib.hid hl
  clear hl
  go_enter Tryz.func101, Tryz.ntmps101
  go_wp2
  go_loop [3] (fun i => ∃ k : Nat, k ≤ l.length ∧ i = .int .i64 (k : Nat) ∧ Hid (run l = k + run (l.drop k))) (fun i => l.length + 1 - (intOf i).toNat)
  case atStart => exact ⟨0, Nat.zero_le _, rfl, Lib.hid (by simp)⟩
  case round =>
    obtain ⟨k, hk, rfl, HR⟩ := hrel
    have hlen := HL.out
    by_cases hlt : k < l.length
    · have hcell : ∀ h, (((⟨l.toArray⟩ : ByteArray)[k]'h).toNat : Int) = ((l[k]'hlt).toNat : Int) := fun h => rfl
      have hr := HR.out
      rw [List.drop_eq_getElem_cons hlt, run] at hr
      generalize l[k] = c at hcell hr
      by_cases hp : isPl c
      · rw [if_pos hp] at hr
        have HR2 := Lib.hid hr
        clear hr HR
        unfold isPl at hp
        obtain ⟨h1, h2, h3, h4, h5⟩ := hp
        have q1 : ((c.toNat : Int) == 34) = false := beq_eq_false_iff_ne.2 (by omega)
        have q2 : ((c.toNat : Int) == 39) = false := beq_eq_false_iff_ne.2 (by omega)
        have q3 : ((c.toNat : Int) == 92) = false := beq_eq_false_iff_ne.2 (by omega)
        go_wp2
        exact ⟨⟨k + 1, by omega, rfl, Lib.hid (by have := HR2.out; omega)⟩, by simp [intOf]; omega⟩
      · rw [if_neg hp, Nat.add_zero] at hr
        have HR2 := Lib.hid hr
        clear hr HR
        have hor : c.toNat < 32 ∨ (32 ≤ c.toNat ∧ c.toNat = 34) ∨ (32 ≤ c.toNat ∧ c.toNat = 39) ∨ (32 ≤ c.toNat ∧ c.toNat = 92) ∨ 127 ≤ c.toNat := by unfold isPl at hp; omega
        clear hp
        rcases hor with h1 | ⟨h0, h1⟩ | ⟨h0, h1⟩ | ⟨h0, h1⟩ | h1
        · go_wp2
          go_ret
          exact ⟨by rw [HR2.out]; rfl, rfl⟩
        · have q1 : ((c.toNat : Int) == 34) = true := beq_iff_eq.2 (by omega)
          clear h1
          go_wp2
          go_ret
          exact ⟨by rw [HR2.out]; rfl, rfl⟩
        · have q1 : ((c.toNat : Int) == 34) = false := beq_eq_false_iff_ne.2 (by omega)
          have q2 : ((c.toNat : Int) == 39) = true := beq_iff_eq.2 (by omega)
          clear h1
          go_wp2
          go_ret
          exact ⟨by rw [HR2.out]; rfl, rfl⟩
        · have q1 : ((c.toNat : Int) == 34) = false := beq_eq_false_iff_ne.2 (by omega)
          have q2 : ((c.toNat : Int) == 39) = false := beq_eq_false_iff_ne.2 (by omega)
          have q3 : ((c.toNat : Int) == 92) = true := beq_iff_eq.2 (by omega)
          clear h1
          go_wp2
          go_ret
          exact ⟨by rw [HR2.out]; rfl, rfl⟩
        · have q1 : ((c.toNat : Int) == 34) = false := beq_eq_false_iff_ne.2 (by omega)
          have q2 : ((c.toNat : Int) == 39) = false := beq_eq_false_iff_ne.2 (by omega)
          have q3 : ((c.toNat : Int) == 92) = false := beq_eq_false_iff_ne.2 (by omega)
          go_wp2
          go_ret
          exact ⟨by rw [HR2.out]; rfl, rfl⟩
    · have hke : k = l.length := by omega
      subst hke
      have hr := HR.out
      rw [List.drop_length, run, Nat.add_zero] at hr
      have HR2 := Lib.hid hr
      clear hr HR
      go_wp2
      go_ret
      exact ⟨by rw [HR2.out]; rfl, rfl⟩

set_option maxRecDepth 1000000 in
theorem unsafeStr_of {w : World} {A : Option Addr} {c : Nat} (l : List UInt8) (h : IsB w A c l) :
    Calls Tryz.prog 229 #[.slice A l.length c] w fun e w' => e = .returned (.string ⟨l.toArray⟩) ∧ w' = w := by
  have hs := h.str
  clear h
  go_enter Tryz.func229, Tryz.ntmps229
  go_wp2
  go_ret
  exact ⟨rfl, rfl⟩
set_option maxHeartbeats 2000000 in
set_option maxRecDepth 1000000 in
theorem indexB_of {w : World} {A : Option Addr} {c : Nat} (l : List UInt8) (h : IsB w A c l) (hl : l.length ≤ 1000000000) :
    Calls Tryz.prog 210 #[.slice A l.length c] w fun e w' => e = .returned (.int .i64 (run l : Nat)) ∧ w' = w := by
  have HS := Lib.hid (unsafeStr_of l h)
  have HI := Lib.hid (index_of (w := w) l hl)
  clear h hl
  go_enter Tryz.func210, Tryz.ntmps210
  go_wp2_with fail
  refine HS.out.mono ?_
  rintro e w' ⟨rfl, rfl⟩
  go_wp2_with fail
  refine HI.out.mono ?_
  rintro e w' ⟨rfl, rfl⟩
  go_wp2
  go_ret
  exact ⟨rfl, rfl⟩

/-! ### a buffer that the call owns -/
/-- The slice v owns the bytes l; of what was there in W0 nothing has turned. -/
def Buf (B : Nat) (v : Value) (l : List UInt8) (W0 w : World) : Prop := Lib.OwnBuf B 5 v l.length (l.map by8) W0 w
theorem Buf.put {B : Nat} {v : Value} {l : List UInt8} {W0 w : World} (c : UInt8) (h : Lib.OwnBuf B 5 v (l.length + 1) (l.map by8 ++ [.int .u8 (c.toNat : Int)]) W0 w) : Buf B v (l ++ [c]) W0 w := by
  unfold Buf
  rw [List.length_append, List.map_append]
  exact h
theorem strCells_list (t : List UInt8) : Lib.strCells (⟨t.toArray⟩ : ByteArray) = t.map by8 := rfl
theorem Buf.text {B : Nat} {v : Value} {l : List UInt8} {W0 w : World} (t : List UInt8) (h : Lib.OwnBuf B 5 v (l.length + (⟨t.toArray⟩ : ByteArray).size) (l.map by8 ++ Lib.strCells (⟨t.toArray⟩ : ByteArray)) W0 w) : Buf B v (l ++ t) W0 w := by
  unfold Buf
  rw [List.length_append, List.map_append, ← strCells_list t]
  exact h
theorem Buf.gr {v : Value} {l : List UInt8} {W0 w : World} (h : Buf W0.heap.size v l W0 w) : W0.grownBy w none := below_gr h.2.1
theorem Buf.nil (w : World) : Buf w.heap.size (.slice none 0 0) [] w w := ⟨World.ownsRowF_nil _ _ _ _, Below.refl _ _, Nat.le_refl _⟩
theorem Buf.alloc {B : Nat} {v : Value} {l : List UInt8} {W0 w : World} (h : Buf B v l W0 w) (o : Obj) : Buf B v l W0 (w.alloc o) := Lib.OwnBuf.alloc h o
theorem Buf.drew {B : Nat} {v : Value} {l : List UInt8} {W0 w : World} (h : Buf B v l W0 w) : Buf B v l W0 w.drew := Lib.OwnBuf.drewN h 1
/-- What only grew keeps it. -/
theorem Buf.kept {B : Nat} {v : Value} {l : List UInt8} {W0 w w' : World} (h : Buf B v l W0 w) (hg : w.grownBy w' none) : Buf B v l W0 w' :=
  ⟨h.1.kept hg (by cases hv : v.ownBlock <;> simp), h.2.1.grown hg h.2.2 (fun k hk => by cases hk), Nat.le_trans h.2.2 hg.size⟩
theorem Buf.isB {B : Nat} {v : Value} {l : List UInt8} {W0 w : World} (h : Buf B v l W0 w) (hne : l ≠ []) : ∃ A c, v = .slice A l.length c ∧ IsB w A c l := by
  have h2 := h.1.2
  have hpos : l.length ≠ 0 := fun h => hne (List.eq_nil_of_length_eq_zero h)
  rcases h2 with ⟨-, h0⟩ | ⟨g, cap, cur, fz, hv, -, hb, -, hle, hmx, hsz, htk⟩
  · omega
  · refine ⟨_, cap, hv, hle, hmx, fun _ => ⟨g, 0, cur, fz, rfl, hb, fun i hi => ?_⟩⟩
    rw [Nat.zero_add]
    have h3 : (cur.toList.take (l.length * 1))[i]? = some (by8 l[i]) := by
      rw [htk, List.getElem?_map, List.getElem?_eq_getElem hi]; rfl
    rw [Nat.mul_one, List.getElem?_take_of_lt hi] at h3
    simpa using h3

end Go.Proofs.YtlfeolfjlmelpaaGreatDoor
