import Derived.Test.YbulkcxhaR
import Derived.Lib.Strings
import Derived.Lib.Slices
import Derived.Lib.Small
import Derived.Lib.Walk
import Derived.Lib.BitFns
import Derived.Laws.Bits64b
import Derived.Sort.Row
namespace Go.Proofs.Ybulkcxha
open Go.RowKit

theorem tab_at (e : Int) (h0 : 0 ≤ e) (h1 : e < 256) (hb : e.toNat < Lib.len8tab.size) : ((Lib.len8tab[e.toNat]'hb).toNat : Int) = (Lib.bitLen e.toNat : Int) := by
  rw [← Lib.len8_of e h0 (by omega), Lib.len8, getElem?_pos Lib.len8tab e.toNat hb]
  rfl

set_option maxHeartbeats 4000000 in
set_option maxRecDepth 100000 in
theorem len64_any (x : Int) (w : World) (h0 : 0 ≤ x) (h1 : x ≤ 1000000) :
    Calls Yba.prog 26 #[.int .u64 x] w fun e w' => e = .returned (.int .i64 (Lib.bitLen x.toNat)) ∧ w' = w := by
  have ts : (Lib.len8tab.size : Int) = 256 := by rw [Lib.len8tab_size]; rfl
  go_enter Yba.func26, Yba.ntmps26
  go_wp2
  all_goals (go_ret; refine ⟨congrArg Ending.returned (congrArg (Value.int IntKind.i64) ?_), rfl⟩)
  · rw [tab_at (x / 65536) (by omega) (by omega)]
    have e : (x / 65536).toNat = x.toNat / 65536 := by omega
    have l := Lib.bitLen_le8' (x / 65536) (by omega) (by omega)
    have s := Lib.bitLen_shift16 x.toNat (by omega) (by omega)
    rw [e] at l ⊢
    unfold wrap64
    omega
  · rw [tab_at (x / 256) (by omega) (by omega)]
    have e : (x / 256).toNat = x.toNat / 256 := by omega
    have l := Lib.bitLen_le8' (x / 256) (by omega) (by omega)
    have s := Lib.bitLen_shift8 x.toNat (by omega) (by omega)
    rw [e] at l ⊢
    unfold wrap64
    omega
  · rw [tab_at x (by omega) (by omega)]
    have l := Lib.bitLen_le8' x (by omega) (by omega)
    unfold wrap64
    omega

set_option maxHeartbeats 4000000 in
theorem len_any (x : Int) (w : World) (h0 : 0 ≤ x) (h1 : x ≤ 1000000) :
    Calls Yba.prog 13 #[.int .u64 x] w fun e w' => e = .returned (.int .i64 (Lib.bitLen x.toNat)) ∧ w' = w := by
  go_enter Yba.func13, Yba.ntmps13
  go_wp2_with fail
  refine (len64_any x _ h0 h1).mono ?_
  rintro e w' ⟨rfl, rfl⟩
  go_wp2
  go_ret
  exact ⟨rfl, rfl⟩

theorem setset (w : World) (blk off : Nat) (v v' : Value) : (w.setCell ⟨blk, off, none⟩ v).setCell ⟨blk, off, none⟩ v' = w.setCell ⟨blk, off, none⟩ v' := by
  rw [Sort.setCell_eq, Sort.setCell_eq, Sort.mapBlock_mapBlock, Sort.setCell_eq]
  congr 1
  funext c
  simp

theorem xor_ex (a b : Nat) (ha : a < 18446744073709551616) (hb : b < 18446744073709551616) : ∃ c : Nat, c < 18446744073709551616 ∧ bits .xor .u64 (a : Int) (b : Int) = (c : Int) :=
  ⟨a ^^^ b, Nat.xor_lt_two_pow (n := 64) ha hb, bits_xor_u64_nat a b ha hb⟩

set_option maxHeartbeats 4000000 in
theorem next_any (rb X : Nat) (hX : X < 18446744073709551616) (w : World) (hc : w.cell? ⟨rb, 0, none⟩ = some (.int .u64 X)) (hf : w.frozen? ⟨rb, 0, none⟩ = false) :
    Calls Yba.prog 32 #[.pointer (some ⟨rb, 0, none⟩)] w fun e w' => ∃ Z : Nat, Z < 18446744073709551616 ∧ e = .returned (.int .u64 Z) ∧ w' = (w.setCell ⟨rb, 0, none⟩ (.int .u64 Z)).drewN 3 := by
  obtain ⟨A, lA, e1⟩ := xor_ex X (X * 8192 % 18446744073709551616) hX (by omega)
  obtain ⟨B, lB, e2⟩ := xor_ex A (A / 128) lA (by omega)
  obtain ⟨C, lC, e3⟩ := xor_ex B (B * 131072 % 18446744073709551616) lB (by omega)
  have g1 : IntKind.u64.wrap ((X : Int) * 8192) = ((X * 8192 % 18446744073709551616 : Nat) : Int) := by rw [IntKind.wrap_u64]; omega
  have g2 : ((A : Int) / 128) = ((A / 128 : Nat) : Int) := by omega
  have g3 : IntKind.u64.wrap ((B : Int) * 131072) = ((B * 131072 % 18446744073709551616 : Nat) : Int) := by rw [IntKind.wrap_u64]; omega
  rw [← g1] at e1
  rw [← g2] at e2
  rw [← g3] at e3
  clear g1 g2 g3
  have hss : ∀ v v', (w.setCell ⟨rb, 0, none⟩ v).setCell ⟨rb, 0, none⟩ v' = w.setCell ⟨rb, 0, none⟩ v' := setset w rb 0
  go_enter Yba.func32, Yba.ntmps32
  go_wp2
  go_region
  all_goals go_wp2
  all_goals go_region
  all_goals go_wp2
  all_goals go_region
  all_goals go_wp2
  go_ret
  exact ⟨C, lC, rfl, rfl⟩
end Go.Proofs.Ybulkcxha
