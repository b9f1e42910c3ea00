import Derived.Test.YbulkcxhaN
namespace Go.Proofs.Ybulkcxha
open Go.RowKit

theorem and_ex (a b : Nat) (ha : a < 18446744073709551616) (hb : b < 18446744073709551616) : ∃ c : Nat, c ≤ b ∧ bits .and .u64 (a : Int) (b : Int) = (c : Int) :=
  ⟨a &&& b, Nat.and_le_right, bits_and_u64_nat a b ha hb⟩

set_option maxHeartbeats 8000000 in
theorem break_any (b off n cap x L : Nat) (pre post : List Value) (d : Array Int) (w0 w : World) (hR : Rw w0 w b pre d post) (ho : off = pre.length) (hn : n = d.size) (hL : 12 < L) (hy : x + L ≤ n) (hsz : n ≤ 100000) :
    Calls Yba.prog 18 #[.slice (some ⟨b, off, none⟩) n cap, .int .i64 x, .int .i64 ((x + L : Nat) : Int)] w fun e w' => e = .returned (.tuple #[]) ∧ ∃ d', Rw w0 w' b pre d' post ∧ Sort.PermIn x (x + L) d d' := by
  have HR := hide hR
  have HO := hide ho
  have HN := hide hn
  have hne : b ≠ w.heap.size := by have := hR.lt; omega
  have hsb : w0.heap.size ≤ w.heap.size := hR.fx.size
  clear hR ho hn
  obtain ⟨q, hq⟩ : ∃ q, q = L / 4 := ⟨_, rfl⟩
  have hq1 : 4 * q ≤ L := by omega
  have hq2 : L < 4 * q + 4 := by omega
  have e1 : (x : Int) + (L : Int) - (x : Int) = (L : Int) := by omega
  have e4 : (L : Int).tdiv 4 = (q : Int) := by rw [hq]; rfl
  have e4' : (L : Int) / 4 = (q : Int) := by omega
  clear hq
  have g8 : (8 : Int) ≤ (L : Int) := by omega
  go_enter Yba.func18, Yba.ntmps18
  go_wp2_with fail
  refine (npow_any L _ (by omega) (by omega)).mono ?_
  rintro e w1 ⟨m, hm, rfl, rfl⟩
  have RA := hide (HR.out.alloc (.cells #[.int .u64 L] 68))
  have BA : Hid (Blk (w.alloc (.cells #[.int .u64 L] 68)) w.heap.size [.int .u64 L] 68) := Blk.new w #[.int .u64 L] 68
  generalize w.alloc (.cells #[.int .u64 L] 68) = wA at RA BA ⊢
  generalize w.heap.size = sb at hne hsb BA ⊢
  go_wp2
  go_loopg [9] 4 (fun kx s9 wr => ∃ (k X : Nat) (dk : Array Int), s9 = .int .i64 k ∧ x ≤ k ∧ k ≤ x + q * 2 + 2 ∧ x + q * 2 + 2 - k ≤ kx ∧ X < 18446744073709551616 ∧ Hid (Blk wr sb [.int .u64 X] 68) ∧ Hid (Rw w0 wr b pre dk post) ∧ Hid (dk.size = n) ∧ Hid (Sort.PermIn x (x + L) d dk))
  case atStart => exact ⟨x + q * 2 - 1, L, d, by go_num, by omega, by omega, by omega, by omega, BA, RA, HN.out.symm, Sort.permIn_refl _ _ _⟩
  case round =>
    obtain ⟨k, X, dk, rfl, hk1, hk2, hg, hX, hB, hrw, hs, hP⟩ := hrel
    rcases Nat.lt_or_ge (x + q * 2 + 1) k with hgt | hle
    · have hgi : decide ((k : Int) ≤ (x : Int) + (q : Int) * 2 + 1) = false := by simp; omega
      have hgi2 : (x : Int) + (q : Int) * 2 + 1 < (k : Int) := by omega
      clear hgt
      go_wp2
      go_end0
      exact ⟨rfl, dk, hrw.out, hP.out⟩
    · have hgi : (k : Int) ≤ (x : Int) + (q : Int) * 2 + 1 := by omega
      clear hle
      go_wp2_with fail
      refine (next_any sb X hX _ (hB.out.cell 0) (hB.out.free 0)).mono ?_
      rintro e w2 ⟨Z, hZ, rfl, rfl⟩
      have R3 := hide ((hrw.out.setNew ⟨sb, 0, none⟩ hne hsb (.int .u64 Z)).drewN 3)
      have B3 : Hid (Blk ((wr.setCell ⟨sb, 0, none⟩ (.int .u64 Z)).drewN 3) sb [.int .u64 Z] 68) := (hB.out.set 0 (.int .u64 Z)).alike rfl
      generalize (wr.setCell ⟨sb, 0, none⟩ (.int .u64 Z)).drewN 3 = w3 at R3 B3 ⊢
      clear hB hrw
      obtain ⟨o, ho, hand⟩ := and_ex Z m hZ (by omega)
      have hwm : IntKind.u64.wrap ((m : Int) + 1 - 1) = (m : Int) := by rw [IntKind.wrap_u64]; omega
      have hwm2 : (m : Int) + 1 - 1 = (m : Int) := by omega
      rcases Nat.lt_or_ge o L with hol | hol
      · have hgo : (o : Int) < (L : Int) := by omega
        have c0 := R3.out.cell HO.out k (by have := hs.out; omega)
        have c1 := R3.out.cell HO.out (x + o) (by have := hs.out; omega)
        have f0 := R3.out.free (off + k)
        have f1 := R3.out.free (off + (x + o))
        have SW := hide (R3.out.swap HO.out k (x + o) (by have := hs.out; omega) (by have := hs.out; omega))
        have c2 := R3.out.cell2 HO.out k (x + o) (by have := hs.out; omega) (by have := hs.out; omega) dk[x + o]!
        have PM : Hid (Sort.PermIn x (x + L) d (Sort.swp dk k (x + o))) := Sort.permIn_trans _ _ _ _ _ hP.out (Sort.swp_permIn dk x (x + L) k (x + o) (by omega) (by omega) (by omega) (by omega) (by have := hs.out; omega))
        generalize (dk.setIfInBounds k dk[x + o]!)[x + o]! = z at c2
        generalize dk[k]! = u at c0 SW
        generalize dk[x + o]! = v at c1 c2 SW
        have p0 : (0 : Int) ≤ (x : Int) + (o : Int) := by omega
        have n0 : ((x : Int) + (o : Int)).toNat = x + o := by omega
        have hz0 : (x : Int) + (o : Int) < (n : Int) := by omega
        have hz1 : (k : Int) < (n : Int) := by omega
        go_wp2_with fail
        go_big_region
        go_wp2
        go_roundg (x + q * 2 + 2 - (k + 1))
        case measure => omega
        case rel => exact ⟨k + 1, Z, _, by go_num, by omega, by omega, by omega, hZ, ((B3.out.other _ hne.symm _).other _ hne.symm _).alike rfl, SW.out.alike rfl rfl rfl rfl, by show _ = _; rw [Sort.size_swp]; exact hs.out, PM⟩
      · obtain ⟨t, rfl⟩ : ∃ t, o = L + t := ⟨o - L, by omega⟩
        have hgo : (L : Int) ≤ (L : Int) + (t : Int) := by omega
        have e6 : (L : Int) + (t : Int) - (L : Int) = (t : Int) := by omega
        have c0 := R3.out.cell HO.out k (by have := hs.out; omega)
        have c1 := R3.out.cell HO.out (x + t) (by have := hs.out; omega)
        have f0 := R3.out.free (off + k)
        have f1 := R3.out.free (off + (x + t))
        have SW := hide (R3.out.swap HO.out k (x + t) (by have := hs.out; omega) (by have := hs.out; omega))
        have c2 := R3.out.cell2 HO.out k (x + t) (by have := hs.out; omega) (by have := hs.out; omega) dk[x + t]!
        have PM : Hid (Sort.PermIn x (x + L) d (Sort.swp dk k (x + t))) := Sort.permIn_trans _ _ _ _ _ hP.out (Sort.swp_permIn dk x (x + L) k (x + t) (by omega) (by omega) (by omega) (by omega) (by have := hs.out; omega))
        generalize (dk.setIfInBounds k dk[x + t]!)[x + t]! = z at c2
        generalize dk[k]! = u at c0 SW
        generalize dk[x + t]! = v at c1 c2 SW
        have p0 : (0 : Int) ≤ (x : Int) + (t : Int) := by omega
        have n0 : ((x : Int) + (t : Int)).toNat = x + t := by omega
        have hz0 : (x : Int) + (t : Int) < (n : Int) := by omega
        have hz1 : (k : Int) < (n : Int) := by omega
        go_wp2_with fail
        go_big_region
        go_wp2
        go_roundg (x + q * 2 + 2 - (k + 1))
        case measure => omega
        case rel => exact ⟨k + 1, Z, _, by go_num, by omega, by omega, by omega, hZ, ((B3.out.other _ hne.symm _).other _ hne.symm _).alike rfl, SW.out.alike rfl rfl rfl rfl, by show _ = _; rw [Sort.size_swp]; exact hs.out, PM⟩
end Go.Proofs.Ybulkcxha
