import Derived.Test.YbulkcxfyO
namespace Go.Proofs.Ybulkcxfy
open Go.RowKit

set_option maxHeartbeats 8000000 in
set_option maxRecDepth 100000 in
theorem others_walk (a0 a1 : Int) (w : World) (h0 : 0 ≤ a0 ∧ a0 ≤ 255) (h1 : 0 ≤ a1 ∧ a1 ≤ 255) :
    Calls Yba.prog 6 #[.int .u8 a0, .int .u8 a1] w fun e w' => e = .returned (.bool true) ∧ Below w.heap.size w w' := by
  have hn : 3 ≤ 3 + a0 % 11 ∧ 3 + a0 % 11 ≤ 13 := by omega
  have hs : 1 ≤ a1 % (3 + a0 % 11) + 1 ∧ a1 % (3 + a0 % 11) + 1 ≤ 3 + a0 % 11 := by
    have := Int.emod_nonneg a1 (show (3 + a0 % 11) ≠ 0 by omega)
    have := Int.emod_lt_of_pos a1 (show 0 < (3 + a0 % 11) by omega)
    omega
  obtain ⟨arr, hbuild, ha0, ha1, ha2, ha3, ha4⟩ := build_two (a1 % (3 + a0 % 11) + 1) (3 + a0 % 11)
  have HBD := hide hbuild
  have HA := hide (And.intro ha0 (And.intro ha1 (And.intro ha2 (And.intro ha3 ha4))))
  clear hbuild ha0 ha1 ha2 ha3 ha4
  go_enter Yba.func6, Yba.ntmps6
  go_wp2_with (first | (refine wpList_value rfl _ (exec_build2 (s := .tmp 28) (t := .tmp 29) rfl rfl rfl HBD.out) ?_) | (refine wpList_value rfl _ (exec_box (s := .tmp 30) rfl rfl) ?_))
  clear HBD
  generalize a1 % (3 + a0 % 11) + 1 = me at hs HA ⊢
  generalize 3 + a0 % 11 = z at hn hs HA ⊢
  obtain ⟨N, rfl⟩ : ∃ N : Nat, z = N := ⟨z.toNat, by omega⟩
  have hrep0 := (rep_start w arr me N HA.out.1 HA.out.2.1 HA.out.2.2.1 HA.out.2.2.2.1 HA.out.2.2.2.2).alloc (.cells #[.int .i64 1] 105)
  have hbel0 : Below w.heap.size w ((w.alloc (.cells arr 102)).alloc (.cells #[.int .i64 1] 105)) := ((Below.refl _ _).alloc (Nat.le_refl _) _).alloc (by simp) _
  have nb : Blk ((w.alloc (.cells arr 102)).alloc (.cells #[.int .i64 1] 105)) (w.heap.size + 1) [.int .i64 1] 105 := by simpa using Blk.new (w.alloc (.cells arr 102)) #[.int .i64 1] 105
  have hC := others_any w.heap.size w.heap.size (w.heap.size + 1) N 1 me [] [] _ _ _ _ hrep0 nb (by omega) (by simp) hs
  refine hC.mono ?_
  rintro e w1 ⟨rfl, ⟨cs, sv, Sd, hr, hKS⟩, hb⟩
  obtain ⟨so, sl, rfl⟩ := own_shape hr.snd
  have c36 : w1.cell? ⟨w.heap.size, 36, none⟩ = some (.slice none 0 0) := (hr.box.cell 36).trans hr.hlv
  have c38 : w1.cell? ⟨w.heap.size, 38, none⟩ = some (.slice so Sd.length sl) := (hr.box.cell 38).trans hr.hsv
  have hSl : Sd.length = N - 1 := by rw [← KS_len, hKS]; simp only [KS, List.map_nil, List.nil_append]; rw [oth_len me 1 hs.1, if_pos (by omega)]
  have hSz : (((Sd.length : Nat) : Int) != (N : Int) - 1) = false := by simp; omega
  have hSb : Sd.length ≤ 20 := by omega
  have HSl := hide hSl
  have HKS : Hid (KS Sd = oth me 1 N) := by show _ = _; rw [hKS]; simp [KS]
  have HR := hide hr
  have HB := hide (hbel0.trans hb)
  clear hC hrep0 hbel0 nb hr hb hKS hSl HA
  go_wp2
  go_loopg [9, 10] N (fun kx s9 s10 wr => ∃ (j idx : Nat), s10 = .int .i64 ((j : Int) + 1) ∧ s9 = .int .i64 idx ∧ j ≤ N ∧ N - j ≤ kx ∧ w1 = wr ∧ idx ≤ 20 ∧ Hid (idx = (oth me 1 j).length))
  case atStart => exact ⟨0, 0, by go_num, rfl, Nat.zero_le _, by omega, rfl, by omega, rfl⟩
  case round =>
    obtain ⟨j, idx, rfl, rfl, hj, hg, rfl, hi, hidx⟩ := hrel
    rcases Nat.lt_or_ge j N with hlt | hge
    · by_cases heq : (j : Int) + 1 = me
      · have hb1 : ((j : Int) + 1 == me) = true := by simpa using heq
        have HE := hide heq
        clear heq
        go_wp2
        go_roundg (N - (j + 1))
        case measure => omega
        case rel => exact ⟨j + 1, idx, by go_num, rfl, by omega, by omega, rfl, hi, by show _ = _; rw [oth, if_pos HE.out, List.append_nil]; exact hidx.out⟩
      · have hb1 : ((j : Int) + 1 == me) = false := by simpa using heq
        have hat := oth_at me 1 j N hlt heq [] []
        rw [List.nil_append, List.append_nil, List.length_nil, Nat.zero_add, ← hidx.out, ← HKS.out] at hat
        have hlt2 : idx < Sd.length := by have := (List.getElem?_eq_some_iff.1 hat).1; rwa [KS_len] at this
        obtain ⟨g, bm, rfl, x0, x1, hbm⟩ := HR.out.readSnd idx ((j : Int) + 1) 1 hat
        have K1 := hide (k_any bm 1 w1 hbm)
        have NI : Hid (idx + 1 = (oth me 1 (j + 1)).length) := by show _ = _; rw [oth, if_neg heq, List.length_append, ← hidx.out]; rfl
        have hz : (idx : Int) < (Sd.length : Int) := by omega
        clear hat hbm heq hidx
        go_wp2_with fail
        refine (unhide K1).mono ?_
        rintro e w' ⟨rfl, rfl⟩
        clear K1
        go_wp2
        go_roundg (N - (j + 1))
        case measure => omega
        case rel => exact ⟨j + 1, idx + 1, by go_num, by go_num, by omega, by omega, rfl, by omega, NI⟩
    · obtain rfl : N = j := by omega
      clear hg hj hge hSz
      have nb := Blk.new w1 #[.int .i64 2] 105
      have hw1 := HR.out.box.lt
      have hC := hide (broadcast_any w.heap.size w.heap.size w1.heap.size N 2 me [] Sd cs _ _ _ (HR.out.alloc (.cells #[.int .i64 2] 105)) nb (by omega) (by omega) (by simp) hs)
      clear nb
      go_wp2_with fail
      refine (unhide hC).mono ?_
      rintro e w2 ⟨rfl, ⟨cs2, lv2, sv2, L2, Sd2, hr2, hKS2, hKL2⟩, hb2⟩
      obtain ⟨so2, sl2, rfl⟩ := own_shape hr2.snd
      obtain ⟨lo2, ll2, rfl⟩ := own_shape hr2.loc
      have hL2 : L2.length = 1 := by rw [← KL_len, hKL2]; simp [KL]
      have hS2 : Sd2.length = 2 * (N - 1) := by rw [← KS_len, hKS2, List.length_append, KS_len, HSl.out, oth_len me 2 hs.1, if_pos (by omega)]; omega
      have d36 : w2.cell? ⟨w.heap.size, 36, none⟩ = some (.slice lo2 L2.length ll2) := (hr2.box.cell 36).trans hr2.hlv
      have d38 : w2.cell? ⟨w.heap.size, 38, none⟩ = some (.slice so2 Sd2.length sl2) := (hr2.box.cell 38).trans hr2.hsv
      obtain ⟨g, bm, rfl, x1, hbm⟩ := hr2.readLoc 0 2 (by rw [hKL2]; rfl)
      have K1 := hide (k_any bm 2 w2 hbm)
      have hS2b : Sd2.length ≤ 40 := by omega
      have hL2z : ((L2.length : Int) != 1) = false := by simp; omega
      have hL20 : (0 : Int) < (L2.length : Int) := by omega
      have hS2z : ((Sd2.length : Int) != 2 * ((N : Int) - 1)) = false := by simp; omega
      have R2 := hide hr2
      have HB2 := hide ((HB.out.alloc (by omega) _).trans hb2)
      have HK2 : Hid (KS Sd2 = oth me 1 N ++ oth me 2 N) := by show _ = _; rw [hKS2, HKS.out]
      have eidx : idx = N - 1 := by rw [hidx.out, oth_len me 1 hs.1, if_pos (by omega)]
      have HEI := hide hidx.out
      clear hC hr2 hb2 hKS2 hKL2 hL2 hS2 hbm HR HB HKS HSl c36 c38 hidx eidx
      go_wp2_with fail
      refine (unhide K1).mono ?_
      rintro e w' ⟨rfl, rfl⟩
      clear K1
      go_wp2
      go_loopg [9, 16] N (fun kx s9 s16 wr => ∃ (j jdx : Nat), s16 = .int .i64 ((j : Int) + 1) ∧ s9 = .int .i64 jdx ∧ j ≤ N ∧ N - j ≤ kx ∧ w' = wr ∧ jdx ≤ 40 ∧ Hid (jdx = (oth me 1 N).length + (oth me 2 j).length))
      case atStart => exact ⟨0, idx, by go_num, rfl, Nat.zero_le _, by omega, rfl, by omega, by show _ = _; rw [HEI.out]; rfl⟩
      case round =>
        obtain ⟨j, jdx, rfl, rfl, hj, hg, rfl, hi2, hidx⟩ := hrel
        rcases Nat.lt_or_ge j N with hlt | hge
        · by_cases heq : (j : Int) + 1 = me
          · have hb1 : ((j : Int) + 1 == me) = true := by simpa using heq
            have HE := hide heq
            clear heq
            go_wp2
            go_roundg (N - (j + 1))
            case measure => omega
            case rel => exact ⟨j + 1, jdx, by go_num, rfl, by omega, by omega, rfl, hi2, by show _ = _; rw [oth, if_pos HE.out, List.append_nil]; exact hidx.out⟩
          · have hb1 : ((j : Int) + 1 == me) = false := by simpa using heq
            have hat := oth_at me 2 j N hlt heq (oth me 1 N) []
            rw [List.append_nil, ← hidx.out, ← HK2.out] at hat
            have hlt2 : jdx < Sd2.length := by have := (List.getElem?_eq_some_iff.1 hat).1; rwa [KS_len] at this
            obtain ⟨g, bm, rfl, x0, x1, hbm⟩ := R2.out.readSnd jdx ((j : Int) + 1) 2 hat
            have K1 := hide (k_any bm 2 w' hbm)
            have NI : Hid (jdx + 1 = (oth me 1 N).length + (oth me 2 (j + 1)).length) := by show _ = _; rw [oth, if_neg heq, List.length_append, hidx.out]; simp; omega
            have hz : (jdx : Int) < (Sd2.length : Int) := by omega
            clear hat hbm heq hidx
            go_wp2_with fail
            refine (unhide K1).mono ?_
            rintro e w'' ⟨rfl, rfl⟩
            clear K1
            go_wp2
            go_roundg (N - (j + 1))
            case measure => omega
            case rel => exact ⟨j + 1, jdx + 1, by go_num, by go_num, by omega, by omega, rfl, by omega, NI⟩
        · obtain rfl : N = j := by omega
          go_wp2
          go_ret
          exact ⟨rfl, HB2.out⟩
end Go.Proofs.Ybulkcxfy
