import Derived.Test.YbulkcxfyR
namespace Go.Proofs.Ybulkcxfy
open Go.RowKit

/-- the sends of message k to 1 .. j, but not to me -/
def oth (me k : Int) : Nat → List (Int × Int)
  | 0 => []
  | j + 1 => oth me k j ++ (if (j : Int) + 1 = me then [] else [((j : Int) + 1, k)])
theorem oth_len (me k : Int) (hme : 1 ≤ me) : ∀ j : Nat, (oth me k j).length = if me ≤ j then j - 1 else j := by
  intro j
  induction j with
  | zero => simp [oth]
  | succ j ih =>
    rw [oth, List.length_append, ih]
    by_cases h : (j : Int) + 1 = me
    · rw [if_pos h, if_neg (by omega), if_pos (by omega)]; simp
    · rw [if_neg h]
      by_cases h2 : me ≤ j
      · rw [if_pos h2, if_pos (by omega)]; simp; omega
      · rw [if_neg h2, if_neg (by omega)]; simp
theorem oth_pre (me k : Int) (j : Nat) : ∀ N, j ≤ N → ∃ rest, oth me k N = oth me k j ++ rest := by
  intro N
  induction N with
  | zero => intro h; obtain rfl : j = 0 := by omega
            exact ⟨[], by simp⟩
  | succ N ih =>
    intro h
    rcases Nat.lt_or_ge j (N + 1) with h' | h'
    · obtain ⟨r, hr⟩ := ih (by omega)
      exact ⟨r ++ (if (N : Int) + 1 = me then [] else [((N : Int) + 1, k)]), by rw [oth, hr, List.append_assoc]⟩
    · obtain rfl : j = N + 1 := by omega
      exact ⟨[], by simp⟩
theorem oth_at (me k : Int) (j N : Nat) (hj : j < N) (hne : (j : Int) + 1 ≠ me) (pre post : List (Int × Int)) : (pre ++ (oth me k N ++ post))[pre.length + (oth me k j).length]? = some ((j : Int) + 1, k) := by
  obtain ⟨r, hr⟩ := oth_pre me k (j + 1) N hj
  rw [hr, oth, if_neg hne, List.getElem?_append_right (by omega), List.append_assoc, List.append_assoc, List.getElem?_append_right (by omega)]
  rw [show pre.length + (oth me k j).length - pre.length - (oth me k j).length = 0 by omega]
  rfl

set_option maxHeartbeats 2000000 in
set_option maxRecDepth 100000 in
theorem others_any (H R b N : Nat) (k me : Int) (L : List (Nat × Int)) (Sd : List (Int × Nat × Int)) (cs : List Value) (lv sv : Value) (w : World) (h : Rep H w R me N L Sd cs lv sv) (hb : Blk w b [.int .i64 k] 105) (hN : N ≤ 20) (hS : Sd.length ≤ 100) (hme : 1 ≤ me ∧ me ≤ N) :
    Calls Yba.prog 10 #[P0 R, Mg b] w fun e w' => e = .returned (.tuple #[]) ∧ (∃ cs' sv' Sd', Rep H w' R me N L Sd' cs' lv sv' ∧ KS Sd' = KS Sd ++ oth me k N) ∧ Below H w w' := by
  have HH := hide h
  have HB := hide hb
  clear h hb
  go_enter Yba.func10, Yba.ntmps10
  go_wp2
  go_loopg [4] N (fun kx s4 wr => ∃ (j : Nat) (cs' : List Value) (sv' : Value) (Sd' : List (Int × Nat × Int)), s4 = .int .i64 ((j : Int) + 1) ∧ j ≤ N ∧ N - j ≤ kx ∧ Hid (Rep H wr R me N L Sd' cs' lv sv') ∧ Hid (Blk wr b [.int .i64 k] 105) ∧
    Hid (KS Sd' = KS Sd ++ oth me k j) ∧ Hid (Below H w wr))
  case atStart => exact ⟨0, cs, sv, Sd, by go_num, Nat.zero_le _, by omega, HH, HB, by show _ = _; simp [oth], Below.refl _ _⟩
  case round =>
    obtain ⟨j, cs', sv', Sd', rfl, hj, hg, hrep, hblk, hKS, hbel⟩ := hrel
    have c0 : wr.cell? ⟨R, 0, none⟩ = some (.int .i64 me) := (hrep.out.box.cell 0).trans hrep.out.hself
    have c1 : wr.cell? ⟨R, 1, none⟩ = some (.int .i64 N) := (hrep.out.box.cell 1).trans hrep.out.hn
    rcases Nat.lt_or_ge j N with hlt | hge
    · by_cases heq : (j : Int) + 1 = me
      · have hb1 : ((j : Int) + 1 != me) = false := by simpa using heq
        have HE := hide heq
        clear heq
        go_wp2
        go_roundg (N - (j + 1))
        case measure => omega
        case rel => exact ⟨j + 1, cs', sv', Sd', by go_num, by omega, by omega, hrep, hblk, by show _ = _; rw [oth, if_pos HE.out, List.append_nil]; exact hKS.out, hbel⟩
      · have hb1 : ((j : Int) + 1 != me) = true := by simpa using heq
        have hl : Sd'.length ≤ 1000 := by
          rw [← KS_len, hKS.out, List.length_append, KS_len, oth_len me k hme.1]; split <;> omega
        have HC := hide (send_other H R b k ((j : Int) + 1) me N L Sd' cs' lv sv' wr hrep.out hblk.out (by omega) heq)
        have HE := hide heq
        clear heq
        go_wp2_with fail
        refine (unhide HC).mono ?_
        rintro e w' ⟨rfl, ⟨cs2, v2, hr⟩, hb'⟩
        have HR := hide hr
        have HK := hide (hr.msnd ((j : Int) + 1, b, k) (by simp))
        have HB2 := hide (hbel.out.trans hb')
        clear hr hb' HC hrep hblk hbel c0 c1
        go_wp2
        go_roundg (N - (j + 1))
        case measure => omega
        case rel => exact ⟨j + 1, cs2, v2, _, by go_num, by omega, by omega, HR, HK, by show _ = _; rw [KS_snoc, hKS.out, oth, if_neg HE.out, List.append_assoc], HB2⟩
    · obtain rfl : N = j := by omega
      go_wp2
      go_end0
      exact ⟨rfl, ⟨cs', sv', Sd', hrep.out, hKS.out⟩, hbel.out⟩

set_option maxHeartbeats 2000000 in
set_option maxRecDepth 100000 in
theorem broadcast_any (H R b N : Nat) (k me : Int) (L : List (Nat × Int)) (Sd : List (Int × Nat × Int)) (cs : List Value) (lv sv : Value) (w : World) (h : Rep H w R me N L Sd cs lv sv) (hb : Blk w b [.int .i64 k] 105) (hN : N ≤ 20) (hS : Sd.length ≤ 100) (hL : L.length ≤ 100) (hme : 1 ≤ me ∧ me ≤ N) :
    Calls Yba.prog 11 #[P0 R, Mg b] w fun e w' => e = .returned (.tuple #[]) ∧ (∃ cs' lv' sv' L' Sd', Rep H w' R me N L' Sd' cs' lv' sv' ∧ KS Sd' = KS Sd ++ oth me k N ∧ KL L' = KL L ++ [k]) ∧ Below H w w' := by
  have HH := hide h
  have HB := hide hb
  clear h hb
  go_enter Yba.func11, Yba.ntmps11
  go_wp2
  go_loopg [4] N (fun kx s4 wr => ∃ (j : Nat) (cs' : List Value) (lv' sv' : Value) (L' : List (Nat × Int)) (Sd' : List (Int × Nat × Int)), s4 = .int .i64 ((j : Int) + 1) ∧ j ≤ N ∧ N - j ≤ kx ∧ Hid (Rep H wr R me N L' Sd' cs' lv' sv') ∧ Hid (Blk wr b [.int .i64 k] 105) ∧
    Hid (KS Sd' = KS Sd ++ oth me k j) ∧ Hid (KL L' = KL L ++ (if me ≤ j then [k] else [])) ∧ Hid (Below H w wr))
  case atStart => exact ⟨0, cs, lv, sv, L, Sd, by go_num, Nat.zero_le _, by omega, HH, HB, by show _ = _; simp [oth], by show _ = _; rw [if_neg (by omega)]; simp, Below.refl _ _⟩
  case round =>
    obtain ⟨j, cs', lv', sv', L', Sd', rfl, hj, hg, hrep, hblk, hKS, hKL, hbel⟩ := hrel
    have c0 : wr.cell? ⟨R, 0, none⟩ = some (.int .i64 me) := (hrep.out.box.cell 0).trans hrep.out.hself
    have c1 : wr.cell? ⟨R, 1, none⟩ = some (.int .i64 N) := (hrep.out.box.cell 1).trans hrep.out.hn
    rcases Nat.lt_or_ge j N with hlt | hge
    · by_cases heq : (j : Int) + 1 = me
      · have hl : L'.length ≤ 1000 := by
          rw [← KL_len, hKL.out, List.length_append, KL_len]; split <;> simp <;> omega
        have HC := hide (send_self' H R b k ((j : Int) + 1) me N L' Sd' cs' lv' sv' wr hrep.out hblk.out (by omega) heq)
        have HE := hide heq
        clear heq
        go_wp2_with fail
        refine (unhide HC).mono ?_
        rintro e w' ⟨rfl, ⟨cs2, v2, hr⟩, hb'⟩
        have HR := hide hr
        have HK := hide (hr.mloc (b, k) (by simp))
        have HB2 := hide (hbel.out.trans hb')
        clear hr hb' HC hrep hblk hbel c0 c1
        go_wp2
        go_roundg (N - (j + 1))
        case measure => omega
        case rel => exact ⟨j + 1, cs2, v2, sv', _, Sd', by go_num, by omega, by omega, HR, HK, by show _ = _; rw [oth, if_pos HE.out, List.append_nil]; exact hKS.out, by
          have := HE.out
          show _ = _
          rw [KL_snoc, hKL.out, if_neg (by omega), if_pos (by omega), List.append_nil], HB2⟩
      · have hl : Sd'.length ≤ 1000 := by
          rw [← KS_len, hKS.out, List.length_append, KS_len, oth_len me k hme.1]; split <;> omega
        have HC := hide (send_other H R b k ((j : Int) + 1) me N L' Sd' cs' lv' sv' wr hrep.out hblk.out (by omega) heq)
        have HE := hide heq
        clear heq
        go_wp2_with fail
        refine (unhide HC).mono ?_
        rintro e w' ⟨rfl, ⟨cs2, v2, hr⟩, hb'⟩
        have HR := hide hr
        have HK := hide (hr.msnd ((j : Int) + 1, b, k) (by simp))
        have HB2 := hide (hbel.out.trans hb')
        clear hr hb' HC hrep hblk hbel c0 c1
        go_wp2
        go_roundg (N - (j + 1))
        case measure => omega
        case rel => exact ⟨j + 1, cs2, lv', v2, L', _, by go_num, by omega, by omega, HR, HK, by show _ = _; rw [KS_snoc, hKS.out, oth, if_neg HE.out, List.append_assoc], by
          have := HE.out
          show _ = _
          rw [hKL.out]
          by_cases h2 : me ≤ j
          · rw [if_pos h2, if_pos (by omega)]
          · rw [if_neg h2, if_neg (by omega)], HB2⟩
    · obtain rfl : N = j := by omega
      go_wp2
      go_end0
      exact ⟨rfl, ⟨cs', lv', sv', L', Sd', hrep.out, hKS.out, by rw [hKL.out, if_pos hme.2]⟩, hbel.out⟩
end Go.Proofs.Ybulkcxfy
