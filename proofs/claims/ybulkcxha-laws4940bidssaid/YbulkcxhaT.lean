import Derived.Test.YbulkcxhaE
import Derived.Deep.Cut
namespace Go.Proofs.Ybulkcxha
open Go.RowKit

theorem ssort_go (d : Array Int) (y i : Nat) (h : i < y) (hp : Sort.ltInt d[i]! d[i - 1]! = false) : Sort.scanSorted Sort.ltInt d y i = Sort.scanSorted Sort.ltInt d y (i + 1) := by
  rw [Sort.scanSorted]
  simp [h, hp]
theorem ssort_stop (d : Array Int) (y i : Nat) (h : y ≤ i ∨ Sort.ltInt d[i]! d[i - 1]! = true) : Sort.scanSorted Sort.ltInt d y i = i := by
  rw [Sort.scanSorted]
  rcases h with h | h
  · simp [show ¬ i < y by omega]
  · simp [h]
theorem sdown_go (d : Array Int) (j : Nat) (h : 1 ≤ j) (hp : Sort.ltInt d[j]! d[j - 1]! = true) : Sort.shiftDown Sort.ltInt j d = Sort.shiftDown Sort.ltInt (j - 1) (Sort.swp d j (j - 1)) := by
  obtain ⟨k, rfl⟩ : ∃ k, j = k + 1 := ⟨j - 1, by omega⟩
  rw [Sort.shiftDown]
  simp only [Nat.add_sub_cancel] at hp ⊢
  simp [hp]
theorem sdown_stop (d : Array Int) (j : Nat) (h : j = 0 ∨ Sort.ltInt d[j]! d[j - 1]! = false) : Sort.shiftDown Sort.ltInt j d = d := by
  cases j with
  | zero => rw [Sort.shiftDown]
  | succ k =>
    rw [Sort.shiftDown]
    simp only [Nat.add_sub_cancel] at h
    rcases h with h | h
    · omega
    · simp [h]
theorem sup_go (d : Array Int) (y j : Nat) (h : j < y) (hp : Sort.ltInt d[j]! d[j - 1]! = true) : Sort.shiftUp Sort.ltInt y j d = Sort.shiftUp Sort.ltInt y (j + 1) (Sort.swp d j (j - 1)) := by
  rw [Sort.shiftUp, if_pos h]
  simp [hp]
theorem sup_stop (d : Array Int) (y j : Nat) (h : y ≤ j ∨ Sort.ltInt d[j]! d[j - 1]! = false) : Sort.shiftUp Sort.ltInt y j d = d := by
  rw [Sort.shiftUp]
  rcases h with h | h
  · rw [if_neg (by omega)]
  · simp [h]
theorem pins_go (x y c i i2 : Nat) (d d2 : Array Int) (h2 : i2 = Sort.scanSorted Sort.ltInt d y i) (hc : c < 5) (hne : i2 ≠ y) (h50 : 50 ≤ y - x) (hd : Sort.fixUp Sort.ltInt y i2 (Sort.fixDown Sort.ltInt x i2 (Sort.swp d i2 (i2 - 1))) = d2) :
    Sort.partialIns Sort.ltInt x y (5 - c) i d = Sort.partialIns Sort.ltInt x y (5 - (c + 1)) i2 d2 := by
  rw [show 5 - c = (5 - (c + 1)) + 1 by omega, Sort.partialIns_succ, ← h2, if_neg hne, if_neg (by omega), hd]
theorem pins_true (x y c i i2 : Nat) (d : Array Int) (h2 : i2 = Sort.scanSorted Sort.ltInt d y i) (hc : c < 5) (hne : i2 = y) :
    Sort.partialIns Sort.ltInt x y (5 - c) i d = (d, true) := by
  rw [show 5 - c = (5 - (c + 1)) + 1 by omega, Sort.partialIns_succ, ← h2, if_pos hne]
theorem pins_false (x y c i i2 : Nat) (d : Array Int) (h2 : i2 = Sort.scanSorted Sort.ltInt d y i) (hc : c < 5) (hne : i2 ≠ y) (h50 : y - x < 50) :
    Sort.partialIns Sort.ltInt x y (5 - c) i d = (d, false) := by
  rw [show 5 - c = (5 - (c + 1)) + 1 by omega, Sort.partialIns_succ, ← h2, if_neg hne, if_pos h50]

set_option maxHeartbeats 16000000 in
set_option maxRecDepth 100000 in
theorem pins_any (b off n cap x y : Nat) (pre post : List Value) (d : Array Int) (w0 w : World) (hR : Rw w0 w b pre d post) (ho : off = pre.length) (hn : n = d.size) (hxy : x < y) (hy : y ≤ n) (hsz : n ≤ 100000) :
    Calls Yba.prog 21 #[.slice (some ⟨b, off, none⟩) n cap, .int .i64 x, .int .i64 y] w fun e w' => e = .returned (.bool (Sort.partialInsertionSort Sort.ltInt d x y).2) ∧ Rw w0 w' b pre (Sort.partialInsertionSort Sort.ltInt d x y).1 post := by
  have HR := hide hR
  have HO := hide ho
  have HN := hide hn
  clear hR ho hn
  have HP : Hid (Sort.partialInsertionSort Sort.ltInt d x y = Sort.partialIns Sort.ltInt x y (5 - 0) (x + 1) d) := rfl
  generalize Sort.partialInsertionSort Sort.ltInt d x y = Q at HP ⊢
  go_enter Yba.func21, Yba.ntmps21
  go_wp2_with fail
  go_loopg [7, 8] 6 (fun kx s7 s8 wr => ∃ (i c : Nat) (dk : Array Int), s7 = .int .i64 i ∧ s8 = .int .i64 c ∧ x < i ∧ i ≤ y ∧ c ≤ 5 ∧ 5 - c ≤ kx ∧ Hid (dk.size = n) ∧ Hid (Rw w0 wr b pre dk post) ∧ Hid (Q = Sort.partialIns Sort.ltInt x y (5 - c) i dk))
  case atStart => exact ⟨x + 1, 0, d, by go_num, by go_num, by omega, by omega, by omega, by omega, HN.out.symm, HR, HP⟩
  case round =>
    obtain ⟨i, c, dk, rfl, rfl, hi1, hi2, hc, hg, hs, hrw, hI⟩ := hrel
    rcases Nat.lt_or_ge c 5 with hc5 | hc5
    · have hci : (c : Int) < 5 := by omega
      go_upto_block 2 with fail
      go_cut [7] from 13 to 132 (fun sc wc => ∃ k : Nat, sc = .int .i64 (k : Nat) ∧ x < k ∧ k ≤ y ∧ Hid (k = Sort.scanSorted Sort.ltInt dk y i) ∧ Hid (Rw w0 wc b pre dk post))
      case first =>
        go_wp2_with fail
        go_loopg [7] (n + 2) (fun kx sc wr => ∃ k : Nat, sc = .int .i64 (k : Nat) ∧ x < k ∧ k ≤ y ∧ n + 1 - k ≤ kx ∧ Hid (Rw w0 wr b pre dk post) ∧ Hid (Sort.scanSorted Sort.ltInt dk y i = Sort.scanSorted Sort.ltInt dk y k))
        case atStart => exact ⟨i, by go_num, by omega, by omega, by omega, hrw, rfl⟩
        case round =>
          obtain ⟨k, rfl, hk0, hk1, hg, hrw, hI⟩ := hrel
          rcases Nat.lt_or_ge k y with hlt | hge
          · have c0 := hrw.out.cell HO.out k (by have := hs.out; omega)
            have c1 := hrw.out.cell HO.out (k - 1) (by have := hs.out; omega)
            have G := hide (ssort_go dk y k hlt)
            have T := hide (ssort_stop dk y k)
            generalize dk[k]! = u at c0 G T
            generalize dk[k - 1]! = v at c1 G T
            have hgi : (k : Int) < (y : Int) := by omega
            have hz1 : (k : Int) < (n : Int) := by omega
            have hz2 : (0 : Int) ≤ (k : Int) - 1 := by omega
            have hz3 : (k : Int) - 1 < (n : Int) := by omega
            have n0 : ((k : Int) - 1).toNat = k - 1 := by omega
            clear hlt
            cases hl : Sort.ltInt u v with
            | false =>
              have E := hide (G.out hl)
              clear G T
              go_wp2
              go_quiet ((go_at_call 22; exact (less_any _ _ _).mono (fun e w'' h => ⟨h.1, ⟨_, h.2⟩⟩)))
              go_wp2
              go_roundg (n + 1 - (k + 1))
              case measure => omega
              case rel => exact ⟨k + 1, by go_num, by omega, by omega, by omega, hrw.out.alike rfl rfl rfl rfl, by show _ = _; rw [hI.out, E.out]⟩
            | true =>
              have E := hide (T.out (.inr hl))
              clear G T
              go_wp2
              go_quiet ((go_at_call 22; exact (less_any _ _ _).mono (fun e w'' h => ⟨h.1, ⟨_, h.2⟩⟩)))
              go_wp2
              go_meet
              case rel => exact ⟨k, rfl, hk0, hk1, by show _ = _; rw [hI.out, E.out], hrw.out.alike rfl rfl rfl rfl⟩
          · have E := hide (ssort_stop dk y k (.inl hge))
            have hd : decide ((k : Int) < (y : Int)) = false := by simp; omega
            have hd2 : decide (k < y) = false := by simp; omega
            go_wp2
            go_quiet (fail)
            go_wp2
            go_meet
            case rel => exact ⟨k, rfl, hk0, hk1, by show _ = _; rw [hI.out, E.out], hrw.out.alike rfl rfl rfl rfl⟩
      case rest =>
        obtain ⟨i2, rfl, hj1, hj2, h2, hrw2⟩ := hcut
        clear hrw
        rcases Nat.lt_or_ge i2 y with hlt | hge
        · have hne : ((i2 : Int) == (y : Int)) = false := by simp; omega
          have hne2 : (i2 == y) = false := by simp; omega
          rcases Nat.lt_or_ge (y - x) 50 with h50 | h50
          · have E := hide (pins_false x y c i i2 dk h2.out hc5 (by omega) h50)
            have h50i : (y : Int) - (x : Int) < 50 := by omega
            go_wp2
            go_ret
            exact ⟨by rw [hI.out, E.out]; rfl, by rw [hI.out, E.out]; exact hrw2.out⟩
          · have E := hide (fun d2 => pins_go x y c i i2 dk d2 h2.out hc5 (by omega) h50)
            have h50i : (50 : Int) ≤ (y : Int) - (x : Int) := by omega
            have c0 := hrw2.out.cell HO.out i2 (by have := hs.out; omega)
            have c1 := hrw2.out.cell HO.out (i2 - 1) (by have := hs.out; omega)
            have f0 := hrw2.out.free (off + i2)
            have f1 := hrw2.out.free (off + (i2 - 1))
            have SW := hide (hrw2.out.swap HO.out i2 (i2 - 1) (by have := hs.out; omega) (by have := hs.out; omega))
            generalize dk[i2]! = u at c0 SW
            generalize dk[i2 - 1]! = v at c1 SW
            obtain ⟨d1, hd1⟩ : ∃ d1, d1 = Sort.swp dk i2 (i2 - 1) := ⟨_, rfl⟩
            have HS1 : Hid (d1.size = n) := by show _ = _; rw [hd1, Sort.size_swp]; exact hs.out
            rw [← hd1] at SW E
            clear hd1
            have hz1 : (i2 : Int) < (n : Int) := by omega
            have hz2 : (0 : Int) ≤ (i2 : Int) - 1 := by omega
            have hz3 : (i2 : Int) - 1 < (n : Int) := by omega
            have n0 : ((i2 : Int) - 1).toNat = i2 - 1 := by omega
            go_wp2
            go_region
            have R1 : Hid (Rw w0 _ b pre d1 post) := SW.out.drew
            clear SW c0 c1 f0 f1 hz1 hz2 hz3 n0
            go_upto_if 61 with fail
            go_cut [9] from 13 to 132 (fun _ wc => ∃ d2 : Array Int, Hid (d2.size = n) ∧ Hid (Rw w0 wc b pre d2 post) ∧ Hid (Sort.fixDown Sort.ltInt x i2 d1 = d2))
            case first =>
              rcases Nat.lt_or_ge (i2 - x) 2 with ha | ha
              · have hai : (i2 : Int) - (x : Int) < 2 := by omega
                go_wp2
                go_meet
                case rel => exact ⟨d1, HS1, R1, by show _ = _; rw [Sort.fixDown, if_neg (by omega)]⟩
              · have hai : (2 : Int) ≤ (i2 : Int) - (x : Int) := by omega
                go_wp2_with fail
                go_loopg [9] (n + 1) (fun kx sc wr => ∃ (k : Nat) (dj : Array Int), sc = .int .i64 k ∧ k < n ∧ k ≤ kx ∧ Hid (dj.size = n) ∧ Hid (Rw w0 wr b pre dj post) ∧ Hid (Sort.shiftDown Sort.ltInt (k) dj = Sort.fixDown Sort.ltInt x i2 d1))
                case atStart => exact ⟨i2 - 1, d1, by go_num, by omega, by omega, HS1, R1, by show _ = _; rw [Sort.fixDown, if_pos ha]⟩
                case round =>
                  obtain ⟨k, dj, rfl, hk0, hg, hsj, hrj, hIj⟩ := hrel
                  rcases Nat.eq_zero_or_pos k with hz | hz
                  · have E2 := hide (sdown_stop dj k (.inl hz))
                    subst hz
                    go_wp2
                    go_meet
                    case rel => exact ⟨dj, hsj, hrj, by show _ = _; rw [← hIj.out, E2.out]⟩
                  · have c0 := hrj.out.cell HO.out k (by have := hsj.out; omega)
                    have c1 := hrj.out.cell HO.out (k - 1) (by have := hsj.out; omega)
                    have f0 := hrj.out.free (off + k)
                    have f1 := hrj.out.free (off + (k - 1))
                    have SW := hide (hrj.out.swap HO.out k (k - 1) (by have := hsj.out; omega) (by have := hsj.out; omega))
                    have G := hide (sdown_go dj k (by omega))
                    have T := hide (sdown_stop dj k)
                    generalize dj[k]! = u at c0 SW G T
                    generalize dj[k - 1]! = v at c1 SW G T
                    have hgi : (1 : Int) ≤ (k : Int) := by omega
                    have hz1 : (k : Int) < (n : Int) := by omega
                    have hz2 : (0 : Int) ≤ (k : Int) - 1 := by omega
                    have hz3 : (k : Int) - 1 < (n : Int) := by omega
                    have n0 : ((k : Int) - 1).toNat = k - 1 := by omega
                    cases hl : Sort.ltInt u v with
                    | true =>
                      have E2 := hide (G.out hl)
                      clear G T
                      go_wp2
                      go_quiet ((go_at_call 22; exact (less_any _ _ _).mono (fun e w'' h => ⟨h.1, ⟨_, h.2⟩⟩)))
                      go_wp2
                      clear hl
                      go_region
                      go_wp2
                      go_roundg (k - 1)
                      case measure => omega
                      case rel => exact ⟨k - 1, _, by go_num, by omega, by omega, by show _ = _; rw [Sort.size_swp]; exact hsj.out, SW.out.alike rfl rfl rfl rfl, by show _ = _; rw [← E2.out]; exact hIj.out⟩
                    | false =>
                      have E2 := hide (T.out (.inr hl))
                      clear G T SW
                      go_wp2
                      go_quiet ((go_at_call 22; exact (less_any _ _ _).mono (fun e w'' h => ⟨h.1, ⟨_, h.2⟩⟩)))
                      go_wp2
                      go_meet
                      case rel => exact ⟨dj, hsj, hrj.out.alike rfl rfl rfl rfl, by show _ = _; rw [← hIj.out, E2.out]⟩
            case rest =>
              obtain ⟨d2, hs2, hrw3, hf1⟩ := hcut
              rcases Nat.lt_or_ge (y - i2) 2 with ha | ha
              · have hai : (y : Int) - (i2 : Int) < 2 := by omega
                have E3 := hide (E.out d2 (by rw [hf1.out]; rw [Sort.fixUp, if_neg (by omega)]))
                go_wp2
                go_roundg (5 - (c + 1))
                case measure => omega
                case rel => exact ⟨i2, c + 1, d2, by go_num, by go_num, by omega, by omega, by omega, by omega, hs2, hrw3, by show _ = _; rw [hI.out, E3.out]⟩
              · have hai : (2 : Int) ≤ (y : Int) - (i2 : Int) := by omega
                go_wp2_with fail
                go_loopg [10] (n + 1) (fun kx sc wr => ∃ (k : Nat) (dj : Array Int), sc = .int .i64 k ∧ x < k ∧ k ≤ y ∧ n + 1 - k ≤ kx ∧ Hid (dj.size = n) ∧ Hid (Rw w0 wr b pre dj post) ∧ Hid (Sort.shiftUp Sort.ltInt y k dj = Sort.fixUp Sort.ltInt y i2 d2))
                case atStart => exact ⟨i2 + 1, d2, by go_num, by omega, by omega, by omega, hs2, hrw3, by show _ = _; rw [Sort.fixUp, if_pos ha]⟩
                case round =>
                  obtain ⟨k, dj, rfl, hk0, hk1, hg, hsj, hrj, hIj⟩ := hrel
                  rcases Nat.lt_or_ge k y with hz | hz
                  · have c0 := hrj.out.cell HO.out k (by have := hsj.out; omega)
                    have c1 := hrj.out.cell HO.out (k - 1) (by have := hsj.out; omega)
                    have f0 := hrj.out.free (off + k)
                    have f1 := hrj.out.free (off + (k - 1))
                    have SW := hide (hrj.out.swap HO.out k (k - 1) (by have := hsj.out; omega) (by have := hsj.out; omega))
                    have G := hide (sup_go dj y k (by omega))
                    have T := hide (sup_stop dj y k)
                    generalize dj[k]! = u at c0 SW G T
                    generalize dj[k - 1]! = v at c1 SW G T
                    have hgi : (k : Int) < (y : Int) := by omega
                    have hz1 : (k : Int) < (n : Int) := by omega
                    have hz2 : (0 : Int) ≤ (k : Int) - 1 := by omega
                    have hz3 : (k : Int) - 1 < (n : Int) := by omega
                    have n0 : ((k : Int) - 1).toNat = k - 1 := by omega
                    cases hl : Sort.ltInt u v with
                    | true =>
                      have E2 := hide (G.out hl)
                      clear G T
                      go_wp2
                      go_quiet ((go_at_call 22; exact (less_any _ _ _).mono (fun e w'' h => ⟨h.1, ⟨_, h.2⟩⟩)))
                      go_wp2
                      clear hl
                      go_region
                      go_wp2
                      go_roundg (n + 1 - (k + 1))
                      case measure => omega
                      case rel => exact ⟨k + 1, _, by go_num, by omega, by omega, by omega, by show _ = _; rw [Sort.size_swp]; exact hsj.out, SW.out.alike rfl rfl rfl rfl, by show _ = _; rw [← E2.out]; exact hIj.out⟩
                    | false =>
                      have E2 := hide (T.out (.inr hl))
                      clear G T SW
                      go_wp2
                      go_quiet ((go_at_call 22; exact (less_any _ _ _).mono (fun e w'' h => ⟨h.1, ⟨_, h.2⟩⟩)))
                      have E3 := hide (E.out dj (by rw [hf1.out]; rw [← hIj.out, E2.out]))
                      go_wp2
                      go_roundg (5 - (c + 1))
                      case measure => omega
                      case rel => exact ⟨i2, c + 1, dj, by go_num, by go_num, by omega, by omega, by omega, by omega, hsj, hrj.out.alike rfl rfl rfl rfl, by show _ = _; rw [hI.out, E3.out]⟩
                  · have E2 := hide (sup_stop dj y k (.inl hz))
                    have hgi : (y : Int) ≤ (k : Int) := by omega
                    have E3 := hide (E.out dj (by rw [hf1.out]; rw [← hIj.out, E2.out]))
                    go_wp2
                    go_roundg (5 - (c + 1))
                    case measure => omega
                    case rel => exact ⟨i2, c + 1, dj, by go_num, by go_num, by omega, by omega, by omega, by omega, hsj, hrj, by show _ = _; rw [hI.out, E3.out]⟩
        · have E := hide (pins_true x y c i i2 dk h2.out hc5 (by omega))
          obtain rfl : i2 = y := by omega
          go_wp2
          go_ret
          exact ⟨by rw [hI.out, E.out]; rfl, by rw [hI.out, E.out]; exact hrw2.out⟩
    · obtain rfl : c = 5 := by omega
      go_wp2
      go_ret
      exact ⟨by rw [hI.out]; rfl, by rw [hI.out]; exact hrw.out⟩
end Go.Proofs.Ybulkcxha
