import Derived.Test.YbulkcxhaE
import Derived.BigRegion
namespace Go.Proofs.Ybulkcxha
open Go.RowKit

set_option maxHeartbeats 16000000 in
set_option maxRecDepth 100000 in
theorem part_any (b off n cap x Y p : Nat) (pre post : List Value) (d : Array Int) (w0 w : World) (hR : Rw w0 w b pre d post) (ho : off = pre.length) (hn : n = d.size) (hxp : x ≤ p) (hpy : p ≤ Y) (hy : Y + 1 ≤ n) (hsz : n ≤ 100000) :
    Calls Yba.prog 24 #[.slice (some ⟨b, off, none⟩) n cap, .int .i64 x, .int .i64 ((Y + 1 : Nat) : Int), .int .i64 p] w fun e w' => e = .returned (.tuple #[.int .i64 ((Sort.partition Sort.ltInt d x (Y + 1) p).1 : Nat), .bool (Sort.partition Sort.ltInt d x (Y + 1) p).2.1]) ∧ Rw w0 w' b pre (Sort.partition Sort.ltInt d x (Y + 1) p).2.2 post := by
  have HR := hide hR
  have HO := hide ho
  have HN := hide hn
  clear hR ho hn
  have c0 := HR.out.cell HO.out x (by have := HN.out; omega)
  have c1 := HR.out.cell HO.out p (by have := HN.out; omega)
  have f0 := HR.out.free (off + x)
  have f1 := HR.out.free (off + p)
  have SW := hide (HR.out.swap HO.out x p (by have := HN.out; omega) (by have := HN.out; omega))
  have c2 := HR.out.cell2 HO.out x p (by have := HN.out; omega) (by have := HN.out; omega) d[p]!
  generalize (d.setIfInBounds x d[p]!)[p]! = z at c2
  generalize d[x]! = u at c0 SW
  generalize d[p]! = v at c1 c2 SW
  obtain ⟨d1, hd1⟩ : ∃ d1, d1 = Sort.swp d x p := ⟨_, rfl⟩
  have HD1 := hide hd1
  have HS1 : Hid (d1.size = n) := by show _ = _; rw [hd1, Sort.size_swp]; exact HN.out.symm
  rw [← hd1] at SW
  clear hd1
  have hz0 : (x : Int) < (n : Int) := by omega
  have hz1 : (p : Int) < (n : Int) := by omega
  obtain ⟨v, hv⟩ : ∃ v, v = d1[x]! := ⟨_, rfl⟩
  have HV := hide hv
  clear hv
  have HF := hide (fun i2 j2 h1 h2 h => prt_first x Y p i2 j2 v d d1 HD1.out HV.out h1 h2 h)
  have HT := hide (fun i2 j2 h1 h2 h => prt_then x Y p i2 j2 v d d1 HD1.out HV.out h1 h2 h)
  generalize Sort.partition Sort.ltInt d x (Y + 1) p = Q at HF HT ⊢
  go_enter Yba.func24, Yba.ntmps24
  go_wp2_with fail
  go_region
  clear c0 c1 c2 f0 f1 hz0 hz1
  have SW1 : Hid (Rw w0 _ b pre d1 post) := SW.out.drew
  clear SW
  go_upto_block 0 with fail
  go_cut [10] from 30 to 45 (fun sc wc => ∃ k : Nat, sc = .int .i64 (k : Nat) ∧ (x + 1) ≤ k ∧ (k = (x + 1) ∨ k ≤ Y + 1) ∧ Hid (k = Sort.scanUp (fun z => Sort.ltInt z v) d1 Y ((x + 1))) ∧ Hid (Rw w0 wc b pre d1 post))
  case first =>
    go_wp2_with fail
    go_loopg [10] (n + 2) (fun kx sc wr => ∃ k : Nat, sc = .int .i64 (k : Nat) ∧ (x + 1) ≤ k ∧ (k = (x + 1) ∨ k ≤ Y + 1) ∧ n + 2 - k ≤ kx ∧ Hid (Rw w0 wr b pre d1 post) ∧ Hid (Sort.scanUp (fun z => Sort.ltInt z v) d1 Y ((x + 1)) = Sort.scanUp (fun z => Sort.ltInt z v) d1 Y (k)))
    case atStart => exact ⟨(x + 1), by go_num, by omega, by omega, by omega, SW1, rfl⟩
    case round =>
      obtain ⟨k, rfl, hk0, hk1, hg, hrw, hI⟩ := hrel
      rcases Nat.lt_or_ge Y k with hgt | hle
      · have E := hide (scanUp_stop (fun z => Sort.ltInt z v) d1 Y k (.inl hgt))
        have hd : decide ((k : Int) ≤ (Y : Int)) = false := by simp; omega
        have hd2 : decide (k ≤ Y) = false := by simp; omega
        go_wp2
        go_quiet (fail)
        go_wp2
        go_meet
        case rel => exact ⟨k, rfl, hk0, hk1, by show _ = _; rw [hI.out, E.out], hrw.out.alike rfl rfl rfl rfl⟩
      · have c0 := hrw.out.cell HO.out k (by have := HS1.out; omega)
        have c1 := hrw.out.cell HO.out x (by have := HS1.out; omega)
        rw [← HV.out] at c1
        have G : Hid (Sort.ltInt d1[k]! v = true → Sort.scanUp (fun z => Sort.ltInt z v) d1 Y (k) = Sort.scanUp (fun z => Sort.ltInt z v) d1 Y (k + 1)) := fun h => scanUp_go (fun z => Sort.ltInt z v) d1 Y k hle (by show Sort.ltInt d1[k]! v = true; rw [h])
        have T : Hid (Sort.ltInt d1[k]! v = false → Sort.scanUp (fun z => Sort.ltInt z v) d1 Y (k) = k) := fun h => scanUp_stop (fun z => Sort.ltInt z v) d1 Y k (.inr (by show Sort.ltInt d1[k]! v = false; rw [h]))
        generalize d1[k]! = u at c0 G T
        have hgi : (k : Int) ≤ (Y : Int) := by omega
        have hz1 : (k : Int) < (n : Int) := by omega
        have hz2 : (x : Int) < (n : Int) := by omega
        clear hle
        cases hl : Sort.ltInt u v with
        | true =>
          have E := hide (G.out hl)
          clear G T
          go_wp2
          go_quiet ((go_at_call 22; exact (less_any _ _ _).mono (fun e w'' h => ⟨h.1, ⟨_, h.2⟩⟩)))
          go_wp2
          go_roundg (n + 2 - (k + 1))
          case measure => omega
          case rel => exact ⟨k + 1, by go_num, by omega, by omega, by omega, hrw.out.alike rfl rfl rfl rfl, by show _ = _; rw [hI.out, E.out]⟩
        | false =>
          have E := hide (T.out hl)
          clear G T
          go_wp2
          go_quiet ((go_at_call 22; exact (less_any _ _ _).mono (fun e w'' h => ⟨h.1, ⟨_, h.2⟩⟩)))
          go_wp2
          go_meet
          case rel => exact ⟨k, rfl, hk0, hk1, by show _ = _; rw [hI.out, E.out], hrw.out.alike rfl rfl rfl rfl⟩
  case rest =>
    obtain ⟨i1, rfl, h1a, h1b, h1, hrw1⟩ := hcut
    go_upto_block 2 with fail
    go_cut [11] from 46 to 62 (fun sc wc => ∃ k : Nat, sc = .int .i64 (k : Nat) ∧ k ≤ Y ∧ (i1 ≤ k + 1 ∨ k = Y) ∧ Hid (k = Sort.scanDown (fun z => !Sort.ltInt z v) d1 i1 (Y)) ∧ Hid (Rw w0 wc b pre d1 post))
    case first =>
      go_wp2_with fail
      go_loopg [11] (n + 2) (fun kx sc wr => ∃ k : Nat, sc = .int .i64 (k : Nat) ∧ k ≤ Y ∧ (i1 ≤ k + 1 ∨ k = Y) ∧ k ≤ kx ∧ Hid (Rw w0 wr b pre d1 post) ∧ Hid (Sort.scanDown (fun z => !Sort.ltInt z v) d1 i1 (Y) = Sort.scanDown (fun z => !Sort.ltInt z v) d1 i1 (k)))
      case atStart => exact ⟨Y, by go_num, by omega, by omega, by omega, hrw1, rfl⟩
      case round =>
        obtain ⟨k, rfl, hk0, hk1, hg, hrw, hI⟩ := hrel
        rcases Nat.lt_or_ge k i1 with hgt | hle
        · have E := hide (scanDown_stop (fun z => !Sort.ltInt z v) d1 i1 k (.inl hgt))
          have hd : decide ((i1 : Int) ≤ (k : Int)) = false := by simp; omega
          have hd2 : decide (i1 ≤ k) = false := by simp; omega
          go_wp2
          go_quiet (fail)
          go_wp2
          go_meet
          case rel => exact ⟨k, rfl, hk0, hk1, by show _ = _; rw [hI.out, E.out], hrw.out.alike rfl rfl rfl rfl⟩
        · have c0 := hrw.out.cell HO.out k (by have := HS1.out; omega)
          have c1 := hrw.out.cell HO.out x (by have := HS1.out; omega)
          rw [← HV.out] at c1
          have G : Hid (Sort.ltInt d1[k]! v = false → Sort.scanDown (fun z => !Sort.ltInt z v) d1 i1 (k) = Sort.scanDown (fun z => !Sort.ltInt z v) d1 i1 (k - 1)) := fun h => scanDown_go (fun z => !Sort.ltInt z v) d1 i1 k hle (by omega) (by show (!Sort.ltInt d1[k]! v) = true; rw [h]; rfl)
          have T : Hid (Sort.ltInt d1[k]! v = true → Sort.scanDown (fun z => !Sort.ltInt z v) d1 i1 (k) = k) := fun h => scanDown_stop (fun z => !Sort.ltInt z v) d1 i1 k (.inr (by show (!Sort.ltInt d1[k]! v) = false; rw [h]; rfl))
          generalize d1[k]! = u at c0 G T
          have hgi : (i1 : Int) ≤ (k : Int) := by omega
          have hz1 : (k : Int) < (n : Int) := by omega
          have hz2 : (x : Int) < (n : Int) := by omega
          clear hle
          cases hl : Sort.ltInt u v with
          | false =>
            have E := hide (G.out hl)
            clear G T
            go_wp2
            go_quiet ((go_at_call 22; exact (less_any _ _ _).mono (fun e w'' h => ⟨h.1, ⟨_, h.2⟩⟩)))
            go_wp2
            go_roundg (k - 1)
            case measure => omega
            case rel => exact ⟨k - 1, by go_num, by omega, by omega, by omega, hrw.out.alike rfl rfl rfl rfl, by show _ = _; rw [hI.out, E.out]⟩
          | true =>
            have E := hide (T.out hl)
            clear G T
            go_wp2
            go_quiet ((go_at_call 22; exact (less_any _ _ _).mono (fun e w'' h => ⟨h.1, ⟨_, h.2⟩⟩)))
            go_wp2
            go_meet
            case rel => exact ⟨k, rfl, hk0, hk1, by show _ = _; rw [hI.out, E.out], hrw.out.alike rfl rfl rfl rfl⟩
    case rest =>
      obtain ⟨j1, rfl, h2a, h2b, h2, hrw2⟩ := hcut
      rcases Nat.lt_or_ge j1 i1 with hbr | hgo
      · have E := hide (HF.out i1 j1 h1.out h2.out hbr)
        clear HF HT
        have hgi : (j1 : Int) < (i1 : Int) := by omega
        have c0 := hrw2.out.cell HO.out j1 (by have := HS1.out; omega)
        have c1 := hrw2.out.cell HO.out x (by have := HS1.out; omega)
        have f0 := hrw2.out.free (off + j1)
        have f1 := hrw2.out.free (off + x)
        have SW := hide (hrw2.out.swap HO.out j1 x (by have := HS1.out; omega) (by have := HS1.out; omega))
        have c2 := hrw2.out.cell2 HO.out j1 x (by have := HS1.out; omega) (by have := HS1.out; omega) d1[x]!
        generalize (d1.setIfInBounds j1 d1[x]!)[x]! = z at c2
        generalize d1[j1]! = u at c0 SW
        generalize d1[x]! = v' at c1 c2 SW
        have hz0 : (j1 : Int) < (n : Int) := by omega
        have hz1 : (x : Int) < (n : Int) := by omega
        go_wp2
        go_region
        go_wp2
        go_ret2
        exact ⟨by rw [E.out]; rfl, by rw [E.out]; exact SW.out.alike rfl rfl rfl rfl⟩
      · have E := hide (HT.out i1 j1 h1.out h2.out hgo)
        clear HF HT
        have hgi : (i1 : Int) ≤ (j1 : Int) := by omega
        have c0 := hrw2.out.cell HO.out i1 (by have := HS1.out; omega)
        have c1 := hrw2.out.cell HO.out j1 (by have := HS1.out; omega)
        have f0 := hrw2.out.free (off + i1)
        have f1 := hrw2.out.free (off + j1)
        have SW := hide (hrw2.out.swap HO.out i1 j1 (by have := HS1.out; omega) (by have := HS1.out; omega))
        have c2 := hrw2.out.cell2 HO.out i1 j1 (by have := HS1.out; omega) (by have := HS1.out; omega) d1[j1]!
        generalize (d1.setIfInBounds i1 d1[j1]!)[j1]! = z at c2
        generalize d1[i1]! = u at c0 SW
        generalize d1[j1]! = v' at c1 c2 SW
        have hz0 : (i1 : Int) < (n : Int) := by omega
        have hz1 : (j1 : Int) < (n : Int) := by omega
        have HSs : Hid ((Sort.swp d1 i1 j1).size = n) := by show _ = _; rw [Sort.size_swp]; exact HS1.out
        clear HV
        go_wp2
        go_region
        go_wp2_with fail
        clear c0 c1 c2 f0 f1 hz0 hz1
        go_loopg [10, 11] (n + 2) (fun kx s9 s10 wr => ∃ (i j : Nat) (dk : Array Int), s9 = .int .i64 i ∧ s10 = .int .i64 j ∧ x < i ∧ i ≤ n + 1 ∧ j < n ∧ j + 1 - i ≤ kx ∧ Hid (dk.size = n) ∧ Hid (Rw w0 wr b pre dk post) ∧ Hid (Sort.partLoop Sort.ltInt x (i1 + 1) (j1 - 1) (Sort.swp d1 i1 j1) = Sort.partLoop Sort.ltInt x i j dk))
        case atStart => exact ⟨i1 + 1, j1 - 1, _, by go_num, by go_num, by omega, by omega, by omega, by omega, HSs, SW.out.alike rfl rfl rfl rfl, rfl⟩
        case round =>
          obtain ⟨i, j, dk, rfl, rfl, hxi, hin, hjn, hg, hs, hrw, hI⟩ := hrel
          clear SW
          obtain ⟨v, hv⟩ : ∃ v, v = dk[x]! := ⟨_, rfl⟩
          have HV := hide hv
          clear hv
          go_upto_block 6 with fail
          go_cut [10] from 99 to 152 (fun sc wc => ∃ k : Nat, sc = .int .i64 (k : Nat) ∧ i ≤ k ∧ (k = i ∨ k ≤ j + 1) ∧ Hid (k = Sort.scanUp (fun z => Sort.ltInt z v) dk j (i)) ∧ Hid (Rw w0 wc b pre dk post))
          case first =>
            go_wp2_with fail
            go_loopg [10] (n + 2) (fun kx sc wr => ∃ k : Nat, sc = .int .i64 (k : Nat) ∧ i ≤ k ∧ (k = i ∨ k ≤ j + 1) ∧ n + 2 - k ≤ kx ∧ Hid (Rw w0 wr b pre dk post) ∧ Hid (Sort.scanUp (fun z => Sort.ltInt z v) dk j (i) = Sort.scanUp (fun z => Sort.ltInt z v) dk j (k)))
            case atStart => exact ⟨i, by go_num, by omega, by omega, by omega, hrw, rfl⟩
            case round =>
              obtain ⟨k, rfl, hk0, hk1, hg, hrw, hI⟩ := hrel
              rcases Nat.lt_or_ge j k with hgt | hle
              · have E := hide (scanUp_stop (fun z => Sort.ltInt z v) dk j k (.inl hgt))
                have hd : decide ((k : Int) ≤ (j : Int)) = false := by simp; omega
                have hd2 : decide (k ≤ j) = false := by simp; omega
                go_wp2
                go_quiet (fail)
                go_wp2
                go_meet
                case rel => exact ⟨k, rfl, hk0, hk1, by show _ = _; rw [hI.out, E.out], hrw.out.alike rfl rfl rfl rfl⟩
              · have c0 := hrw.out.cell HO.out k (by have := hs.out; omega)
                have c1 := hrw.out.cell HO.out x (by have := hs.out; omega)
                rw [← HV.out] at c1
                have G : Hid (Sort.ltInt dk[k]! v = true → Sort.scanUp (fun z => Sort.ltInt z v) dk j (k) = Sort.scanUp (fun z => Sort.ltInt z v) dk j (k + 1)) := fun h => scanUp_go (fun z => Sort.ltInt z v) dk j k hle (by show Sort.ltInt dk[k]! v = true; rw [h])
                have T : Hid (Sort.ltInt dk[k]! v = false → Sort.scanUp (fun z => Sort.ltInt z v) dk j (k) = k) := fun h => scanUp_stop (fun z => Sort.ltInt z v) dk j k (.inr (by show Sort.ltInt dk[k]! v = false; rw [h]))
                generalize dk[k]! = u at c0 G T
                have hgi : (k : Int) ≤ (j : Int) := by omega
                have hz1 : (k : Int) < (n : Int) := by omega
                have hz2 : (x : Int) < (n : Int) := by omega
                clear hle
                cases hl : Sort.ltInt u v with
                | true =>
                  have E := hide (G.out hl)
                  clear G T
                  go_wp2
                  go_quiet ((go_at_call 22; exact (less_any _ _ _).mono (fun e w'' h => ⟨h.1, ⟨_, h.2⟩⟩)))
                  go_wp2
                  go_roundg (n + 2 - (k + 1))
                  case measure => omega
                  case rel => exact ⟨k + 1, by go_num, by omega, by omega, by omega, hrw.out.alike rfl rfl rfl rfl, by show _ = _; rw [hI.out, E.out]⟩
                | false =>
                  have E := hide (T.out hl)
                  clear G T
                  go_wp2
                  go_quiet ((go_at_call 22; exact (less_any _ _ _).mono (fun e w'' h => ⟨h.1, ⟨_, h.2⟩⟩)))
                  go_wp2
                  go_meet
                  case rel => exact ⟨k, rfl, hk0, hk1, by show _ = _; rw [hI.out, E.out], hrw.out.alike rfl rfl rfl rfl⟩
          case rest =>
            obtain ⟨i2, rfl, h3a, h3b, h3, hrw3⟩ := hcut
            go_upto_block 8 with fail
            go_cut [11] from 99 to 152 (fun sc wc => ∃ k : Nat, sc = .int .i64 (k : Nat) ∧ k ≤ j ∧ (i2 ≤ k + 1 ∨ k = j) ∧ Hid (k = Sort.scanDown (fun z => !Sort.ltInt z v) dk i2 (j)) ∧ Hid (Rw w0 wc b pre dk post))
            case first =>
              go_wp2_with fail
              go_loopg [11] (n + 2) (fun kx sc wr => ∃ k : Nat, sc = .int .i64 (k : Nat) ∧ k ≤ j ∧ (i2 ≤ k + 1 ∨ k = j) ∧ k ≤ kx ∧ Hid (Rw w0 wr b pre dk post) ∧ Hid (Sort.scanDown (fun z => !Sort.ltInt z v) dk i2 (j) = Sort.scanDown (fun z => !Sort.ltInt z v) dk i2 (k)))
              case atStart => exact ⟨j, by go_num, by omega, by omega, by omega, hrw3, rfl⟩
              case round =>
                obtain ⟨k, rfl, hk0, hk1, hg, hrw, hI⟩ := hrel
                rcases Nat.lt_or_ge k i2 with hgt | hle
                · have E := hide (scanDown_stop (fun z => !Sort.ltInt z v) dk i2 k (.inl hgt))
                  have hd : decide ((i2 : Int) ≤ (k : Int)) = false := by simp; omega
                  have hd2 : decide (i2 ≤ k) = false := by simp; omega
                  go_wp2
                  go_quiet (fail)
                  go_wp2
                  go_meet
                  case rel => exact ⟨k, rfl, hk0, hk1, by show _ = _; rw [hI.out, E.out], hrw.out.alike rfl rfl rfl rfl⟩
                · have c0 := hrw.out.cell HO.out k (by have := hs.out; omega)
                  have c1 := hrw.out.cell HO.out x (by have := hs.out; omega)
                  rw [← HV.out] at c1
                  have G : Hid (Sort.ltInt dk[k]! v = false → Sort.scanDown (fun z => !Sort.ltInt z v) dk i2 (k) = Sort.scanDown (fun z => !Sort.ltInt z v) dk i2 (k - 1)) := fun h => scanDown_go (fun z => !Sort.ltInt z v) dk i2 k hle (by omega) (by show (!Sort.ltInt dk[k]! v) = true; rw [h]; rfl)
                  have T : Hid (Sort.ltInt dk[k]! v = true → Sort.scanDown (fun z => !Sort.ltInt z v) dk i2 (k) = k) := fun h => scanDown_stop (fun z => !Sort.ltInt z v) dk i2 k (.inr (by show (!Sort.ltInt dk[k]! v) = false; rw [h]; rfl))
                  generalize dk[k]! = u at c0 G T
                  have hgi : (i2 : Int) ≤ (k : Int) := by omega
                  have hz1 : (k : Int) < (n : Int) := by omega
                  have hz2 : (x : Int) < (n : Int) := by omega
                  clear hle
                  cases hl : Sort.ltInt u v with
                  | false =>
                    have E := hide (G.out hl)
                    clear G T
                    go_wp2
                    go_quiet ((go_at_call 22; exact (less_any _ _ _).mono (fun e w'' h => ⟨h.1, ⟨_, h.2⟩⟩)))
                    go_wp2
                    go_roundg (k - 1)
                    case measure => omega
                    case rel => exact ⟨k - 1, by go_num, by omega, by omega, by omega, hrw.out.alike rfl rfl rfl rfl, by show _ = _; rw [hI.out, E.out]⟩
                  | true =>
                    have E := hide (T.out hl)
                    clear G T
                    go_wp2
                    go_quiet ((go_at_call 22; exact (less_any _ _ _).mono (fun e w'' h => ⟨h.1, ⟨_, h.2⟩⟩)))
                    go_wp2
                    go_meet
                    case rel => exact ⟨k, rfl, hk0, hk1, by show _ = _; rw [hI.out, E.out], hrw.out.alike rfl rfl rfl rfl⟩
            case rest =>
              obtain ⟨j2, rfl, h4a, h4b, h4, hrw4⟩ := hcut
              rcases Nat.lt_or_ge j2 i2 with hbr | hgo
              · have E2 := hide (E.out j2 dk (hI.out.trans (prt_stop x i j i2 j2 v dk HV.out h3.out h4.out hbr)))
                have hgi2 : (j2 : Int) < (i2 : Int) := by omega
                have c0 := hrw4.out.cell HO.out j2 (by have := hs.out; omega)
                have c1 := hrw4.out.cell HO.out x (by have := hs.out; omega)
                have f0 := hrw4.out.free (off + j2)
                have f1 := hrw4.out.free (off + x)
                have SW := hide (hrw4.out.swap HO.out j2 x (by have := hs.out; omega) (by have := hs.out; omega))
                have c2 := hrw4.out.cell2 HO.out j2 x (by have := hs.out; omega) (by have := hs.out; omega) dk[x]!
                generalize (dk.setIfInBounds j2 dk[x]!)[x]! = z at c2
                generalize dk[j2]! = u at c0 SW
                generalize dk[x]! = v' at c1 c2 SW
                have hz0 : (j2 : Int) < (n : Int) := by omega
                have hz1 : (x : Int) < (n : Int) := by omega
                clear E
                go_wp2
                go_region
                go_wp2
                go_ret2
                exact ⟨by rw [E2.out]; rfl, by rw [E2.out]; exact SW.out.alike rfl rfl rfl rfl⟩
              · have E2 := hide (prt_go x i j i2 j2 v dk HV.out h3.out h4.out hgo)
                have hgi2 : (i2 : Int) ≤ (j2 : Int) := by omega
                have c0 := hrw4.out.cell HO.out i2 (by have := hs.out; omega)
                have c1 := hrw4.out.cell HO.out j2 (by have := hs.out; omega)
                have f0 := hrw4.out.free (off + i2)
                have f1 := hrw4.out.free (off + j2)
                have SW := hide (hrw4.out.swap HO.out i2 j2 (by have := hs.out; omega) (by have := hs.out; omega))
                have c2 := hrw4.out.cell2 HO.out i2 j2 (by have := hs.out; omega) (by have := hs.out; omega) dk[j2]!
                generalize (dk.setIfInBounds i2 dk[j2]!)[j2]! = z at c2
                generalize dk[i2]! = u at c0 SW
                generalize dk[j2]! = v' at c1 c2 SW
                have hz0 : (i2 : Int) < (n : Int) := by omega
                have hz1 : (j2 : Int) < (n : Int) := by omega
                go_wp2
                go_region
                go_wp2
                go_roundg (j2 - 1 + 1 - (i2 + 1))
                case measure => omega
                case rel => exact ⟨i2 + 1, j2 - 1, _, by go_num, by go_num, by omega, by omega, by omega, by omega, by show _ = _; rw [Sort.size_swp]; exact hs.out, SW.out.alike rfl rfl rfl rfl, by show _ = _; rw [hI.out, E2.out]⟩
end Go.Proofs.Ybulkcxha
