import Derived.Test.YbulkcxhaI
import Derived.Deep.CutBlock
import Derived.Deep.CutRange
namespace Go.Proofs.Ybulkcxha
open Go.RowKit

theorem scanUp_go (p : Int → Bool) (d : Array Int) (j i : Nat) (h : i ≤ j) (hp : p d[i]! = true) : Sort.scanUp p d j i = Sort.scanUp p d j (i + 1) := by
  rw [Sort.scanUp]
  simp [h, hp]
theorem scanUp_stop (p : Int → Bool) (d : Array Int) (j i : Nat) (h : j < i ∨ p d[i]! = false) : Sort.scanUp p d j i = i := by
  rw [Sort.scanUp]
  rcases h with h | h
  · simp [show ¬ i ≤ j by omega]
  · simp [h]
theorem scanDown_go (p : Int → Bool) (d : Array Int) (i j : Nat) (h : i ≤ j) (h1 : 1 ≤ j) (hp : p d[j]! = true) : Sort.scanDown p d i j = Sort.scanDown p d i (j - 1) := by
  obtain ⟨k, rfl⟩ : ∃ k, j = k + 1 := ⟨j - 1, by omega⟩
  rw [Sort.scanDown]
  simp [h, hp]
theorem scanDown_stop (p : Int → Bool) (d : Array Int) (i j : Nat) (h : j < i ∨ p d[j]! = false) : Sort.scanDown p d i j = j := by
  cases j with
  | zero => rw [Sort.scanDown]
  | succ k =>
    rw [Sort.scanDown]
    rcases h with h | h
    · simp [show ¬ i ≤ k + 1 by omega]
    · simp [h]
theorem Rw.cell2 {w0 w : World} {b : Nat} {pre post : List Value} {d : Array Int} (h : Rw w0 w b pre d post) {off : Nat} (ho : off = pre.length) (i j : Nat) (hi : i < d.size) (hj : j < d.size) (v : Int) :
    (w.setCell ⟨b, off + i, none⟩ (.int .u32 v)).cell? ⟨b, off + j, none⟩ = some (.int .u32 (d.setIfInBounds i v)[j]!) := (h.set ho i hi v).cell ho j (by simpa using hj)

theorem peq_stop (x i j i2 j2 : Nat) (v : Int) (d : Array Int) (hv : v = d[x]!) (h1 : i2 = Sort.scanUp (fun z => !Sort.ltInt v z) d j i) (h2 : j2 = Sort.scanDown (fun z => Sort.ltInt v z) d i2 j) (h : j2 < i2) : Sort.partEqLoop Sort.ltInt x i j d = (i2, d) := by
  subst hv; subst h1; subst h2
  rw [Sort.partEqLoop_eq, if_pos h]
theorem peq_go (x i j i2 j2 : Nat) (v : Int) (d : Array Int) (hv : v = d[x]!) (h1 : i2 = Sort.scanUp (fun z => !Sort.ltInt v z) d j i) (h2 : j2 = Sort.scanDown (fun z => Sort.ltInt v z) d i2 j) (h : i2 ≤ j2) : Sort.partEqLoop Sort.ltInt x i j d = Sort.partEqLoop Sort.ltInt x (i2 + 1) (j2 - 1) (Sort.swp d i2 j2) := by
  subst hv; subst h1; subst h2
  rw [Sort.partEqLoop_eq, if_neg (by omega)]
theorem prt_stop (x i j i2 j2 : Nat) (v : Int) (d : Array Int) (hv : v = d[x]!) (h1 : i2 = Sort.scanUp (fun z => Sort.ltInt z v) d j i) (h2 : j2 = Sort.scanDown (fun z => !Sort.ltInt z v) d i2 j) (h : j2 < i2) : Sort.partLoop Sort.ltInt x i j d = (j2, d) := by
  subst hv; subst h1; subst h2
  rw [Sort.partLoop_eq, if_pos h]
theorem prt_go (x i j i2 j2 : Nat) (v : Int) (d : Array Int) (hv : v = d[x]!) (h1 : i2 = Sort.scanUp (fun z => Sort.ltInt z v) d j i) (h2 : j2 = Sort.scanDown (fun z => !Sort.ltInt z v) d i2 j) (h : i2 ≤ j2) : Sort.partLoop Sort.ltInt x i j d = Sort.partLoop Sort.ltInt x (i2 + 1) (j2 - 1) (Sort.swp d i2 j2) := by
  subst hv; subst h1; subst h2
  rw [Sort.partLoop_eq, if_neg (by omega)]
theorem prt_first (x Y p i2 j2 : Nat) (v : Int) (d0 d : Array Int) (hd : d = Sort.swp d0 x p) (hv : v = d[x]!) (h1 : i2 = Sort.scanUp (fun z => Sort.ltInt z v) d Y (x + 1)) (h2 : j2 = Sort.scanDown (fun z => !Sort.ltInt z v) d i2 Y) (h : j2 < i2) : Sort.partition Sort.ltInt d0 x (Y + 1) p = (j2, true, Sort.swp d j2 x) := by
  subst hv; subst h1; subst h2; subst hd
  rw [Sort.partition]
  simp only [Nat.add_sub_cancel]
  rw [if_pos h]
theorem prt_then (x Y p i2 j2 : Nat) (v : Int) (d0 d : Array Int) (hd : d = Sort.swp d0 x p) (hv : v = d[x]!) (h1 : i2 = Sort.scanUp (fun z => Sort.ltInt z v) d Y (x + 1)) (h2 : j2 = Sort.scanDown (fun z => !Sort.ltInt z v) d i2 Y) (h : i2 ≤ j2) (q : Nat) (D : Array Int) (hq : Sort.partLoop Sort.ltInt x (i2 + 1) (j2 - 1) (Sort.swp d i2 j2) = (q, D)) : Sort.partition Sort.ltInt d0 x (Y + 1) p = (q, false, Sort.swp D q x) := by
  subst hv; subst h1; subst h2; subst hd
  rw [Sort.partition]
  simp only [Nat.add_sub_cancel]
  rw [if_neg (by omega), hq]

set_option maxHeartbeats 8000000 in
set_option maxRecDepth 100000 in
theorem parteq_any (b off n cap x Y p : Nat) (pre post : List Value) (d : Array Int) (w0 w : World) (hR : Rw w0 w b pre d post) (ho : off = pre.length) (hn : n = d.size) (hxp : x ≤ p) (hpy : p ≤ Y) (hy : Y + 1 ≤ n) (hsz : n ≤ 100000) :
    Calls Yba.prog 23 #[.slice (some ⟨b, off, none⟩) n cap, .int .i64 x, .int .i64 ((Y + 1 : Nat) : Int), .int .i64 p] w fun e w' => e = .returned (.int .i64 ((Sort.partitionEqual Sort.ltInt d x (Y + 1) p).1 : Nat)) ∧ Rw w0 w' b pre (Sort.partitionEqual Sort.ltInt d x (Y + 1) p).2 post := by
  have HR := hide hR
  have HO := hide ho
  have HN := hide hn
  clear hR ho hn
  have c0 := HR.out.cell HO.out x (by have := HN.out; omega)
  have c1 := HR.out.cell HO.out p (by have := HN.out; omega)
  have f0 := HR.out.free (off + x)
  have f1 := HR.out.free (off + p)
  have SW := hide (HR.out.swap HO.out x p (by have := HN.out; omega) (by have := HN.out; omega))
  have c2 := HR.out.cell2 HO.out x p (by have := HN.out; omega) (by have := HN.out; omega) d[p]!
  generalize (d.setIfInBounds x d[p]!)[p]! = z at c2
  generalize d[x]! = u at c0 SW
  generalize d[p]! = v at c1 c2 SW
  obtain ⟨d1, hd1⟩ : ∃ d1, d1 = Sort.swp d x p := ⟨_, rfl⟩
  have HD1 := hide hd1
  have HS1 : Hid (d1.size = n) := by show _ = _; rw [hd1, Sort.size_swp]; exact HN.out.symm
  rw [← hd1] at SW
  clear hd1
  have hz0 : (x : Int) < (n : Int) := by omega
  have hz1 : (p : Int) < (n : Int) := by omega
  have HP : Hid (Sort.partitionEqual Sort.ltInt d x (Y + 1) p = Sort.partEqLoop Sort.ltInt x (x + 1) Y d1) := by
    show _ = _
    rw [HD1.out]; rfl
  generalize Sort.partitionEqual Sort.ltInt d x (Y + 1) p = Q at HP ⊢
  go_enter Yba.func23, Yba.ntmps23
  go_wp2_with fail
  go_region
  go_wp2_with fail
  clear c0 c1 c2 f0 f1 hz0 hz1
  go_loopg [9, 10] (n + 2) (fun kx s9 s10 wr => ∃ (i j : Nat) (dk : Array Int), s9 = .int .i64 i ∧ s10 = .int .i64 j ∧ x < i ∧ i ≤ n + 1 ∧ j < n ∧ j + 1 - i ≤ kx ∧ Hid (dk.size = n) ∧ Hid (Rw w0 wr b pre dk post) ∧ Hid (Q = Sort.partEqLoop Sort.ltInt x i j dk))
  case atStart => exact ⟨x + 1, Y, d1, by go_num, by go_num, by omega, by omega, by omega, by omega, HS1, SW.out.alike rfl rfl rfl rfl, HP⟩
  case round =>
    obtain ⟨i, j, dk, rfl, rfl, hxi, hin, hjn, hg, hs, hrw, hI⟩ := hrel
    clear SW
    obtain ⟨v, hv⟩ : ∃ v, v = dk[x]! := ⟨_, rfl⟩
    have HV := hide hv
    clear hv
    go_upto_block 2 with fail
    go_cut [9] from 29 to 82 (fun sc wc => ∃ k : Nat, sc = .int .i64 (k : Nat) ∧ i ≤ k ∧ (k = i ∨ k ≤ j + 1) ∧ Hid (k = Sort.scanUp (fun z => !Sort.ltInt v z) dk j (i)) ∧ Hid (Rw w0 wc b pre dk post))
    case first =>
      go_wp2_with fail
      go_loopg [9] (n + 2) (fun kx sc wr => ∃ k : Nat, sc = .int .i64 (k : Nat) ∧ i ≤ k ∧ (k = i ∨ k ≤ j + 1) ∧ n + 2 - k ≤ kx ∧ Hid (Rw w0 wr b pre dk post) ∧ Hid (Sort.scanUp (fun z => !Sort.ltInt v z) dk j (i) = Sort.scanUp (fun z => !Sort.ltInt v z) dk j (k)))
      case atStart => exact ⟨i, by go_num, by omega, by omega, by omega, hrw, rfl⟩
      case round =>
        obtain ⟨k, rfl, hk0, hk1, hg, hrw, hI⟩ := hrel
        rcases Nat.lt_or_ge j k with hgt | hle
        · have E := hide (scanUp_stop (fun z => !Sort.ltInt v z) dk j k (.inl hgt))
          have hd : decide ((k : Int) ≤ (j : Int)) = false := by simp; omega
          have hd2 : decide (k ≤ j) = false := by simp; omega
          go_wp2
          go_quiet (fail)
          go_wp2
          go_meet
          case rel => exact ⟨k, rfl, hk0, hk1, by show _ = _; rw [hI.out, E.out], hrw.out.alike rfl rfl rfl rfl⟩
        · have c0 := hrw.out.cell HO.out k (by have := hs.out; omega)
          have c1 := hrw.out.cell HO.out x (by have := hs.out; omega)
          rw [← HV.out] at c1
          have G : Hid (Sort.ltInt v dk[k]! = false → Sort.scanUp (fun z => !Sort.ltInt v z) dk j (k) = Sort.scanUp (fun z => !Sort.ltInt v z) dk j (k + 1)) := fun h => scanUp_go (fun z => !Sort.ltInt v z) dk j k hle (by show (!Sort.ltInt v dk[k]!) = true; rw [h]; rfl)
          have T : Hid (Sort.ltInt v dk[k]! = true → Sort.scanUp (fun z => !Sort.ltInt v z) dk j (k) = k) := fun h => scanUp_stop (fun z => !Sort.ltInt v z) dk j k (.inr (by show (!Sort.ltInt v dk[k]!) = false; rw [h]; rfl))
          generalize dk[k]! = u at c0 G T
          have hgi : (k : Int) ≤ (j : Int) := by omega
          have hz1 : (k : Int) < (n : Int) := by omega
          have hz2 : (x : Int) < (n : Int) := by omega
          clear hle
          cases hl : Sort.ltInt v u with
          | false =>
            have E := hide (G.out hl)
            clear G T
            go_wp2
            go_quiet ((go_at_call 22; exact (less_any _ _ _).mono (fun e w'' h => ⟨h.1, ⟨_, h.2⟩⟩)))
            go_wp2
            go_roundg (n + 2 - (k + 1))
            case measure => omega
            case rel => exact ⟨k + 1, by go_num, by omega, by omega, by omega, hrw.out.alike rfl rfl rfl rfl, by show _ = _; rw [hI.out, E.out]⟩
          | true =>
            have E := hide (T.out hl)
            clear G T
            go_wp2
            go_quiet ((go_at_call 22; exact (less_any _ _ _).mono (fun e w'' h => ⟨h.1, ⟨_, h.2⟩⟩)))
            go_wp2
            go_meet
            case rel => exact ⟨k, rfl, hk0, hk1, by show _ = _; rw [hI.out, E.out], hrw.out.alike rfl rfl rfl rfl⟩
    case rest =>
      obtain ⟨i2, rfl, h2a, h2b, h2, hrw2⟩ := hcut
      go_upto_block 4 with fail
      go_cut [10] from 29 to 82 (fun sc wc => ∃ k : Nat, sc = .int .i64 (k : Nat) ∧ k ≤ j ∧ (i2 ≤ k + 1 ∨ k = j) ∧ Hid (k = Sort.scanDown (fun z => Sort.ltInt v z) dk i2 (j)) ∧ Hid (Rw w0 wc b pre dk post))
      case first =>
        go_wp2_with fail
        go_loopg [10] (n + 2) (fun kx sc wr => ∃ k : Nat, sc = .int .i64 (k : Nat) ∧ k ≤ j ∧ (i2 ≤ k + 1 ∨ k = j) ∧ k ≤ kx ∧ Hid (Rw w0 wr b pre dk post) ∧ Hid (Sort.scanDown (fun z => Sort.ltInt v z) dk i2 (j) = Sort.scanDown (fun z => Sort.ltInt v z) dk i2 (k)))
        case atStart => exact ⟨j, by go_num, by omega, by omega, by omega, hrw2, rfl⟩
        case round =>
          obtain ⟨k, rfl, hk0, hk1, hg, hrw, hI⟩ := hrel
          rcases Nat.lt_or_ge k i2 with hgt | hle
          · have E := hide (scanDown_stop (fun z => Sort.ltInt v z) dk i2 k (.inl hgt))
            have hd : decide ((i2 : Int) ≤ (k : Int)) = false := by simp; omega
            have hd2 : decide (i2 ≤ k) = false := by simp; omega
            go_wp2
            go_quiet (fail)
            go_wp2
            go_meet
            case rel => exact ⟨k, rfl, hk0, hk1, by show _ = _; rw [hI.out, E.out], hrw.out.alike rfl rfl rfl rfl⟩
          · have c0 := hrw.out.cell HO.out k (by have := hs.out; omega)
            have c1 := hrw.out.cell HO.out x (by have := hs.out; omega)
            rw [← HV.out] at c1
            have G : Hid (Sort.ltInt v dk[k]! = true → Sort.scanDown (fun z => Sort.ltInt v z) dk i2 (k) = Sort.scanDown (fun z => Sort.ltInt v z) dk i2 (k - 1)) := fun h => scanDown_go (fun z => Sort.ltInt v z) dk i2 k hle (by omega) (by show Sort.ltInt v dk[k]! = true; rw [h])
            have T : Hid (Sort.ltInt v dk[k]! = false → Sort.scanDown (fun z => Sort.ltInt v z) dk i2 (k) = k) := fun h => scanDown_stop (fun z => Sort.ltInt v z) dk i2 k (.inr (by show Sort.ltInt v dk[k]! = false; rw [h]))
            generalize dk[k]! = u at c0 G T
            have hgi : (i2 : Int) ≤ (k : Int) := by omega
            have hz1 : (k : Int) < (n : Int) := by omega
            have hz2 : (x : Int) < (n : Int) := by omega
            clear hle
            cases hl : Sort.ltInt v u with
            | true =>
              have E := hide (G.out hl)
              clear G T
              go_wp2
              go_quiet ((go_at_call 22; exact (less_any _ _ _).mono (fun e w'' h => ⟨h.1, ⟨_, h.2⟩⟩)))
              go_wp2
              go_roundg (k - 1)
              case measure => omega
              case rel => exact ⟨k - 1, by go_num, by omega, by omega, by omega, hrw.out.alike rfl rfl rfl rfl, by show _ = _; rw [hI.out, E.out]⟩
            | false =>
              have E := hide (T.out hl)
              clear G T
              go_wp2
              go_quiet ((go_at_call 22; exact (less_any _ _ _).mono (fun e w'' h => ⟨h.1, ⟨_, h.2⟩⟩)))
              go_wp2
              go_meet
              case rel => exact ⟨k, rfl, hk0, hk1, by show _ = _; rw [hI.out, E.out], hrw.out.alike rfl rfl rfl rfl⟩
      case rest =>
        obtain ⟨j2, rfl, h3a, h3b, h3, hrw3⟩ := hcut
        rcases Nat.lt_or_ge j2 i2 with hbr | hgo
        · have E := hide (peq_stop x i j i2 j2 v dk HV.out h2.out h3.out hbr)
          have hgi : (j2 : Int) < (i2 : Int) := by omega
          go_wp2
          go_ret
          exact ⟨by rw [hI.out, E.out]; rfl, by rw [hI.out, E.out]; exact hrw3.out⟩
        · have E := hide (peq_go x i j i2 j2 v dk HV.out h2.out h3.out hgo)
          have hgi : (i2 : Int) ≤ (j2 : Int) := by omega
          have c0 := hrw3.out.cell HO.out i2 (by have := hs.out; omega)
          have c1 := hrw3.out.cell HO.out j2 (by have := hs.out; omega)
          have f0 := hrw3.out.free (off + i2)
          have f1 := hrw3.out.free (off + j2)
          have SW := hide (hrw3.out.swap HO.out i2 j2 (by have := hs.out; omega) (by have := hs.out; omega))
          have c2 := hrw3.out.cell2 HO.out i2 j2 (by have := hs.out; omega) (by have := hs.out; omega) dk[j2]!
          generalize (dk.setIfInBounds i2 dk[j2]!)[j2]! = z at c2
          generalize dk[i2]! = u at c0 SW
          generalize dk[j2]! = v' at c1 c2 SW
          have hz0 : (i2 : Int) < (n : Int) := by omega
          have hz1 : (j2 : Int) < (n : Int) := by omega
          go_wp2
          go_region
          go_wp2
          go_roundg (j2 - 1 + 1 - (i2 + 1))
          case measure => omega
          case rel => exact ⟨i2 + 1, j2 - 1, _, by go_num, by go_num, by omega, by omega, by omega, by omega, by show _ = _; rw [Sort.size_swp]; exact hs.out, SW.out.alike rfl rfl rfl rfl, by show _ = _; rw [hI.out, E.out]⟩
end Go.Proofs.Ybulkcxha
