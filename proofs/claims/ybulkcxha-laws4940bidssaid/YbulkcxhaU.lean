import Derived.Test.YbulkcxhaHs
import Derived.Test.YbulkcxhaJ
import Derived.Test.YbulkcxhaK
import Derived.Test.YbulkcxhaO
import Derived.Test.YbulkcxhaQ
import Derived.Test.YbulkcxhaT
namespace Go.Proofs.Ybulkcxha
open Go.RowKit

theorem heap_y (b off n cap x y : Nat) (pre post : List Value) (d : Array Int) (w0 w : World) (hR : Rw w0 w b pre d post) (ho : off = pre.length) (hn : n = d.size) (hxy : x < y) (hy : y ≤ n) (hsz : n ≤ 100000) :
    Calls Yba.prog 17 #[.slice (some ⟨b, off, none⟩) n cap, .int .i64 x, .int .i64 y] w fun e w' => e = .returned (.tuple #[]) ∧ Rw w0 w' b pre (Sort.heapSort Sort.ltInt d x y) post := by
  have h := heap_any b off n cap x (y - x) pre post d w0 w hR ho hn (by omega) (by omega) hsz
  rwa [show x + (y - x) = y by omega] at h
theorem choose_y (b off n cap x y : Nat) (pre post : List Value) (d : Array Int) (w0 w : World) (hR : Rw w0 w b pre d post) (ho : off = pre.length) (hn : n = d.size) (hxy : x + 12 < y) (hy : y ≤ n) (hsz : n ≤ 100000) :
    Calls Yba.prog 19 #[.slice (some ⟨b, off, none⟩) n cap, .int .i64 x, .int .i64 y] w fun e w' => ∃ p h : Nat, e = .returned (.tuple #[.int .i64 p, .int .i64 h]) ∧ x ≤ p ∧ p < y ∧ h ≤ 2 ∧ Rw w0 w' b pre d post := by
  have h := choose_any b off n cap x (y - x) pre post d w0 w hR ho hn (by omega) (by omega) hsz
  rwa [show x + (y - x) = y by omega] at h
theorem break_y (b off n cap x y : Nat) (pre post : List Value) (d : Array Int) (w0 w : World) (hR : Rw w0 w b pre d post) (ho : off = pre.length) (hn : n = d.size) (hxy : x + 12 < y) (hy : y ≤ n) (hsz : n ≤ 100000) :
    Calls Yba.prog 18 #[.slice (some ⟨b, off, none⟩) n cap, .int .i64 x, .int .i64 y] w fun e w' => e = .returned (.tuple #[]) ∧ ∃ d', Rw w0 w' b pre d' post ∧ Sort.PermIn x y d d' := by
  have h := break_any b off n cap x (y - x) pre post d w0 w hR ho hn (by omega) (by omega) hsz
  rwa [show x + (y - x) = y by omega] at h
theorem parteq_y (b off n cap x y p : Nat) (pre post : List Value) (d : Array Int) (w0 w : World) (hR : Rw w0 w b pre d post) (ho : off = pre.length) (hn : n = d.size) (hxp : x ≤ p) (hpy : p < y) (hy : y ≤ n) (hsz : n ≤ 100000) :
    Calls Yba.prog 23 #[.slice (some ⟨b, off, none⟩) n cap, .int .i64 x, .int .i64 y, .int .i64 p] w fun e w' => ∃ (mid : Nat) (d4 : Array Int), Sort.partitionEqual Sort.ltInt d x y p = (mid, d4) ∧ e = .returned (.int .i64 mid) ∧ Rw w0 w' b pre d4 post := by
  have h := parteq_any b off n cap x (y - 1) p pre post d w0 w hR ho hn hxp (by omega) (by omega) hsz
  rw [show y - 1 + 1 = y by omega] at h
  exact h.mono (fun e w' hh => ⟨_, _, rfl, hh.1, hh.2⟩)
theorem part_y (b off n cap x y p : Nat) (pre post : List Value) (d : Array Int) (w0 w : World) (hR : Rw w0 w b pre d post) (ho : off = pre.length) (hn : n = d.size) (hxp : x ≤ p) (hpy : p < y) (hy : y ≤ n) (hsz : n ≤ 100000) :
    Calls Yba.prog 24 #[.slice (some ⟨b, off, none⟩) n cap, .int .i64 x, .int .i64 y, .int .i64 p] w fun e w' => ∃ (mid : Nat) (ap : Bool) (d4 : Array Int), Sort.partition Sort.ltInt d x y p = (mid, ap, d4) ∧ e = .returned (.tuple #[.int .i64 mid, .bool ap]) ∧ Rw w0 w' b pre d4 post := by
  have h := part_any b off n cap x (y - 1) p pre post d w0 w hR ho hn hxp (by omega) (by omega) hsz
  rw [show y - 1 + 1 = y by omega] at h
  exact h.mono (fun e w' hh => ⟨_, _, _, rfl, hh.1, hh.2⟩)

/-- Whatever sorts what is left sorts the whole. -/
def Ends (x y : Nat) (d : Array Int) (a z : Nat) (dk : Array Int) : Prop := ∀ R, Sort.PermIn a z dk R → Sort.SortedIn Sort.ltInt a z R → Sort.PermIn x y d R ∧ Sort.SortedIn Sort.ltInt x y R

set_option maxHeartbeats 16000000 in
set_option maxRecDepth 100000 in
theorem pdq_any (b off n cap : Nat) (pre post : List Value) (w0 : World) (ho : off = pre.length) (hsz : n ≤ 100000) : ∀ (N x y : Nat) (lim : Int) (d : Array Int) (w : World), y - x ≤ N → x ≤ y → y ≤ n → n = d.size → Rw w0 w b pre d post → Sort.Below Sort.ltInt x y d →
    Calls Yba.prog 12 #[.slice (some ⟨b, off, none⟩) n cap, .int .i64 x, .int .i64 y, .int .i64 lim] w fun e w' => e = .returned (.tuple #[]) ∧ ∃ d', Rw w0 w' b pre d' post ∧ Sort.PermIn x y d d' ∧ Sort.SortedIn Sort.ltInt x y d' := by
  intro N
  induction N using Nat.strongRecOn with
  | _ N ih =>
  intro x y lim d w hN hxy hy hn hR hB
  have IH := hide ih
  have HO := hide ho
  have HN := hide hn
  have HR := hide hR
  have HB := hide hB
  clear ih ho hn hR hB
  go_enter Yba.func12, Yba.ntmps12
  go_wp2_with fail
  go_loopg [1, 2, 3, 8, 9] N (fun kx s1 s2 s3 s8 s9 wr => ∃ (a z : Nat) (lim : Int) (wb wp : Bool) (dk : Array Int), s1 = .int .i64 a ∧ s2 = .int .i64 z ∧ s3 = .int .i64 lim ∧ s8 = .bool wb ∧ s9 = .bool wp ∧ a ≤ z ∧ z ≤ n ∧ z - a ≤ kx ∧ z - a ≤ N ∧ Hid (n = dk.size) ∧ Hid (Rw w0 wr b pre dk post) ∧ Hid (Sort.Below Sort.ltInt a z dk) ∧ Hid (Ends x y d a z dk))
  case atStart => exact ⟨x, y, lim, true, true, d, rfl, rfl, rfl, rfl, rfl, hxy, hy, hN, hN, HN, HR, HB, fun R h1 h2 => ⟨h1, h2⟩⟩
  case round =>
    obtain ⟨a, z, lim, wb, wp, dk, rfl, rfl, rfl, rfl, rfl, haz, hzn, hg, hzN, hs, hrw, hBk, hE⟩ := hrel
    rcases Nat.lt_or_ge 12 (z - a) with h12 | h12
    · have g12 : (12 : Int) < (z : Int) - (a : Int) := by omega
      by_cases h0 : lim = 0
      · subst h0
        go_wp2_with fail
        refine (heap_y b off n cap a z pre post dk w0 _ hrw.out HO.out hs.out (by omega) hzn hsz).mono ?_
        rintro e w1 ⟨rfl, hr1⟩
        have R1 := hide hr1
        clear hr1
        go_wp2
        have H := Sort.heapSort_holds Sort.swo_ltInt dk a z haz (by rw [← hs.out]; exact hzn)
        exact bodyPost_ret (results_none rfl _ _ _) rfl ⟨rfl, _, R1.out, hE.out _ H.1 H.2⟩
      · have b0 : (lim == 0) = false := by simp [h0]
        go_upto_if 35 with fail
        go_cut [3] from 19 to 133 (fun s3 wc => ∃ (lim : Int) (d1 : Array Int), s3 = .int .i64 lim ∧ Hid (Rw w0 wc b pre d1 post) ∧ Hid (Sort.PermIn a z dk d1))
        case first =>
          cases wb with
          | true =>
            go_wp2
            go_meet
            case rel => exact ⟨lim, dk, rfl, hrw, Sort.permIn_refl _ _ _⟩
          | false =>
            go_wp2_with fail
            refine (break_y b off n cap a z pre post dk w0 _ hrw.out HO.out hs.out (by omega) hzn hsz).mono ?_
            rintro e w1 ⟨rfl, d1, hr1, hp1⟩
            have R1 := hide hr1
            have P1 := hide hp1
            clear hr1 hp1
            go_wp2
            go_meet
            case rel => exact ⟨_, d1, rfl, R1, P1⟩
        case rest =>
          obtain ⟨lim, d1, rfl, R1, P1⟩ := hcut
          clear hrw b0 h0
          have S1 : Hid (n = d1.size) := by show _ = _; rw [P1.out.1]; exact hs.out
          go_wp2_with fail
          refine (choose_y b off n cap a z pre post d1 w0 _ R1.out HO.out S1.out (by omega) hzn hsz).mono ?_
          rintro e w2 ⟨p, h, rfl, hp1, hp2, hh, hr2⟩
          have R2 := hide hr2
          clear hr2 R1
          go_upto_if 50 with fail
          go_cut [11, 12] from 19 to 133 (fun s11 s12 wc => ∃ (p h : Nat) (d2 : Array Int), s11 = .int .i64 p ∧ s12 = .int .i64 h ∧ a ≤ p ∧ p < z ∧ Hid (Rw w0 wc b pre d2 post) ∧ Hid (Sort.PermIn a z dk d2))
          case first =>
            by_cases h2 : h = 2
            · subst h2
              go_wp2_with fail
              refine (rev_any b off n cap a z pre post d1 w0 _ R2.out HO.out S1.out (by omega) hzn hsz).mono ?_
              rintro e w3 ⟨rfl, hr3⟩
              have R3 := hide hr3
              have P3 := hide (Sort.permIn_trans _ _ _ _ _ P1.out (Sort.reverseRange_holds d1 a z (by omega) (by rw [← S1.out]; exact hzn)))
              clear hr3
              go_wp2
              go_meet
              case rel => exact ⟨z - 1 - (p - a), 1, _, by go_num, rfl, by omega, by omega, R3, P3⟩
            · have b2 : ((h : Int) == 2) = false := by simp; omega
              go_wp2
              go_meet
              case rel => exact ⟨p, h, d1, rfl, rfl, hp1, hp2, R2, P1⟩
          case rest =>
            obtain ⟨p, h, d2, rfl, rfl, hp1, hp2, R3, P2⟩ := hcut
            clear R2 P1 S1
            have S2 : Hid (n = d2.size) := by show _ = _; rw [P2.out.1]; exact hs.out
            go_upto_region 15 with fail
            go_cut [68] from 19 to 133 (fun s68 wc => ∃ t : Bool, s68 = .bool t ∧ Hid (Rw w0 wc b pre d2 post))
            case first =>
              cases wb <;> cases wp <;> go_wp2 <;> go_meet
              case rel => exact ⟨_, rfl, R3⟩
              case rel => exact ⟨_, rfl, R3⟩
              case rel => exact ⟨_, rfl, R3⟩
              case rel => exact ⟨_, rfl, R3⟩
            case rest =>
              obtain ⟨t, rfl, R4⟩ := hcut
              clear R3
              go_upto_if 68 with fail
              go_cut [12] from 19 to 133 (fun _ wc => ∃ d3 : Array Int, Hid (Rw w0 wc b pre d3 post) ∧ Hid (Sort.PermIn a z dk d3))
              case first =>
                cases t with
                | false =>
                  go_wp2
                  go_meet
                  case rel => exact ⟨d2, R4, P2⟩
                | true =>
                  go_wp2_with fail
                  refine (pins_any b off n cap a z pre post d2 w0 _ R4.out HO.out S2.out (by omega) hzn hsz).mono ?_
                  rintro e w5 ⟨rfl, hr5⟩
                  have R5 := hide hr5
                  have H5 := hide (Sort.partialInsertionSort_holds Sort.swo_ltInt d2 a z (by omega) (by rw [← S2.out]; exact hzn) (hBk.out.perm (by rw [← hs.out]; exact hzn) P2.out))
                  clear hr5
                  rcases hQ : Sort.partialInsertionSort Sort.ltInt d2 a z with ⟨d3, r⟩
                  rw [hQ] at R5 H5
                  have P5 : Hid (Sort.PermIn a z dk d3) := Sort.permIn_trans _ _ _ _ _ P2.out H5.out.1
                  have Q5 : Hid (r = true → Sort.SortedIn Sort.ltInt a z d3) := H5.out.2
                  clear hQ H5
                  cases r with
                  | true =>
                    go_wp2
                    exact bodyPost_ret (results_none rfl _ _ _) rfl ⟨rfl, _, R5.out, hE.out _ P5.out (Q5.out (by trivial))⟩
                  | false =>
                    go_wp2
                    go_meet
                    case rel => exact ⟨d3, R5, P5⟩
              case rest =>
                obtain ⟨d3, R5, P3⟩ := hcut
                clear R4 P2 S2
                have S3 : Hid (n = d3.size) := by show _ = _; rw [P3.out.1]; exact hs.out
                have B3 : Hid (Sort.Below Sort.ltInt a z d3) := hBk.out.perm (by rw [← hs.out]; exact hzn) P3.out
                have N3 : Hid (z ≤ d3.size) := by show _ ≤ _; rw [← S3.out]; exact hzn
                go_upto_region 17 with fail
                go_cut [87] from 19 to 133 (fun s87 wc => ∃ t : Bool, s87 = .bool t ∧ Hid (t = true → 0 < a ∧ Sort.ltInt d3[a - 1]! d3[p]! = false) ∧ Hid (Rw w0 wc b pre d3 post))
                case first =>
                  rcases Nat.eq_zero_or_pos a with ha | ha
                  · subst ha
                    go_quiet (fail)
                    go_wp2
                    go_meet
                    case rel => exact ⟨false, rfl, (fun h => by cases h), R5.out.alike rfl rfl rfl rfl⟩
                  · have c0 := R5.out.cell HO.out (a - 1) (by have := S3.out; omega)
                    have c1 := R5.out.cell HO.out p (by have := S3.out; omega)
                    obtain ⟨u, hu⟩ : ∃ u, u = d3[a - 1]! := ⟨_, rfl⟩
                    obtain ⟨v, hv⟩ : ∃ v, v = d3[p]! := ⟨_, rfl⟩
                    have T : Hid (Hid ((!Sort.ltInt u v) = true → 0 < a ∧ Sort.ltInt d3[a - 1]! d3[p]! = false)) := fun h => ⟨ha, by rw [← hu, ← hv]; simpa using h⟩
                    rw [← hu] at c0
                    rw [← hv] at c1
                    clear hu hv
                    have hgi : (0 : Int) < (a : Int) := by omega
                    have hz1 : (p : Int) < (n : Int) := by omega
                    have hz2 : (0 : Int) ≤ (a : Int) - 1 := by omega
                    have hz3 : (a : Int) - 1 < (n : Int) := by omega
                    have n0 : ((a : Int) - 1).toNat = a - 1 := by omega
                    go_quiet ((go_at_call 22; exact (less_any _ _ _).mono (fun e w'' h => ⟨h.1, ⟨_, h.2⟩⟩)))
                    go_wp2
                    go_meet
                    case rel => exact ⟨!Sort.ltInt u v, rfl, T.out, R5.out.alike rfl rfl rfl rfl⟩
                case rest =>
                  obtain ⟨t, rfl, ht, R6⟩ := hcut
                  clear R5
                  cases t with
                  | true =>
                    have ht2 := hide (ht.out rfl)
                    go_wp2_with fail
                    refine (parteq_y b off n cap a z p pre post d3 w0 _ R6.out HO.out S3.out hp1 hp2 hzn hsz).mono ?_
                    rintro e w7 ⟨mid, d4, hq, rfl, hr7⟩
                    have R7 := hide hr7
                    obtain ⟨g1, g2, g3, g4, g5⟩ := Sort.round_eq Sort.swo_ltInt (Sort.partitionEqual_holds _) ht2.out.1 hp1 hp2 N3.out B3.out ht2.out.2 hq
                    have G3 := hide g3
                    have G4 := hide g4
                    have G5 := hide g5
                    clear hr7 hq g3 g4 g5
                    go_wp2
                    go_roundg (z - mid)
                    case measure => omega
                    case rel => exact ⟨mid, z, _, _, _, d4, rfl, rfl, rfl, rfl, rfl, g2, hzn, Nat.le_refl _, by omega, by show _ = _; rw [G3.out]; exact S3.out, R7, G4, fun R h1 h2 => hE.out R (Sort.permIn_trans _ _ _ _ _ P3.out (G5.out R h1 h2).1) (G5.out R h1 h2).2⟩
                  | false =>
                    go_wp2_with fail
                    refine (part_y b off n cap a z p pre post d3 w0 _ R6.out HO.out S3.out hp1 hp2 hzn hsz).mono ?_
                    rintro e w7 ⟨mid, ap, d4, hq, rfl, hr7⟩
                    have R7 := hide hr7
                    obtain ⟨g1, g2, g3, g4, g5, g6, g7⟩ := Sort.round_part Sort.swo_ltInt (Sort.partition_holds _) hp1 hp2 N3.out B3.out hq
                    have G3 := hide g3
                    have G4 := hide g4
                    have G5 := hide g5
                    have G6 := hide g6
                    have G7 := hide g7
                    have S4 : Hid (n = d4.size) := by show _ = _; rw [g3]; exact S3.out
                    have EM : Hid ((mid : Int) + 1 = ((mid + 1 : Nat) : Int)) := by show _ = _; omega
                    clear hr7 hq g3 g4 g5 g6 g7
                    rcases Nat.lt_or_ge (mid - a) (z - mid) with hl | hl
                    · have hli : (mid : Int) - (a : Int) < (z : Int) - (mid : Int) := by omega
                      go_wp2_with fail
                      refine (IH.out (mid - a) (by omega) a mid _ d4 _ (Nat.le_refl _) g1 (by omega) S4.out R7.out G4.out).mono ?_
                      rintro e w8 ⟨rfl, dL, hr8, l1, l2⟩
                      have R8 := hide hr8
                      obtain ⟨m1, m2⟩ := G6.out dL l1 l2
                      have M1 := hide m1
                      have M2 := hide m2
                      have S5 : Hid (n = dL.size) := by show _ = _; rw [l1.1]; exact S4.out
                      clear hr8 l1 l2 m1 m2
                      go_wp2
                      go_roundg (z - (mid + 1))
                      case measure => omega
                      case rel => exact ⟨mid + 1, z, _, _, _, dL, by go_num, rfl, rfl, rfl, rfl, by omega, hzn, Nat.le_refl _, by omega, S5, R8, M1, fun R h1 h2 => hE.out R (Sort.permIn_trans _ _ _ _ _ P3.out (M2.out R h1 h2).1) (M2.out R h1 h2).2⟩
                    · have hli : (z : Int) - (mid : Int) ≤ (mid : Int) - (a : Int) := by omega
                      go_wp2_with fail
                      rw [EM.out]
                      refine (IH.out (z - (mid + 1)) (by omega) (mid + 1) z _ d4 _ (Nat.le_refl _) (by omega) hzn S4.out R7.out G5.out).mono ?_
                      rintro e w8 ⟨rfl, dL, hr8, l1, l2⟩
                      have R8 := hide hr8
                      obtain ⟨m1, m2⟩ := G7.out dL l1 l2
                      have M1 := hide m1
                      have M2 := hide m2
                      have S5 : Hid (n = dL.size) := by show _ = _; rw [l1.1]; exact S4.out
                      clear hr8 l1 l2 m1 m2
                      go_wp2
                      go_roundg (mid - a)
                      case measure => omega
                      case rel => exact ⟨a, mid, _, _, _, dL, rfl, rfl, rfl, rfl, rfl, g1, by omega, Nat.le_refl _, by omega, S5, R8, M1, fun R h1 h2 => hE.out R (Sort.permIn_trans _ _ _ _ _ P3.out (M2.out R h1 h2).1) (M2.out R h1 h2).2⟩
    · have g12 : (z : Int) - (a : Int) ≤ 12 := by omega
      go_wp2_with fail
      refine (insertion_any b off n cap a z pre post dk w0 _ hrw.out HO.out hs.out haz hzn hsz).mono ?_
      rintro e w1 ⟨rfl, hr1⟩
      have R1 := hide hr1
      clear hr1
      go_wp2
      have H := Sort.insertionSort_holds Sort.swo_ltInt dk a z haz (by rw [← hs.out]; exact hzn)
      exact bodyPost_ret (results_none rfl _ _ _) rfl ⟨rfl, _, R1.out, hE.out _ H.1 H.2⟩
end Go.Proofs.Ybulkcxha
