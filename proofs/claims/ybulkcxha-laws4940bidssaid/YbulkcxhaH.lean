import Derived.Test.YbulkcxhaI
namespace Go.Proofs.Ybulkcxha
open Go.RowKit

theorem sift_stop (hi f r : Nat) (d : Array Int) (h : hi ≤ 2 * r + 1) : Sort.siftDown Sort.ltInt hi f r d = d := by
  rw [Sort.siftDown, dif_pos (by omega)]
theorem sift_step (hi f r c : Nat) (d : Array Int) (h : 2 * r + 1 < hi) (hc : c = if (2 * r + 1 + 1 < hi && Sort.ltInt d[f + (2 * r + 1)]! d[f + (2 * r + 1) + 1]!) = true then 2 * r + 1 + 1 else 2 * r + 1) :
    Sort.siftDown Sort.ltInt hi f r d = if Sort.ltInt d[f + r]! d[f + c]! = true then Sort.siftDown Sort.ltInt hi f c (Sort.swp d (f + r) (f + c)) else d := by
  rw [Sort.siftDown, dif_neg (by omega)]
  by_cases hb : (2 * r + 1 + 1 < hi && Sort.ltInt d[f + (2 * r + 1)]! d[f + (2 * r + 1) + 1]!) = true
  · rw [if_pos hb] at hc ⊢
    subst hc
    have h2 : 2 * r + 2 < hi := by
      rw [Bool.and_eq_true] at hb
      simpa using hb.1
    cases hl : Sort.ltInt d[f + r]! d[f + (2 * r + 2)]! <;> simp [h2]
  · rw [if_neg hb] at hc ⊢
    subst hc
    cases hl : Sort.ltInt d[f + r]! d[f + (2 * r + 1)]! <;> simp

theorem wrapI (x : Int) (h : -1000000 ≤ x ∧ x ≤ 1000000) : IntKind.i64.wrap x = x := by rw [IntKind.wrap_i64]; omega

set_option maxHeartbeats 8000000 in
theorem sift_any (b off n cap lo hi f : Nat) (pre post : List Value) (d : Array Int) (w0 w : World) (hR : Rw w0 w b pre d post) (ho : off = pre.length) (hn : n = d.size) (hf : f + hi ≤ n) (hlo : lo ≤ n) (hsz : n ≤ 100000) :
    Calls Yba.prog 30 #[.slice (some ⟨b, off, none⟩) n cap, .int .i64 lo, .int .i64 hi, .int .i64 f] w fun e w' => e = .returned (.tuple #[]) ∧ Rw w0 w' b pre (Sort.siftDown Sort.ltInt hi f lo d) post := by
  have HR := hide hR
  have HO := hide ho
  have HN := hide hn
  clear hR ho hn
  go_enter Yba.func30, Yba.ntmps30
  go_wp2
  go_loopg [8] (n + 1) (fun kx s8 wr => ∃ (r : Nat) (dk : Array Int), s8 = .int .i64 r ∧ r ≤ n ∧ n + 1 - r ≤ kx ∧ Hid (dk.size = n) ∧ Hid (Rw w0 wr b pre dk post) ∧ Hid (Sort.siftDown Sort.ltInt hi f r dk = Sort.siftDown Sort.ltInt hi f lo d))
  case atStart => exact ⟨lo, d, rfl, hlo, by omega, HN.out.symm, HR, rfl⟩
  case round =>
    obtain ⟨r, dk, rfl, hr, hg, hs, hrw, hI⟩ := hrel
    rcases Nat.lt_or_ge (2 * r + 1) hi with hlt | hge
    · have hsz2 := hs.out
      have cr := hrw.out.cell HO.out (f + r) (by omega)
      have c1 := hrw.out.cell HO.out (f + (2 * r + 1)) (by omega)
      have f0 := hrw.out.free (off + (f + r))
      have f1 := hrw.out.free (off + (f + (2 * r + 1)))
      have S1 := hide (hrw.out.swap HO.out (f + r) (f + (2 * r + 1)) (by omega) (by omega))
      have ST := hide (fun c hc => sift_step hi f r c dk hlt hc)
      have w0' := wrapI ((f : Int) + (r : Int)) (by omega)
      have w1' := wrapI ((f : Int) + (2 * (r : Int) + 1)) (by omega)
      have w2' := wrapI (2 * (r : Int) + 1 + 1) (by omega)
      have w3' := wrapI ((f : Int) + (2 * (r : Int) + 1) + 1) (by omega)
      have w4' := wrapI ((f : Int) + (2 * (r : Int) + 1 + 1)) (by omega)
      have p0 : (0 : Int) ≤ (f : Int) + (r : Int) := by omega
      have p1 : (0 : Int) ≤ (f : Int) + (2 * (r : Int) + 1) := by omega
      have p3 : (0 : Int) ≤ (f : Int) + (2 * (r : Int) + 1) + 1 := by omega
      have p4 : (0 : Int) ≤ (f : Int) + (2 * (r : Int) + 1 + 1) := by omega
      have n0 : ((f : Int) + (r : Int)).toNat = f + r := by omega
      have n1 : ((f : Int) + (2 * (r : Int) + 1)).toNat = f + (2 * r + 1) := by omega
      have n3 : ((f : Int) + (2 * (r : Int) + 1) + 1).toNat = f + (2 * r + 1) + 1 := by omega
      have n4 : ((f : Int) + (2 * (r : Int) + 1 + 1)).toNat = f + (2 * r + 1 + 1) := by omega
      have hz0 : (f : Int) + (r : Int) < (n : Int) := by omega
      have hz1 : (f : Int) + (2 * (r : Int) + 1) < (n : Int) := by omega
      rcases Nat.lt_or_ge (2 * r + 1 + 1) hi with h2 | h2
      · have c2 : wr.cell? ⟨b, off + (f + (2 * r + 1) + 1), none⟩ = some (.int .u32 dk[f + (2 * r + 1 + 1)]!) := hrw.out.cell HO.out (f + (2 * r + 1 + 1)) (by omega)
        have c2' := hrw.out.cell HO.out (f + (2 * r + 1 + 1)) (by omega)
        have f2 := hrw.out.free (off + (f + (2 * r + 1 + 1)))
        have S2 := hide (hrw.out.swap HO.out (f + r) (f + (2 * r + 1 + 1)) (by omega) (by omega))
        have hgi : 2 * (r : Int) + 1 + 1 < (hi : Int) := by omega
        have hz2 : (f : Int) + (2 * (r : Int) + 1) + 1 < (n : Int) := by omega
        have hz3 : (f : Int) + (2 * (r : Int) + 1 + 1) < (n : Int) := by omega
        cases hl : Sort.ltInt dk[f + (2 * r + 1)]! dk[f + (2 * r + 1 + 1)]! with
        | true =>
          have E := hide (ST.out (2 * r + 1 + 1) (by rw [show dk[f + (2 * r + 1) + 1]! = dk[f + (2 * r + 1 + 1)]! from rfl, hl]; simp [h2]))
          clear ST S1
          generalize dk[f + r]! = u at cr S2 E
          generalize dk[f + (2 * r + 1)]! = v1 at c1 hl
          generalize dk[f + (2 * r + 1 + 1)]! = v at c2 c2' hl S2 E
          cases hl2 : Sort.ltInt u v with
          | true =>
            rw [hl2, if_pos rfl] at E
            go_wp2
            go_quiet ((go_at_call 22; exact (less_any _ _ _).mono (fun e w'' h => ⟨h.1, ⟨_, h.2⟩⟩)))
            go_wp2
            go_quiet ((go_at_call 22; exact (less_any _ _ _).mono (fun e w'' h => ⟨h.1, ⟨_, h.2⟩⟩)))
            go_wp2
            clear hl2
            go_region
            go_wp2
            go_roundg (n + 1 - (2 * r + 1 + 1))
            case measure => omega
            case rel => exact ⟨2 * r + 1 + 1, _, by go_num, by omega, by omega, by show _ = _; rw [Sort.size_swp]; exact hs.out, S2.out.alike rfl rfl rfl rfl, by show _ = _; rw [← E.out]; exact hI.out⟩
          | false =>
            rw [hl2, if_neg (by simp)] at E
            go_wp2
            go_quiet ((go_at_call 22; exact (less_any _ _ _).mono (fun e w'' h => ⟨h.1, ⟨_, h.2⟩⟩)))
            go_wp2
            go_quiet ((go_at_call 22; exact (less_any _ _ _).mono (fun e w'' h => ⟨h.1, ⟨_, h.2⟩⟩)))
            go_wp2
            exact bodyPost_ret (results_none rfl _ _ _) rfl ⟨rfl, by rw [← hI.out, E.out]; exact hrw.out.alike rfl rfl rfl rfl⟩
        | false =>
          have E := hide (ST.out (2 * r + 1) (by rw [show dk[f + (2 * r + 1) + 1]! = dk[f + (2 * r + 1 + 1)]! from rfl, hl]; simp))
          clear ST S2
          generalize dk[f + r]! = u at cr S1 E
          generalize dk[f + (2 * r + 1)]! = v at c1 hl S1 E
          generalize dk[f + (2 * r + 1 + 1)]! = v2 at c2 c2' hl
          cases hl2 : Sort.ltInt u v with
          | true =>
            rw [hl2, if_pos rfl] at E
            go_wp2
            go_quiet ((go_at_call 22; exact (less_any _ _ _).mono (fun e w'' h => ⟨h.1, ⟨_, h.2⟩⟩)))
            go_wp2
            go_quiet ((go_at_call 22; exact (less_any _ _ _).mono (fun e w'' h => ⟨h.1, ⟨_, h.2⟩⟩)))
            go_wp2
            clear hl2
            go_region
            go_wp2
            go_roundg (n + 1 - (2 * r + 1))
            case measure => omega
            case rel => exact ⟨2 * r + 1, _, by go_num, by omega, by omega, by show _ = _; rw [Sort.size_swp]; exact hs.out, S1.out.alike rfl rfl rfl rfl, by show _ = _; rw [← E.out]; exact hI.out⟩
          | false =>
            rw [hl2, if_neg (by simp)] at E
            go_wp2
            go_quiet ((go_at_call 22; exact (less_any _ _ _).mono (fun e w'' h => ⟨h.1, ⟨_, h.2⟩⟩)))
            go_wp2
            go_quiet ((go_at_call 22; exact (less_any _ _ _).mono (fun e w'' h => ⟨h.1, ⟨_, h.2⟩⟩)))
            go_wp2
            exact bodyPost_ret (results_none rfl _ _ _) rfl ⟨rfl, by rw [← hI.out, E.out]; exact hrw.out.alike rfl rfl rfl rfl⟩
      · have hgi : decide (2 * (r : Int) + 1 + 1 < (hi : Int)) = false := by simp; omega
        have E := hide (ST.out (2 * r + 1) (by simp [show ¬ 2 * r + 1 + 1 < hi by omega]))
        clear ST
        generalize dk[f + r]! = u at cr S1 E
        generalize dk[f + (2 * r + 1)]! = v at c1 S1 E
        cases hl2 : Sort.ltInt u v with
        | true =>
          rw [hl2, if_pos rfl] at E
          go_wp2
          go_quiet ((go_at_call 22; exact (less_any _ _ _).mono (fun e w'' h => ⟨h.1, ⟨_, h.2⟩⟩)))
          go_wp2
          go_quiet ((go_at_call 22; exact (less_any _ _ _).mono (fun e w'' h => ⟨h.1, ⟨_, h.2⟩⟩)))
          go_wp2
          clear hl2
          go_region
          go_wp2
          go_roundg (n + 1 - (2 * r + 1))
          case measure => omega
          case rel => exact ⟨2 * r + 1, _, by go_num, by omega, by omega, by show _ = _; rw [Sort.size_swp]; exact hs.out, S1.out.alike rfl rfl rfl rfl, by show _ = _; rw [← E.out]; exact hI.out⟩
        | false =>
          rw [hl2, if_neg (by simp)] at E
          go_wp2
          go_quiet ((go_at_call 22; exact (less_any _ _ _).mono (fun e w'' h => ⟨h.1, ⟨_, h.2⟩⟩)))
          go_wp2
          go_quiet ((go_at_call 22; exact (less_any _ _ _).mono (fun e w'' h => ⟨h.1, ⟨_, h.2⟩⟩)))
          go_wp2
          exact bodyPost_ret (results_none rfl _ _ _) rfl ⟨rfl, by rw [← hI.out, E.out]; exact hrw.out.alike rfl rfl rfl rfl⟩
    · have E := hide (sift_stop hi f r dk hge)
      have hgi : (hi : Int) ≤ 2 * (r : Int) + 1 := by omega
      clear hge
      go_wp2
      go_end0
      exact ⟨rfl, by rw [← hI.out, E.out]; exact hrw.out⟩
end Go.Proofs.Ybulkcxha
