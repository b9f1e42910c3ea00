import Derived.Test.YbulkcxhaR
namespace Go.Proofs.Ybulkcxha
open Go.RowKit

theorem insInner_go (a j : Nat) (d : Array Int) (hj : a < j) (hl : Sort.ltInt d[j]! d[j - 1]! = true) : Sort.insInner Sort.ltInt a j d = Sort.insInner Sort.ltInt a (j - 1) (Sort.swp d j (j - 1)) := by
  obtain ⟨k, rfl⟩ : ∃ k, j = k + 1 := ⟨j - 1, by omega⟩
  rw [Sort.insInner]
  simp only [Nat.add_sub_cancel] at hl ⊢
  simp [hj, hl]
theorem insInner_stop (a j : Nat) (d : Array Int) (h : j ≤ a ∨ Sort.ltInt d[j]! d[j - 1]! = false) : Sort.insInner Sort.ltInt a j d = d := by
  cases j with
  | zero => rw [Sort.insInner]
  | succ k =>
    rw [Sort.insInner]
    simp only [Nat.add_sub_cancel] at h
    rcases h with h | h
    · simp [show ¬ k + 1 > a by omega]
    · simp [h]
theorem insInner_size (a j : Nat) : ∀ d : Array Int, (Sort.insInner Sort.ltInt a j d).size = d.size := by
  induction j with
  | zero => intro d; rw [Sort.insInner]
  | succ j ih =>
    intro d
    rw [Sort.insInner]
    split
    · rw [ih, Sort.size_swp]
    · rfl

set_option maxHeartbeats 4000000 in
theorem insertion_any (b off n cap x y : Nat) (pre post : List Value) (d : Array Int) (w0 w : World) (hR : Rw w0 w b pre d post) (ho : off = pre.length) (hn : n = d.size) (hxy : x ≤ y) (hy : y ≤ n) (hsz : n ≤ 100000) :
    Calls Yba.prog 16 #[.slice (some ⟨b, off, none⟩) n cap, .int .i64 x, .int .i64 y] w fun e w' => e = .returned (.tuple #[]) ∧ Rw w0 w' b pre (Sort.insertionSort Sort.ltInt d x y) post := by
  have HR := hide hR
  have HO := hide ho
  have HN := hide hn
  clear hR ho hn
  go_enter Yba.func16, Yba.ntmps16
  go_wp2
  go_loopg [6] n (fun kx s6 wr => ∃ (i : Nat) (dk : Array Int), s6 = .int .i64 i ∧ x < i ∧ i ≤ y + 1 ∧ y + 1 - i ≤ kx ∧ Hid (dk.size = n) ∧ Hid (Rw w0 wr b pre dk post) ∧ Hid (Sort.insOuter Sort.ltInt x y i dk = Sort.insertionSort Sort.ltInt d x y))
  case atStart => exact ⟨x + 1, d, by go_num, by omega, by omega, by omega, HN.out.symm, HR, rfl⟩
  case round =>
    obtain ⟨i, dk, rfl, hi1, hi2, hg, hs, hr, hO⟩ := hrel
    rcases Nat.lt_or_ge i y with hlt | hge
    · have hO2 : Hid (Sort.insOuter Sort.ltInt x y (i + 1) (Sort.insInner Sort.ltInt x i dk) = Sort.insertionSort Sort.ltInt d x y) := by
        show _ = _
        rw [← hO.out]
        conv => rhs; rw [Sort.insOuter, if_pos hlt]
      clear hO
      go_wp2
      go_loopg [7] i (fun kx s7 wr => ∃ (j : Nat) (dj : Array Int), s7 = .int .i64 j ∧ x ≤ j ∧ j ≤ i ∧ j ≤ kx ∧ Hid (dj.size = n) ∧ Hid (Rw w0 wr b pre dj post) ∧ Hid (Sort.insInner Sort.ltInt x j dj = Sort.insInner Sort.ltInt x i dk))
      case atStart => exact ⟨i, dk, rfl, by omega, Nat.le_refl _, Nat.le_refl _, hs, hr, rfl⟩
      case round =>
        obtain ⟨j, dj, rfl, hj1, hj2, hgj, hsj, hrj, hI⟩ := hrel
        rcases Nat.lt_or_ge x j with hxj | hxj
        · have c0 := hrj.out.cell HO.out j (by have := hsj.out; omega)
          have c1 := hrj.out.cell HO.out (j - 1) (by have := hsj.out; omega)
          have f0 := hrj.out.free (off + j)
          have f1 := hrj.out.free (off + (j - 1))
          have SW := hide (hrj.out.swap HO.out j (j - 1) (by have := hsj.out; omega) (by have := hsj.out; omega))
          have G := hide (insInner_go x j dj hxj)
          have T := hide (insInner_stop x j dj)
          generalize dj[j]! = u at c0 SW G T
          generalize dj[j - 1]! = v at c1 SW G T
          have hz1 : (0 : Int) ≤ (j : Int) - 1 := by omega
          have hz2 : (j : Int) < (n : Int) := by omega
          cases hl : Sort.ltInt u v with
          | true =>
            have E := hide (G.out hl)
            clear G T
            go_wp2
            go_quiet ((go_at_call 22; exact Calls.quiet_of_same (less_any _ _ _)))
            go_wp2
            clear hl
            go_region
            go_wp2
            go_roundg (j - 1)
            case measure => omega
            case rel => exact ⟨j - 1, _, by go_num, by omega, by omega, by omega, by show _ = _; rw [Sort.size_swp]; exact hsj.out, (SW.out.drewN nq).drew, by show _ = _; rw [← E.out]; exact hI.out⟩
          | false =>
            have E := hide (T.out (.inr hl))
            clear G T SW
            go_wp2
            go_quiet ((go_at_call 22; exact Calls.quiet_of_same (less_any _ _ _)))
            go_wp2
            go_roundg (y + 1 - (i + 1))
            case measure => omega
            case rel => exact ⟨i + 1, dj, by go_num, by omega, by omega, by omega, hsj, hrj.out.drewN nq, by show _ = _; rw [← hO2.out, ← hI.out, E.out]⟩
        · have E := hide (insInner_stop x j dj (.inl hxj))
          have hd : decide (x < j) = false := by simp; omega
          go_wp2
          go_quiet (fail)
          go_wp2
          go_roundg (y + 1 - (i + 1))
          case measure => omega
          case rel => exact ⟨i + 1, dj, by go_num, by omega, by omega, by omega, hsj, hrj.out.drewN nq, by show _ = _; rw [← hO2.out, ← hI.out, E.out]⟩
    · go_wp2
      go_end0
      exact ⟨rfl, by rw [← hO.out, Sort.insOuter, if_neg (by omega)]; exact hr.out⟩
end Go.Proofs.Ybulkcxha
