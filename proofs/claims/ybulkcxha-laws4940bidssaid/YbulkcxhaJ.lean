import Derived.Test.YbulkcxhaI
namespace Go.Proofs.Ybulkcxha
open Go.RowKit

theorem wrapJ (x : Int) (h : -1000000 ≤ x ∧ x ≤ 1000000) : IntKind.i64.wrap x = x := by rw [IntKind.wrap_i64]; omega

set_option maxHeartbeats 4000000 in
theorem rev_any (b off n cap x y : Nat) (pre post : List Value) (d : Array Int) (w0 w : World) (hR : Rw w0 w b pre d post) (ho : off = pre.length) (hn : n = d.size) (hxy : x < y) (hy : y ≤ n) (hsz : n ≤ 100000) :
    Calls Yba.prog 20 #[.slice (some ⟨b, off, none⟩) n cap, .int .i64 x, .int .i64 y] w fun e w' => e = .returned (.tuple #[]) ∧ Rw w0 w' b pre (Sort.reverseRange d x y) post := by
  have HR := hide hR
  have HO := hide ho
  have HN := hide hn
  clear hR ho hn
  go_enter Yba.func20, Yba.ntmps20
  go_wp2
  go_loopg [6, 7] n (fun kx s6 s7 wr => ∃ (i j : Nat) (dk : Array Int), s6 = .int .i64 i ∧ s7 = .int .i64 j ∧ i ≤ n ∧ j < n ∧ j - i ≤ kx ∧ Hid (dk.size = n) ∧ Hid (Rw w0 wr b pre dk post) ∧ Hid (Sort.reverseLoop i j dk = Sort.reverseRange d x y))
  case atStart => exact ⟨x, y - 1, d, rfl, by go_num, by omega, by omega, by omega, HN.out.symm, HR, rfl⟩
  case round =>
    obtain ⟨i, j, dk, rfl, rfl, hi, hj, hg, hs, hrw, hI⟩ := hrel
    rcases Nat.lt_or_ge i j with hlt | hge
    · have c0 := hrw.out.cell HO.out i (by have := hs.out; omega)
      have c1 := hrw.out.cell HO.out j (by have := hs.out; omega)
      have f0 := hrw.out.free (off + i)
      have f1 := hrw.out.free (off + j)
      have SW := hide (hrw.out.swap HO.out i j (by have := hs.out; omega) (by have := hs.out; omega))
      have E : Hid (Sort.reverseLoop i j dk = Sort.reverseLoop (i + 1) (j - 1) (Sort.swp dk i j)) := by
        show _ = _
        rw [Sort.reverseLoop, if_pos hlt]
      generalize dk[i]! = u at c0 SW
      generalize dk[j]! = v at c1 SW
      have hz0 : (i : Int) < (n : Int) := by omega
      have hz1 : (j : Int) < (n : Int) := by omega
      go_wp2
      go_region
      go_wp2
      go_roundg (j - 1 - (i + 1))
      case measure => omega
      case rel => exact ⟨i + 1, j - 1, _, by go_num, by go_num, by omega, by omega, by omega, by show _ = _; rw [Sort.size_swp]; exact hs.out, SW.out.alike rfl rfl rfl rfl, by show _ = _; rw [← E.out]; exact hI.out⟩
    · go_wp2
      go_end0
      exact ⟨rfl, by rw [← hI.out, Sort.reverseLoop, if_neg (by omega)]; exact hrw.out⟩
end Go.Proofs.Ybulkcxha
