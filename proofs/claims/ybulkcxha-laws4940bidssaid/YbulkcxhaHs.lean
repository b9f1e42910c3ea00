import Derived.Test.YbulkcxhaH
import Derived.BigRegion
import Derived.Test.YbulkcxhaE
namespace Go.Proofs.Ybulkcxha
open Go.RowKit

theorem sift_size (hi f : Nat) : ∀ (k r : Nat) (d : Array Int), hi - r ≤ k → (Sort.siftDown Sort.ltInt hi f r d).size = d.size := by
  intro k
  induction k with
  | zero => intro r d h; rw [sift_stop hi f r d (by omega)]
  | succ k ih =>
    intro r d h
    rcases Nat.lt_or_ge (2 * r + 1) hi with hl | hl
    · obtain ⟨c, hc⟩ : ∃ c, c = if (2 * r + 1 + 1 < hi && Sort.ltInt d[f + (2 * r + 1)]! d[f + (2 * r + 1) + 1]!) = true then 2 * r + 1 + 1 else 2 * r + 1 := ⟨_, rfl⟩
      have hc2 : hi - c ≤ k := by rw [hc]; split <;> omega
      rw [sift_step hi f r c d hl hc]
      split
      · rw [ih _ _ hc2, Sort.size_swp]
      · rfl
    · rw [sift_stop hi f r d hl]

set_option maxHeartbeats 8000000 in
theorem heap_any (b off n cap x L : Nat) (pre post : List Value) (d : Array Int) (w0 w : World) (hR : Rw w0 w b pre d post) (ho : off = pre.length) (hn : n = d.size) (hy : x + L ≤ n) (hL : 0 < L) (hsz : n ≤ 100000) :
    Calls Yba.prog 17 #[.slice (some ⟨b, off, none⟩) n cap, .int .i64 x, .int .i64 ((x + L : Nat) : Int)] w fun e w' => e = .returned (.tuple #[]) ∧ Rw w0 w' b pre (Sort.heapSort Sort.ltInt d x (x + L)) post := by
  have HR := hide hR
  have HO := hide ho
  have HN := hide hn
  have HA : Hid (Sort.heapSort Sort.ltInt d x (x + L) = Sort.heapPop Sort.ltInt x L (Sort.heapBuild Sort.ltInt L x ((L - 1) / 2 + 1) d)) := by
    show _ = _
    rw [Sort.heapSort, show x + L - x = L by omega]
  clear hR ho hn
  generalize Sort.heapSort Sort.ltInt d x (x + L) = D at HA ⊢
  go_enter Yba.func17, Yba.ntmps17
  have e2 : (x : Int) + (L : Int) - (x : Int) = (L : Int) := by omega
  have e4 : ((L : Int) - 1).tdiv 2 = (((L - 1) / 2 : Nat) : Int) := by
    rw [show (L : Int) - 1 = ((L - 1 : Nat) : Int) by omega]
    rfl
  have e5 : ((L : Int) - 1) / 2 = (((L - 1) / 2 : Nat) : Int) := by omega
  go_wp2
  go_loopg [9] n (fun kx s9 wr => ∃ (k : Nat) (dk : Array Int), ((k = 0 ∧ s9 = .int .i64 (-1)) ∨ ∃ i : Nat, k = i + 1 ∧ s9 = .int .i64 i) ∧ k ≤ L ∧ k ≤ kx ∧ Hid (dk.size = n) ∧ Hid (Rw w0 wr b pre dk post) ∧ Hid (Sort.heapBuild Sort.ltInt L x k dk = Sort.heapBuild Sort.ltInt L x ((L - 1) / 2 + 1) d))
  case atStart => exact ⟨(L - 1) / 2 + 1, d, .inr ⟨_, rfl, by congr 1⟩, by omega, by omega, HN.out.symm, HR, rfl⟩
  case round =>
    obtain ⟨k, dk, hs9, hk, hg, hs, hrw, hI⟩ := hrel
    rcases hs9 with ⟨rfl, rfl⟩ | ⟨i, rfl, rfl⟩
    · go_wp2
      go_loopg [10] n (fun kx s10 wr => ∃ (k : Nat) (dk : Array Int), ((k = 0 ∧ s10 = .int .i64 (-1)) ∨ ∃ i : Nat, k = i + 1 ∧ s10 = .int .i64 i) ∧ k ≤ L ∧ k ≤ kx ∧ Hid (dk.size = n) ∧ Hid (Rw w0 wr b pre dk post) ∧ Hid (Sort.heapPop Sort.ltInt x k dk = D))
      case atStart => exact ⟨L, dk, .inr ⟨L - 1, by omega, by go_num⟩, Nat.le_refl _, by omega, hs, hrw, by show _ = _; rw [HA.out, ← hI.out]; rfl⟩
      case round =>
        obtain ⟨k, dk, hs10, hk, hg, hs, hrw, hI⟩ := hrel
        rcases hs10 with ⟨rfl, rfl⟩ | ⟨i, rfl, rfl⟩
        · go_wp2
          go_end0
          exact ⟨rfl, by rw [← hI.out]; exact hrw.out⟩
        · have c0 := hrw.out.cell HO.out x (by have := hs.out; omega)
          have c1 := hrw.out.cell HO.out (x + i) (by have := hs.out; omega)
          have f0 := hrw.out.free (off + x)
          have f1 := hrw.out.free (off + (x + i))
          have SW := hide (hrw.out.swap HO.out x (x + i) (by have := hs.out; omega) (by have := hs.out; omega))
          have c2 := hrw.out.cell2 HO.out x (x + i) (by have := hs.out; omega) (by have := hs.out; omega) dk[x + i]!
          generalize (dk.setIfInBounds x dk[x + i]!)[x + i]! = z at c2
          generalize dk[x]! = u at c0 SW
          generalize dk[x + i]! = v at c1 c2 SW
          have p0 : (0 : Int) ≤ (x : Int) + (i : Int) := by omega
          have n0 : ((x : Int) + (i : Int)).toNat = x + i := by omega
          have hz0 : (x : Int) + (i : Int) < (n : Int) := by omega
          have hz1 : (x : Int) < (n : Int) := by omega
          go_wp2_with fail
          go_big_region
          go_wp2_with fail
          refine (sift_any b off n cap 0 i x pre post (Sort.swp dk x (x + i)) w0 _ SW.out.drew HO.out (by rw [Sort.size_swp]; exact hs.out.symm) (by omega) (by omega) hsz).mono ?_
          rintro e w' ⟨rfl, hr2⟩
          have HR2 := hide hr2
          clear hr2
          go_wp2
          go_roundg i
          case measure => omega
          case rel =>
            refine ⟨i, _, ?_, by omega, Nat.le_refl _, ?_, HR2, ?_⟩
            · cases i with
              | zero => exact .inl ⟨rfl, by go_num⟩
              | succ i => exact .inr ⟨i, rfl, by go_num⟩
            · show _ = _; rw [sift_size i x i 0 _ (by omega), Sort.size_swp]; exact hs.out
            · show _ = _; rw [← hI.out]; rfl
    · go_wp2_with fail
      refine (sift_any b off n cap i L x pre post dk w0 _ hrw.out HO.out hs.out.symm (by omega) (by omega) hsz).mono ?_
      rintro e w' ⟨rfl, hr2⟩
      have HR2 := hide hr2
      clear hr2
      go_wp2
      go_roundg i
      case measure => omega
      case rel =>
        refine ⟨i, _, ?_, by omega, Nat.le_refl _, ?_, HR2, ?_⟩
        · cases i with
          | zero => exact .inl ⟨rfl, by go_num⟩
          | succ i => exact .inr ⟨i, rfl, by go_num⟩
        · show _ = _; rw [sift_size L x L i _ (by omega)]; exact hs.out
        · show _ = _; rw [← hI.out]; rfl
end Go.Proofs.Ybulkcxha
