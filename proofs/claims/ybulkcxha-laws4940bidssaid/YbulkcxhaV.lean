import Derived.Test.YbulkcxhaU
namespace Go.Proofs.Ybulkcxha
open Go.RowKit

/-- The sorted list. -/
def srt (xs : List Int) : List Int := xs.mergeSort (fun x y => !Sort.ltInt y x)
theorem srt_len (xs : List Int) : (srt xs).length = xs.length := List.length_mergeSort _
theorem srt_nil : srt [] = [] := by simp [srt]
theorem ltInt_anti (x y : Int) (h1 : Sort.ltInt x y = false) (h2 : Sort.ltInt y x = false) : x = y := by
  unfold Sort.ltInt at h1 h2
  simp only [decide_eq_false_iff_not] at h1 h2
  omega

set_option maxHeartbeats 4000000 in
theorem sort_any (b off n cap : Nat) (pre post : List Value) (d : Array Int) (w0 w : World) (hR : Rw w0 w b pre d post) (ho : off = pre.length) (hn : n = d.size) (hsz : n ≤ 100000) :
    Calls Yba.prog 8 #[.slice (some ⟨b, off, none⟩) n cap] w fun e w' => e = .returned (.tuple #[]) ∧ Rw w0 w' b pre (srt d.toList).toArray post := by
  have HR := hide hR
  have HO := hide ho
  have HN := hide hn
  clear hR ho hn
  go_enter Yba.func8, Yba.ntmps8
  go_wp2_with fail
  refine (len_any (n : Int) _ (by omega) (by omega)).mono ?_
  rintro e w' ⟨rfl, rfl⟩
  go_wp2_with fail
  refine (pdq_any b off n cap pre post w0 HO.out hsz n 0 n _ d _ (by omega) (by omega) (Nat.le_refl _) HN.out HR.out (.inl rfl)).mono ?_
  rintro e w2 ⟨rfl, d', hr2, hp, hs⟩
  have hu := Sort.sorted_unique_holds Sort.swo_ltInt ltInt_anti d d' (by rw [← HN.out]; exact hp) (by rw [← HN.out]; exact hs)
  have R2 : Hid (Rw w0 w2 b pre (srt d.toList).toArray post) := by
    show Rw w0 w2 b pre (srt d.toList).toArray post
    rw [srt, ← hu]
    exact hr2
  clear hr2 hp hs hu
  go_wp2
  go_end0
  exact ⟨rfl, R2.out⟩

set_option maxHeartbeats 4000000 in
theorem ins_nil (a : Option Addr) (c : Nat) (w : World) : Calls Yba.prog 16 #[.slice a 0 c, .int .i64 0, .int .i64 0] w fun e w' => e = .returned (.tuple #[]) ∧ w' = w := by
  go_enter Yba.func16, Yba.ntmps16
  go_wp2
  go_loopg [6] 1 (fun _ s6 wr => s6 = .int .i64 1 ∧ wr = w)
  case atStart => exact ⟨by go_num, rfl⟩
  case round =>
    obtain ⟨rfl, rfl⟩ := hrel
    go_wp2
    go_end0
    exact ⟨rfl, rfl⟩
set_option maxHeartbeats 4000000 in
set_option maxRecDepth 100000 in
theorem pdq_nil (a : Option Addr) (c : Nat) (lim : Int) (w : World) : Calls Yba.prog 12 #[.slice a 0 c, .int .i64 0, .int .i64 0, .int .i64 lim] w fun e w' => e = .returned (.tuple #[]) ∧ w' = w := by
  go_enter Yba.func12, Yba.ntmps12
  go_wp2_with fail
  go_loopg [1, 2, 3, 8, 9] 1 (fun _ s1 s2 s3 s8 s9 wr => s1 = .int .i64 0 ∧ s2 = .int .i64 0 ∧ s3 = .int .i64 lim ∧ s8 = .bool true ∧ s9 = .bool true ∧ wr = w)
  case atStart => exact ⟨rfl, rfl, rfl, rfl, rfl, rfl⟩
  case round =>
    obtain ⟨rfl, rfl, rfl, rfl, rfl, rfl⟩ := hrel
    go_wp2_with fail
    refine (ins_nil a c _).mono ?_
    rintro e w1 ⟨rfl, rfl⟩
    go_wp2
    exact bodyPost_ret (results_none rfl _ _ _) rfl ⟨rfl, rfl⟩
set_option maxHeartbeats 4000000 in
theorem sort_nil (a : Option Addr) (c : Nat) (w : World) : Calls Yba.prog 8 #[.slice a 0 c] w fun e w' => e = .returned (.tuple #[]) ∧ w' = w := by
  go_enter Yba.func8, Yba.ntmps8
  go_wp2_with fail
  refine (len_any 0 _ (by omega) (by omega)).mono ?_
  rintro e w' ⟨rfl, rfl⟩
  go_wp2_with fail
  refine (pdq_nil a c _ _).mono ?_
  rintro e w2 ⟨rfl, rfl⟩
  go_wp2
  go_end0
  exact ⟨rfl, rfl⟩
end Go.Proofs.Ybulkcxha
