import Derived.Test.YbulkcxhaM
import Derived.Test.YbulkcxhaE
import Derived.BigRegion
namespace Go.Proofs.Ybulkcxha
open Go.RowKit

theorem wrapN (x : Int) (h : -1000000 ≤ x ∧ x ≤ 1000000) : IntKind.i64.wrap x = x := by rw [IntKind.wrap_i64]; omega
theorem aux_zero (f : Nat) : Lib.bitLenAux f 0 = 0 := by cases f <;> rfl
theorem aux_pow : ∀ (f x : Nat), 0 < x → 2 ^ Lib.bitLenAux f x ≤ 2 * x := by
  intro f
  induction f with
  | zero => intro x h; simp [Lib.bitLenAux]; omega
  | succ f ih =>
    intro x h
    rw [Lib.bitLenAux, if_neg (by omega)]
    rcases Nat.eq_zero_or_pos (x / 2) with h2 | h2
    · rw [h2, aux_zero]; omega
    · have := ih (x / 2) h2
      rw [Nat.pow_add]
      omega
theorem pow_ex (n : Nat) (h0 : 0 < n) (h : n ≤ 100000) : ∃ m : Nat, m < 2 * n ∧ m < 200000 ∧ IntKind.u64.wrap ((2 : Int) ^ min (Lib.bitLen n) 64) = ((m + 1 : Nat) : Int) := by
  have h1 := aux_pow 64 n h0
  have h2 : Lib.bitLen n ≤ 17 := Lib.bitLen_le n 17 (by omega) (by omega)
  have h3 : 2 ^ Lib.bitLen n ≤ 2 * n := h1
  have h4 : 0 < 2 ^ Lib.bitLen n := Nat.pos_of_ne_zero (by simp)
  refine ⟨2 ^ Lib.bitLen n - 1, by omega, by omega, ?_⟩
  rw [Nat.min_eq_left (by omega), IntKind.wrap_u64, show ((2 : Int) ^ Lib.bitLen n) = ((2 ^ Lib.bitLen n : Nat) : Int) by push_cast; rfl]
  generalize 2 ^ Lib.bitLen n = p at h3 h4
  omega

set_option maxHeartbeats 4000000 in
theorem npow_any (n : Nat) (w : World) (h0 : 0 < n) (hn : n ≤ 100000) :
    Calls Yba.prog 31 #[.int .i64 n] w fun e w' => ∃ m : Nat, m < 2 * n ∧ e = .returned (.int .u64 ((m + 1 : Nat) : Int)) ∧ w' = w := by
  obtain ⟨m, hm, _, he⟩ := pow_ex n h0 hn
  have HE := hide he
  clear he
  go_enter Yba.func31, Yba.ntmps31
  go_wp2_with fail
  refine (len_any (n : Int) _ (by omega) (by omega)).mono ?_
  rintro e w' ⟨rfl, rfl⟩
  go_wp2
  go_ret
  exact ⟨m, hm, by rw [← HE.out]; rfl, rfl⟩

theorem Fx.setNew {S : Nat → Prop} {a w : World} (h : Fx S a w) {p : Addr} (hp : a.heap.size ≤ p.block) (u : Value) : Fx S a (w.setCell p u) :=
  ⟨h.os, h.tape, h.output, Nat.le_trans h.size (by simp [World.setCell]), fun k hk hn => (heap_setCell_other w p k u (by omega)).trans (h.block k hk hn)⟩
theorem Rw.setNew {w0 w : World} {b : Nat} {pre post : List Value} {d : Array Int} (h : Rw w0 w b pre d post) (a : Addr) (hb : b ≠ a.block) (ha : w0.heap.size ≤ a.block) (u : Value) : Rw w0 (w.setCell a u) b pre d post :=
  ⟨h.blk.other a hb u, h.fx.setNew ha u⟩
theorem Rw.alloc {w0 w : World} {b : Nat} {pre post : List Value} {d : Array Int} (h : Rw w0 w b pre d post) (o : Obj) : Rw w0 (w.alloc o) b pre d post :=
  ⟨h.blk.alloc o, h.fx.alloc o⟩
theorem Blk.alike {w w' : World} {b : Nat} {cs : List Value} {t : TypeId} (h : Blk w b cs t) (hh : w'.heap = w.heap) : Blk w' b cs t := by unfold Blk; rw [hh]; exact h

set_option maxHeartbeats 4000000 in
theorem order_any (b off n cap i j sb s : Nat) (pre post : List Value) (d : Array Int) (w0 w : World) (hR : Rw w0 w b pre d post) (ho : off = pre.length) (hn : n = d.size) (hi : i < n) (hj : j < n) (_hsz : n ≤ 100000)
    (hB : Blk w sb [.int .i64 s] 3) (hne : b ≠ sb) (hsb : w0.heap.size ≤ sb) (hs : s ≤ 1000) :
    Calls Yba.prog 38 #[.slice (some ⟨b, off, none⟩) n cap, .int .i64 i, .int .i64 j, P0 sb] w fun e w' => ∃ i' j' s' : Nat, e = .returned (.tuple #[.int .i64 i', .int .i64 j']) ∧ ((i' = i ∧ j' = j) ∨ (i' = j ∧ j' = i)) ∧ s' ≤ s + 1 ∧ Rw w0 w' b pre d post ∧ Blk w' sb [.int .i64 s'] 3 := by
  have HR := hide hR
  have HO := hide ho
  have HN := hide hn
  have HB := hide hB
  have c0 := HR.out.cell HO.out i (by have := HN.out; omega)
  have c1 := HR.out.cell HO.out j (by have := HN.out; omega)
  have cs : w.cell? ⟨sb, 0, none⟩ = some (.int .i64 s) := hB.cell 0
  have fs := hB.free 0
  have HS := hide (hR.setNew ⟨sb, 0, none⟩ hne hsb (.int .i64 ((s : Int) + 1)))
  have HT := hide (hB.set 0 (.int .i64 ((s : Int) + 1)))
  clear hR ho hn hB
  generalize d[i]! = u at c0
  generalize d[j]! = v at c1
  have hz0 : (i : Int) < (n : Int) := by omega
  have hz1 : (j : Int) < (n : Int) := by omega
  go_enter Yba.func38, Yba.ntmps38
  go_wp2
  go_quiet ((go_at_call 22; exact (less_any _ _ _).mono (fun e w'' h => ⟨h.1, ⟨_, h.2⟩⟩)))
  go_wp2
  · go_ret2
    exact ⟨j, i, s + 1, rfl, .inr ⟨rfl, rfl⟩, Nat.le_refl _, HS.out.alike rfl rfl rfl rfl, HT.out.alike rfl⟩
  · go_ret2
    exact ⟨i, j, s, rfl, .inl ⟨rfl, rfl⟩, by omega, HR.out.alike rfl rfl rfl rfl, HB.out.alike rfl⟩

set_option maxHeartbeats 4000000 in
theorem median_any (b off n cap i j k sb s : Nat) (pre post : List Value) (d : Array Int) (w0 w : World) (hR : Rw w0 w b pre d post) (ho : off = pre.length) (hn : n = d.size) (hi : i < n) (hj : j < n) (hk : k < n) (hsz : n ≤ 100000)
    (hB : Blk w sb [.int .i64 s] 3) (hne : b ≠ sb) (hsb : w0.heap.size ≤ sb) (hs : s ≤ 900) :
    Calls Yba.prog 34 #[.slice (some ⟨b, off, none⟩) n cap, .int .i64 i, .int .i64 j, .int .i64 k, P0 sb] w fun e w' => ∃ r s' : Nat, e = .returned (.int .i64 r) ∧ (r = i ∨ r = j ∨ r = k) ∧ s' ≤ s + 3 ∧ Rw w0 w' b pre d post ∧ Blk w' sb [.int .i64 s'] 3 := by
  have HR := hide hR
  have HO := hide ho
  have HN := hide hn
  have HB := hide hB
  clear hR ho hn hB
  go_enter Yba.func34, Yba.ntmps34
  go_wp2_with fail
  refine (order_any b off n cap i j sb s pre post d w0 _ HR.out HO.out HN.out hi hj hsz HB.out hne hsb (by omega)).mono ?_
  rintro e w1 ⟨i1, j1, s1, rfl, hc1, hs1, hr1, hb1⟩
  have R1 := hide hr1
  have B1 := hide hb1
  have C1 := hide hc1
  have l1 : i1 < n ∧ j1 < n := by rcases hc1 with ⟨rfl, rfl⟩ | ⟨rfl, rfl⟩ <;> exact ⟨by omega, by omega⟩
  clear hr1 hb1 hc1
  go_wp2_with fail
  refine (order_any b off n cap j1 k sb s1 pre post d w0 _ R1.out HO.out HN.out l1.2 hk hsz B1.out hne hsb (by omega)).mono ?_
  rintro e w2 ⟨j2, k2, s2, rfl, hc2, hs2, hr2, hb2⟩
  have R2 := hide hr2
  have B2 := hide hb2
  have C2 := hide hc2
  have l2 : j2 < n ∧ k2 < n := by rcases hc2 with ⟨rfl, rfl⟩ | ⟨rfl, rfl⟩ <;> exact ⟨by omega, by omega⟩
  clear hr2 hb2 hc2
  go_wp2_with fail
  refine (order_any b off n cap i1 j2 sb s2 pre post d w0 _ R2.out HO.out HN.out l1.1 l2.1 hsz B2.out hne hsb (by omega)).mono ?_
  rintro e w3 ⟨i3, j3, s3, rfl, hc3, hs3, hr3, hb3⟩
  have R3 := hide hr3
  have B3 := hide hb3
  have C3 := hide hc3
  clear hr3 hb3 hc3
  go_wp2
  go_ret
  exact ⟨j3, s3, rfl, by have := C1.out; have := C2.out; have := C3.out; omega, by omega, R3.out, B3.out⟩

set_option maxHeartbeats 4000000 in
theorem medadj_any (b off n cap i sb s : Nat) (pre post : List Value) (d : Array Int) (w0 w : World) (hR : Rw w0 w b pre d post) (ho : off = pre.length) (hn : n = d.size) (hi : i + 2 < n) (hsz : n ≤ 100000)
    (hB : Blk w sb [.int .i64 s] 3) (hne : b ≠ sb) (hsb : w0.heap.size ≤ sb) (hs : s ≤ 900) :
    Calls Yba.prog 33 #[.slice (some ⟨b, off, none⟩) n cap, .int .i64 ((i + 1 : Nat) : Int), P0 sb] w fun e w' => ∃ r s' : Nat, e = .returned (.int .i64 r) ∧ i ≤ r ∧ r ≤ i + 2 ∧ s' ≤ s + 3 ∧ Rw w0 w' b pre d post ∧ Blk w' sb [.int .i64 s'] 3 := by
  have HR := hide hR
  have HO := hide ho
  have HN := hide hn
  have HB := hide hB
  clear hR ho hn hB
  have e1 : ((i + 1 : Nat) : Int) - 1 = (i : Int) := by omega
  have e2 : ((i + 1 : Nat) : Int) + 1 = ((i + 2 : Nat) : Int) := by omega
  go_enter Yba.func33, Yba.ntmps33
  go_wp2_with fail
  refine (median_any b off n cap i (i + 1) (i + 2) sb s pre post d w0 _ HR.out HO.out HN.out (by omega) (by omega) (by omega) hsz HB.out hne hsb (by omega)).mono ?_
  rintro e w1 ⟨r, s1, rfl, hc1, hs1, hr1, hb1⟩
  have R1 := hide hr1
  have B1 := hide hb1
  clear hr1 hb1
  go_wp2
  go_ret
  exact ⟨r, s1, rfl, by omega, by omega, by omega, R1.out, B1.out⟩
end Go.Proofs.Ybulkcxha
