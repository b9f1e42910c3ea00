import Derived.Test.YbulkcxewA
namespace Go.Proofs.Ybulkcxew
open Go.RowKit

theorem belowDrewN {B : Nat} {a w : World} (h : Below B a w) (n : Nat) : Below B a (w.drewN n) := h.trans ⟨rfl, rfl, rfl, Nat.le_refl _, fun _ _ => rfl⟩

set_option maxHeartbeats 1000000 in
theorem search_zero (bs bf : Nat) (w : World) :
    Calls Yba.prog 6 #[.int .i64 0, .func (.func 7) #[] #[.pointer (some ⟨bs, 0, none⟩), .pointer (some ⟨bf, 0, none⟩)]] w fun e w' => e = .returned (.int .i64 0) ∧ w' = w := by
  go_enter Yba.func6, Yba.ntmps6
  go_wp2
  refine wp_loop_rounds 1 ?_; rw [rounds_succ]
  go_wp2
  go_ret
  exact ⟨rfl, rfl⟩

set_option maxHeartbeats 2000000 in
theorem standing_zero (ao : Option Addr) (cap : Nat) (x : Int) (w : World) :
    Calls Yba.prog 5 #[.slice ao 0 cap, .int .i64 x, .int .i64 x] w fun e w' => e = .returned (.int .i64 2) ∧ Below w.heap.size w w' := by
  go_enter Yba.func5, Yba.ntmps5
  go_wp2_with fail
  refine (search_zero _ _ _).mono ?_
  rintro e w' ⟨rfl, rfl⟩
  go_wp2
  go_ret
  exact ⟨rfl, ((Below.refl _ _).alloc (Nat.le_refl _) _).alloc (by simp) _⟩

set_option maxHeartbeats 2000000 in
theorem standing_any (b off n cap : Nat) (F La : Nat → Int) (x : Int) (w : World) (hn : n ≤ 1024) (hn0 : 0 < n) (hb : b < w.heap.size)
    (hf : ∀ i, i < n → w.cell? ⟨b, off + i * 2, none⟩ = some (.int .i64 (F i)))
    (hl : ∀ i, i < n → w.cell? ⟨b, off + i * 2 + 1, none⟩ = some (.int .i64 (La i))) (hmono : ∀ i j, i ≤ j → j < n → La i ≤ La j) (hap : ∀ i j, i < j → j < n → La i < F j) :
    Calls Yba.prog 5 #[.slice (some ⟨b, off, none⟩) n cap, .int .i64 x, .int .i64 x] w fun e w' => ∃ z : Int, e = .returned (.int .i64 z) ∧ (z = 0 ∨ z = 2) ∧ (z = 0 ↔ ∃ i, i < n ∧ F i ≤ x ∧ x ≤ La i) ∧ Below w.heap.size w w' := by
  have HF : Hid (∀ i, i < n → w.cell? ⟨b, off + i * 2, none⟩ = some (.int .i64 (F i))) := hf
  have HL : Hid (∀ i, i < n → w.cell? ⟨b, off + i * 2 + 1, none⟩ = some (.int .i64 (La i))) := hl
  have HM : Hid (∀ i j, i ≤ j → j < n → La i ≤ La j) := hmono
  have HA : Hid (∀ i j, i < j → j < n → La i < F j) := hap
  clear hf hl hmono hap
  go_enter Yba.func5, Yba.ntmps5
  go_wp2_with fail
  have cs : ∀ p o : Nat, p < w.heap.size → ((w.alloc (Obj.cells #[Value.slice (some { block := b, off := off }) n cap] 27)).alloc (Obj.cells #[Value.int IntKind.i64 x] 3)).cell? ⟨p, o, none⟩ = w.cell? ⟨p, o, none⟩ := fun p o hp => by
    rw [World.cell?_alloc_past _ _ _ (by simp; omega), World.cell?_alloc_past _ _ _ hp]
  refine (search_any w.heap.size (w.heap.size + 1) b off n cap La x _ hn (by simp) (by simp) (fun i hi => by rw [cs _ _ hb]; exact HL.out i hi) HM.out).mono ?_
  rintro e w' ⟨r, rfl, hr, I1, I2, q, rfl⟩
  have J1 : Hid (∀ t, t < r → La t < x) := I1
  have J2 : Hid (∀ t, r ≤ t → t < n → x ≤ La t) := I2
  clear I1 I2
  have bel : Below w.heap.size w (((w.alloc (Obj.cells #[Value.slice (some { block := b, off := off }) n cap] 27)).alloc (Obj.cells #[Value.int IntKind.i64 x] 3))) := ((Below.refl _ _).alloc (Nat.le_refl _) _).alloc (by simp) _
  have BEL : ∀ k, Below w.heap.size w ((((w.alloc (Obj.cells #[Value.slice (some { block := b, off := off }) n cap] 27)).alloc (Obj.cells #[Value.int IntKind.i64 x] 3))).drewN k) := fun k => ⟨bel.os, bel.tape, bel.output, bel.size, bel.block⟩
  clear bel
  rcases Nat.lt_or_ge r n with hlt | hge
  · have gF : w.cell? ⟨b, off + r * 2, none⟩ = some (.int .i64 (F r)) := HF.out r hlt
    have gL : w.cell? ⟨b, off + r * 2 + 1, none⟩ = some (.int .i64 (La r)) := HL.out r hlt
    have hLr : x ≤ La r := J2.out r (Nat.le_refl _) hlt
    have key : (∃ i, i < n ∧ F i ≤ x ∧ x ≤ La i) ↔ F r ≤ x := by
      constructor
      · rintro ⟨i, hi, h1, h2⟩
        rcases Nat.lt_trichotomy i r with h | h | h
        · have := J1.out i h; omega
        · rwa [← h]
        · have := HA.out r i h hi; omega
      · intro h; exact ⟨r, hlt, h, hLr⟩
    have KEY : Hid ((∃ i, i < n ∧ F i ≤ x ∧ x ≤ La i) ↔ F r ≤ x) := key
    clear key cs
    have hrz : (r : Int) < (n : Int) := by omega
    have hrn : ((r : Int) == (n : Int)) = false := by simp; omega
    by_cases hFx : F r ≤ x
    · have hd : decide (x < F r) = false := by simp; omega
      go_wp2
      go_quiet (fail)
      go_wp2
      go_ret
      exact ⟨0, rfl, .inl rfl, by rw [KEY.out]; simp [hFx], belowDrewN (BEL _) _⟩
    · go_wp2
      go_ret
      exact ⟨2, rfl, .inr rfl, by rw [KEY.out]; simp; omega, BEL _⟩
  · obtain rfl : r = n := by omega
    clear cs
    go_wp2
    go_ret
    exact ⟨2, rfl, .inr rfl, by
      constructor
      · intro h; cases h
      · rintro ⟨i, hi, h1, h2⟩; have := J1.out i hi; omega, BEL _⟩
end Go.Proofs.Ybulkcxew
