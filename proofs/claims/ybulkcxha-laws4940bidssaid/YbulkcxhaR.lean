import Derived.Test.YbulkcxhaA
import Derived.Sort.LotA
import Derived.Sort.LotB
import Derived.Sort.LotC
import Derived.Sort.LotD3
import Derived.RegionTactic
namespace Go.Proofs.Ybulkcxha
open Go.RowKit

/-- The block 'blk' holds the numbers d between pre and post; nothing else that was there in w0 has turned. -/
structure Rw (w0 w : World) (b : Nat) (pre : List Value) (d : Array Int) (post : List Value) : Prop where
  blk : Blk w b (pre ++ (d.toList.map (Value.int .u32) ++ post)) 36
  fx : Fx (fun k => k = b) w0 w

theorem mid_get (pre post : List Value) (d : Array Int) (t : Nat) (ht : t < d.size) : (pre ++ (d.toList.map (Value.int .u32) ++ post))[pre.length + t]? = some (.int .u32 d[t]!) := by
  rw [List.getElem?_append_right (by omega), show pre.length + t - pre.length = t by omega, List.getElem?_append_left (by simpa using ht)]
  simp [ht]
theorem mid_set (pre post : List Value) (d : Array Int) (t : Nat) (ht : t < d.size) (v : Int) :
    (pre ++ (d.toList.map (Value.int .u32) ++ post)).set (pre.length + t) (.int .u32 v) = pre ++ ((d.setIfInBounds t v).toList.map (Value.int .u32) ++ post) := by
  rw [List.set_append_right _ _ (by omega), show pre.length + t - pre.length = t by omega, List.set_append_left _ _ (by simpa using ht)]
  simp [List.map_set]
theorem Rw.cell {w0 w : World} {b : Nat} {pre post : List Value} {d : Array Int} (h : Rw w0 w b pre d post) {off : Nat} (ho : off = pre.length) (t : Nat) (ht : t < d.size) : w.cell? ⟨b, off + t, none⟩ = some (.int .u32 d[t]!) := by
  subst ho
  rw [h.blk.cell]
  exact mid_get pre post d t ht
theorem Rw.free {w0 w : World} {b : Nat} {pre post : List Value} {d : Array Int} (h : Rw w0 w b pre d post) (t : Nat) : w.frozen? ⟨b, t, none⟩ = false := h.blk.free t
theorem Rw.set {w0 w : World} {b : Nat} {pre post : List Value} {d : Array Int} (h : Rw w0 w b pre d post) {off : Nat} (ho : off = pre.length) (t : Nat) (ht : t < d.size) (v : Int) :
    Rw w0 (w.setCell ⟨b, off + t, none⟩ (.int .u32 v)) b pre (d.setIfInBounds t v) post := by
  subst ho
  exact ⟨by rw [← mid_set pre post d t ht v]; exact h.blk.set _ _, h.fx.setCell (p := ⟨b, pre.length + t, none⟩) rfl _⟩
theorem Rw.swap {w0 w : World} {b : Nat} {pre post : List Value} {d : Array Int} (h : Rw w0 w b pre d post) {off : Nat} (ho : off = pre.length) (i j : Nat) (hi : i < d.size) (hj : j < d.size) :
    Rw w0 ((w.setCell ⟨b, off + i, none⟩ (.int .u32 d[j]!)).setCell ⟨b, off + j, none⟩ (.int .u32 d[i]!)) b pre (Sort.swp d i j) post :=
  (h.set ho i hi _).set ho j (by simpa using hj) _
theorem Rw.drewN {w0 w : World} {b : Nat} {pre post : List Value} {d : Array Int} (h : Rw w0 w b pre d post) (n : Nat) : Rw w0 (w.drewN n) b pre d post := ⟨h.blk, h.fx.drewN n⟩
theorem Rw.drew {w0 w : World} {b : Nat} {pre post : List Value} {d : Array Int} (h : Rw w0 w b pre d post) : Rw w0 w.drew b pre d post := ⟨h.blk, h.fx.drewN 1⟩
theorem Rw.lt {w0 w : World} {b : Nat} {pre post : List Value} {d : Array Int} (h : Rw w0 w b pre d post) : b < w.heap.size := h.blk.lt

theorem Rw.alike {w0 w w' : World} {b : Nat} {pre post : List Value} {d : Array Int} (h : Rw w0 w b pre d post) (hh : w'.heap = w.heap) (ho : w'.os = w.os) (ht : w'.tape = w.tape) (hu : w'.output = w.output) : Rw w0 w' b pre d post :=
  ⟨by unfold Blk; rw [hh]; exact h.blk, h.fx.trans ⟨ho, ht, hu, by rw [hh]; exact Nat.le_refl _, fun k _ _ => by rw [hh]⟩⟩

set_option maxHeartbeats 1000000 in
theorem less_any (x y : Int) (w : World) : Calls Yba.prog 22 #[.int .u32 x, .int .u32 y] w fun e w' => e = .returned (.bool (Sort.ltInt x y)) ∧ w' = w := by
  go_enter Yba.func22, Yba.ntmps22
  go_wp2
  go_ret
  exact ⟨rfl, rfl⟩
end Go.Proofs.Ybulkcxha
