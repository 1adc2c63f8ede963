/-
  The small functions on the road, by their contracts: the bounds on lengths, the making of an iterator, Next, Key, Value, Copy.
-/
import Derived.Test.YoeaywRows
import Derived.WalkKit
import Derived.ProofKit
import Derived.BigQuiet
import Derived.Below
namespace Go.Proofs.Yoeayw
open Go.RowKit

/-- Block b is an iterator: the slice v, the position i, the length l. -/
def Iter (w : World) (b : Nat) (v : Value) (i l : Int) : Prop := w.heap[b]? = some (.cells #[v, .int .i64 i, .int .i64 l] 41 (0, 0))

theorem Iter.c0 {w : World} {b : Nat} {v : Value} {i l : Int} (h : Iter w b v i l) : w.cell? ⟨b, 0, none⟩ = some v := by
  unfold Iter at h; simp [World.cell?, h]
theorem Iter.c1 {w : World} {b : Nat} {v : Value} {i l : Int} (h : Iter w b v i l) : w.cell? ⟨b, 1, none⟩ = some (.int .i64 i) := by
  unfold Iter at h; simp [World.cell?, h]
theorem Iter.c2 {w : World} {b : Nat} {v : Value} {i l : Int} (h : Iter w b v i l) : w.cell? ⟨b, 2, none⟩ = some (.int .i64 l) := by
  unfold Iter at h; simp [World.cell?, h]
theorem Iter.fr {w : World} {b : Nat} {v : Value} {i l : Int} (h : Iter w b v i l) : w.frozen? ⟨b, 1, none⟩ = false := by
  unfold Iter at h; simp [World.frozen?, h]
theorem Iter.lt {w : World} {b : Nat} {v : Value} {i l : Int} (h : Iter w b v i l) : b < w.heap.size := lt_of_block h
theorem Iter.step {w : World} {b : Nat} {v : Value} {i l : Int} (h : Iter w b v i l) (j : Int) : Iter (w.setCell ⟨b, 1, none⟩ (.int .i64 j)) b v j l := by
  have hlt := h.lt
  unfold Iter at *
  have h' : w.heap[b] = .cells #[v, .int .i64 i, .int .i64 l] 41 (0, 0) := by simpa [Array.getElem?_eq_getElem hlt] using h
  show (w.heap.modify b _)[b]? = _
  rw [Array.getElem?_eq_getElem (by simpa using hlt), Array.getElem_modify_self, h']
  rfl
theorem Iter.below {w w' : World} {B b : Nat} {v : Value} {i l : Int} (h : Iter w b v i l) (hb : Below B w w') (hlt : b < B) : Iter w' b v i l := by
  unfold Iter at *; rw [hb.block b hlt]; exact h

theorem Iter.alloc {w : World} {b : Nat} {v : Value} {i l : Int} (h : Iter w b v i l) (o : Obj) : Iter (w.alloc o) b v i l :=
  h.below ((Below.refl w.heap.size w).alloc (Nat.le_refl _) o) h.lt
theorem Iter.drew {w : World} {b : Nat} {v : Value} {i l : Int} (h : Iter w b v i l) : Iter w.drew b v i l := h

theorem bytes6 (a0 : Option Addr) (len cap : Nat) (w : World) (h : len ≤ maxLen) :
    Calls Eayg.prog 6 #[.slice a0 len cap] w fun e w' => e = .returned (.bool (decide (len ≤ 1048576))) ∧ w = w' := by
  unfold maxLen at h
  by_cases hl : len ≤ 1048576
  · go_enter Eayg.func6, Eayg.ntmps6
    go_wp2
    go_ret
    exact ⟨by simp [hl], rfl⟩
  · go_enter Eayg.func6, Eayg.ntmps6
    go_wp2
    go_ret
    exact ⟨by simp [hl], rfl⟩

theorem bytes12 (a0 : Option Addr) (len cap : Nat) (p : Int) (w : World) (h : len ≤ maxLen) :
    Calls Eayg.prog 12 #[.slice a0 len cap, .int .i64 p] w fun e w' => e = .returned (.bool (decide (len ≤ 1048576))) ∧ w = w' := by
  unfold maxLen at h
  by_cases hl : len ≤ 1048576
  · go_enter Eayg.func12, Eayg.ntmps12
    go_wp2
    go_ret
    exact ⟨by simp [hl], rfl⟩
  · go_enter Eayg.func12, Eayg.ntmps12
    go_wp2
    go_ret
    exact ⟨by simp [hl], rfl⟩

theorem bytes14 (a0 : Option Addr) (len cap : Nat) (w : World) (h : len ≤ maxLen) :
    Calls Eayg.prog 14 #[.slice a0 len cap] w fun e w' => e = .returned (.bool (decide (len ≤ 1048576))) ∧ w = w' := by
  unfold maxLen at h
  by_cases hl : len ≤ 1048576
  · go_enter Eayg.func14, Eayg.ntmps14
    go_wp2
    go_ret
    exact ⟨by simp [hl], rfl⟩
  · go_enter Eayg.func14, Eayg.ntmps14
    go_wp2
    go_ret
    exact ⟨by simp [hl], rfl⟩

theorem new8 (a0 : Option Addr) (len cap : Nat) (n : Int) (w : World) :
    Calls Eayg.prog 8 #[.slice a0 len cap, .int .i64 n] w fun e w' => e = .returned (.pointer (some ⟨w.heap.size, 0, none⟩)) ∧ Below w.heap.size w w' ∧ Iter w' w.heap.size (.slice a0 len cap) 0 n := by
  go_enter Eayg.func8, Eayg.ntmps8
  go_wp2
  go_ret
  exact ⟨rfl, (Below.refl _ _).alloc (Nat.le_refl _) _, heap_alloc_new _ _⟩

theorem next9 (b : Nat) (v : Value) (i l : Int) (w : World) (hI : Iter w b v i l) (h0 : 0 ≤ i) (h1 : i ≤ 1048576) :
    Calls Eayg.prog 9 #[.pointer (some ⟨b, 0, none⟩)] w fun e w' => e = .returned (.bool (decide (i + 1 ≤ l))) ∧ Below b w w' ∧ w'.heap.size = w.heap.size ∧ Iter w' b v (i + 1) l := by
  have hi := hI.c1
  have hl := hI.c2
  have hf := hI.fr
  go_enter Eayg.func9, Eayg.ntmps9
  go_wp2
  go_quiet (fail)
  go_wp2
  go_ret
  exact ⟨rfl, ⟨rfl, rfl, rfl, by simp [World.setCell, World.drewN], fun k hk => Below.heap_setCell w ⟨b, 1, none⟩ _ k (by simp; omega)⟩, by simp [World.setCell, World.drewN], hI.step _⟩

theorem as32 (v : Value) (w : World) : (Instr.typeAssert (.iface 32 v) 43 32 false).run Eayg.prog w = .ok v w := by kernel_rfl
theorem as36 (v : Value) (w : World) : (Instr.typeAssert (.iface 36 v) 43 36 false).run Eayg.prog w = .ok v w := by kernel_rfl
theorem as25 (v : Value) (w : World) : (Instr.typeAssert (.iface 25 v) 43 25 false).run Eayg.prog w = .ok v w := by kernel_rfl

theorem key10 (b : Nat) (v : Value) (i l : Int) (w : World) (hI : Iter w b v i l) (h0 : 0 ≤ i) (h1 : i ≤ 1048576) :
    Calls Eayg.prog 10 #[.pointer (some ⟨b, 0, none⟩)] w fun e w' => e = .returned (.pointer (some ⟨w.heap.size, 0, none⟩)) ∧ w.alloc (.cells #[.int .i64 (i - 1)] 31) = w' := by
  have hi := hI.c1
  have has := as32
  go_enter Eayg.func10, Eayg.ntmps10
  go_wp2
  go_ret
  exact ⟨rfl, rfl⟩

theorem value11 (b : Nat) (B : Nat) (n c : Nat) (k : Nat) (x : Int) (l : Int) (w : World) (hI : Iter w b (.slice (some ⟨B, 0, none⟩) n c) (k + 1) l) (h1 : k ≤ 1048576) (hk : k < n) (hc : w.cell? ⟨B, k, none⟩ = some (.int .i32 x)) :
    Calls Eayg.prog 11 #[.pointer (some ⟨b, 0, none⟩)] w fun e w' => e = .returned (.pointer (some ⟨w.heap.size, 0, none⟩)) ∧ (w.alloc (.cells #[.int .i32 x] 35)).drew = w' := by
  have hv := hI.c0
  have hi := hI.c1
  have hk' : (k : Int) < (n : Int) := by omega
  have has := as36
  clear hI
  go_enter Eayg.func11, Eayg.ntmps11
  go_wp2
  go_region
  all_goals go_wp2
  all_goals go_ret
  all_goals exact ⟨rfl, rfl⟩

theorem copy13 (b : Nat) (a : Option Addr) (n c : Nat) (i l : Int) (w : World) (hI : Iter w b (.slice a n c) i l) :
    Calls Eayg.prog 13 #[.pointer (some ⟨b, 0, none⟩)] w fun e w' => e = .returned (.pointer (some ⟨w.heap.size, 0, none⟩)) ∧ Below w.heap.size w w' ∧ Iter w' w.heap.size (.slice a n c) i l := by
  have hv := hI.c0
  have hi := hI.c1
  have hl := hI.c2
  have has := as25
  clear hI
  go_enter Eayg.func13, Eayg.ntmps13
  go_wp2
  go_region
  all_goals go_wp2
  all_goals go_ret
  all_goals exact ⟨rfl, ((Below.refl _ _).alloc (Nat.le_refl _) _).drew, heap_alloc_new _ _⟩

end Go.Proofs.Yoeayw
