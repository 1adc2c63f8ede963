/-
  The clone of a slice of runes, by its contract: nil gives nil; else a new block that holds the same numbers; nothing that was there turns.
-/
import Derived.Test.YoeaywParts
import Derived.OpenShut
import Derived.WalkSpells
import Derived.Deep.OwnRows
namespace Go.Proofs.Yoeayw
open Go.RowKit

theorem info21 : (Eayg.prog.info? 21).map (fun i => (i.zero, i.size, i.bytes)) = some (some (.int .i32 0), 1, 4) := by kernel_rfl

/-- Block B holds the numbers zs in its first k of n cells, and may be written. -/
def Filled (w : World) (B n k : Nat) (zs : List Int) : Prop :=
  ∃ cs : Array Value, w.heap[B]? = some (.cells cs 21 (0, 0)) ∧ cs.size = n ∧ ∀ j, j < k → cs[j]? = some (.int .i32 (zs.getD j 0))

theorem Filled.free {w : World} {B n k : Nat} {zs : List Int} (h : Filled w B n k zs) (j : Nat) : w.frozen? ⟨B, j, none⟩ = false := by
  obtain ⟨cs, h, _, _⟩ := h
  simp [World.frozen?, h]
theorem Filled.some {w : World} {B n k : Nat} {zs : List Int} (h : Filled w B n k zs) (j : Nat) (hj : j < n) : ∃ v, w.cell? ⟨B, j, none⟩ = some v := by
  obtain ⟨cs, h, hs, _⟩ := h
  exact ⟨cs[j]'(by omega), by simp [World.cell?, h, Array.getElem?_eq_getElem (show j < cs.size by omega)]⟩
theorem Filled.cell {w : World} {B n k : Nat} {zs : List Int} (h : Filled w B n k zs) (j : Nat) (hj : j < k) : w.cell? ⟨B, j, none⟩ = Option.some (.int .i32 (zs.getD j 0)) := by
  obtain ⟨cs, h, _, hc⟩ := h
  simp [World.cell?, h, hc j hj]
theorem Filled.lt {w : World} {B n k : Nat} {zs : List Int} (h : Filled w B n k zs) : B < w.heap.size := by
  obtain ⟨cs, h, _, _⟩ := h
  exact lt_of_block h
theorem Filled.store {w : World} {B n k : Nat} {zs : List Int} (h : Filled w B n k zs) (hk : k < n) : Filled (w.setCell ⟨B, k, none⟩ (.int .i32 (zs.getD k 0))) B n (k + 1) zs := by
  have hlt := h.lt
  obtain ⟨cs, h, hs, hc⟩ := h
  refine ⟨cs.setIfInBounds k (.int .i32 (zs.getD k 0)), ?_, by simpa using hs, fun j hj => ?_⟩
  · have h' : w.heap[B] = .cells cs 21 (0, 0) := by simpa [Array.getElem?_eq_getElem hlt] using h
    show (w.heap.modify B _)[B]? = _
    rw [Array.getElem?_eq_getElem (by simpa using hlt), Array.getElem_modify_self, h']
    rfl
  · by_cases e : j = k
    · subst e; simp [hs, hk]
    · rw [Array.getElem?_setIfInBounds_ne (by omega)]; exact hc j (by omega)

/-- A slice of 32-bit integers that came in. -/
def Came (w : World) (a : Option Addr) (len cap : Nat) (zs : List Int) : Prop :=
  (a = none ∧ len = 0 ∧ cap = 0 ∧ zs = []) ∨
  ∃ x, a = some x ∧ len ≤ cap ∧ cap ≤ maxLen ∧ zs.length = cap ∧ (∀ i, i < zs.length → w.cell? (x.add i) = some (.int .i32 (zs.getD i 0))) ∧ ∀ n ∈ zs, (Lit.int .i32 n).wf = true

theorem Came.le {w : World} {a : Option Addr} {len cap : Nat} {zs : List Int} (h : Came w a len cap zs) : len ≤ maxLen := by
  rcases h with ⟨_, rfl, _, _⟩ | ⟨_, _, h1, h2, _⟩ <;> omega

/-- The copy: its numbers, where it has any. -/
def Copied (w : World) (a : Option Addr) (len : Nat) (zs : List Int) : Prop :=
  len = 0 ∨ ∃ B, a = some ⟨B, 0, none⟩ ∧ B < w.heap.size ∧ ∀ j, j < len → w.cell? ⟨B, j, none⟩ = some (.int .i32 (zs.getD j 0))

set_option maxHeartbeats 400000 in
theorem clone7 (a : Option Addr) (len cap : Nat) (zs : List Int) (w : World) (h : Came w a len cap zs) (hle : len ≤ 262144) :
    Calls Eayg.prog 7 #[.slice a len cap] w fun e w' => ∃ a', e = .returned (.slice a' len len) ∧ Below w.heap.size w w' ∧ Copied w' a' len zs := by
  rcases h with ⟨rfl, rfl, rfl, rfl⟩ | ⟨x, rfl, hlc, hcm, hzl, hcell, _⟩
  · have hnil := fun w => Lib.run_eql_slice_nil (P := Eayg.prog) w 22 21 none 0 0 0 0 Eayg.underlying22
    go_enter Eayg.func7, Eayg.ntmps7
    go_wp2
    go_ret
    exact ⟨none, rfl, Below.refl _ _, .inl rfl⟩
  · have hnil := fun w => Lib.run_eql_slice_nil (P := Eayg.prog) w 22 21 (some x) len cap 0 0 Eayg.underlying22
    have hmk := run_make_row' (P := Eayg.prog) 22 21 (.int .i32 0) 4 Eayg.underlying22 info21 rfl .i64 .i64 len (by omega) (by omega)
    unfold maxLen at hcm
    go_enter Eayg.func7, Eayg.ntmps7
    go_wp2
    go_loopw [4] (fun i wr => ∃ k : Nat, k ≤ len ∧ i = .int .i64 k ∧ Filled wr w.heap.size len k zs ∧ Below w.heap.size w wr) (fun i _ => len - (intOf i).toNat)
    case atStart => exact ⟨0, Nat.zero_le _, rfl, ⟨_, heap_alloc_new _ _, size_madeCells _ _, fun j hj => by omega⟩, (Below.refl _ _).alloc (Nat.le_refl _) _⟩
    case round =>
      obtain ⟨k, hk, rfl, hF, hb⟩ := hrel
      by_cases hlt : k < len
      · obtain ⟨b, off, rfl, hc⟩ := ints_at hcell (by omega)
        have hck := hc k (by omega)
        have hbl : b < w.heap.size := by
          rcases Nat.lt_or_ge b w.heap.size with h' | h'
          · exact h'
          · simp [World.cell?, Array.getElem?_eq_none h'] at hck
        have hr : wr.cell? ⟨b, off + k, none⟩ = some (.int .i32 (zs.getD k 0)) := (hb.cell (by exact hbl)).trans hck
        obtain ⟨v, hv⟩ := hF.some k hlt
        have hfr := hF.free k
        have HS : Hid (Filled (wr.setCell ⟨w.heap.size, k, none⟩ (.int .i32 (zs.getD k 0))) w.heap.size len (k + 1) zs) := hF.store hlt
        have HB : Hid (Below w.heap.size w (wr.setCell ⟨w.heap.size, k, none⟩ (.int .i32 (zs.getD k 0)))) := hb.setCell (Nat.le_refl _) _
        clear hc hck hcell hb hF
        go_wp2
        go_roundw
        case rel => exact ⟨k + 1, by omega, by go_num, HS.out, HB.out⟩
        case measure => simp [intOf]; omega
      · have hkl : k = len := by omega
        subst hkl
        go_wp2
        go_ret
        exact ⟨_, rfl, hb, .inr ⟨_, rfl, hF.lt, hF.cell⟩⟩
end Go.Proofs.Yoeayw
