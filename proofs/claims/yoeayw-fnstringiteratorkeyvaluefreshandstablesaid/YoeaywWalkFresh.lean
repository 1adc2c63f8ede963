/-
  The walk of 'FnStringIteratorKeyValueFreshAndStable' (function 5).
-/
import Derived.Test.YoeaywClone
import Derived.Deep.RegionWith
import Derived.LaidEqlPtr
namespace Go.Proofs.Yoeayw
open Go.RowKit

theorem size31 : (Eayg.prog.info? 31).map (fun i => i.size) = some 1 := by kernel_rfl
theorem size35 : (Eayg.prog.info? 35).map (fun i => i.size) = some 1 := by kernel_rfl

/-- Two new Ints are two: their pointers differ. -/
theorem fresh32 (w : World) (c1 c2 : Array Value) :
    (binOp .eql 32 (.pointer (some ⟨w.heap.size, 0, none⟩)) (.pointer (some ⟨w.heap.size + 1, 0, none⟩))).run Eayg.prog ((w.alloc (.cells c1 31)).alloc (.cells c2 31)) = .ok (.bool false) ((w.alloc (.cells c1 31)).alloc (.cells c2 31)) := by
  obtain ⟨j, hj, hs⟩ := Option.map_eq_some_iff.1 size31
  refine run_eql_ptr_other (ca := c1) (ta := 31) (cb := c2) (tb := 31) _ Eayg.underlying32 hj (by omega) (by simp) ?_ ?_
  · rw [Go.heap_alloc_old _ _ (by simp)]; exact heap_alloc_new _ _
  · have := heap_alloc_new (w.alloc (.cells c1 31)) (.cells c2 31)
    simpa using this

/-- Two new Chars are two. -/
theorem fresh36 (w : World) (o1 o2 : Obj) (c1 c2 : Array Value) :
    (binOp .eql 36 (.pointer (some ⟨w.heap.size + 1 + 1, 0, none⟩)) (.pointer (some ⟨w.heap.size + 1 + 1 + 1, 0, none⟩))).run Eayg.prog ((((w.alloc o1).alloc o2).alloc (.cells c1 35)).alloc (.cells c2 35)).drew.drew = .ok (.bool false) ((((w.alloc o1).alloc o2).alloc (.cells c1 35)).alloc (.cells c2 35)).drew.drew := by
  obtain ⟨j, hj, hs⟩ := Option.map_eq_some_iff.1 size35
  refine run_eql_ptr_other (ca := c1) (ta := 35) (cb := c2) (tb := 35) _ Eayg.underlying36 hj (by omega) (by simp) ?_ ?_
  · show ((((w.alloc o1).alloc o2).alloc (.cells c1 35)).alloc (.cells c2 35)).heap[w.heap.size + 1 + 1]? = _
    rw [Go.heap_alloc_old _ _ (by simp)]
    have := heap_alloc_new ((w.alloc o1).alloc o2) (.cells c1 35)
    simpa using this
  · show ((((w.alloc o1).alloc o2).alloc (.cells c1 35)).alloc (.cells c2 35)).heap[w.heap.size + 1 + 1 + 1]? = _
    have := heap_alloc_new (((w.alloc o1).alloc o2).alloc (.cells c1 35)) (.cells c2 35)
    simpa using this

set_option maxHeartbeats 400000 in
theorem walk5 (a0 : Option Addr) (len0 cap0 : Nat) (z0 : List Int) (w : World) (hC : Came w a0 len0 cap0 z0) :
    Calls Eayg.prog 5 #[.slice a0 len0 cap0] w fun e w' => e = .returned (.bool true) ∧ Below w.heap.size w w' := by
  have hle := hC.le
  by_cases h1 : len0 ≤ 1048576
  · by_cases h2 : len0 ≤ 262144
    · go_enter Eayg.func5, Eayg.ntmps5
      go_wp2_with (first
        | (go_at_call 14; refine (bytes14 _ _ _ _ hle).mono ?_; rintro e w' ⟨rfl, rfl⟩)
        | (go_at_call 7; refine (clone7 _ _ _ _ _ hC h2).mono ?_; rintro e w1 ⟨a1, rfl, hb1, hcp⟩)
        | (go_at_call 8; refine (new8 _ _ _ _ _).mono ?_; rintro e w2 ⟨rfl, hb2, hI2⟩))
      clear hC hle h1
      go_loopw [5] (fun i wr => ∃ k : Nat, k ≤ len0 ∧ i = .int .i64 (k : Int) ∧ Iter wr w1.heap.size (.slice a1 len0 len0) k len0 ∧ Below w1.heap.size w1 wr) (fun i _ => len0 - (intOf i).toNat)
      case atStart => exact ⟨0, Nat.zero_le _, rfl, hI2, hb2⟩
      case round =>
        clear hI2 hb2
        obtain ⟨k, hk, rfl, hI, hb⟩ := hrel
        by_cases hlt : k < len0
        · rcases hcp with rfl | ⟨B, rfl, hB, hcell⟩
          · omega
          · have hbc : wr.cell? ⟨B, k, none⟩ = some (.int .i32 (z0.getD k 0)) := (hb.cell (by exact hB)).trans (hcell k hlt)
            have hsz := hI.lt
            have hk' : (k : Int) < (len0 : Int) := by omega
            generalize z0.getD k 0 = x at *
            clear hcell
            have hf32 := fresh32
            have hf36 := fresh36
            go_wp2_with (first
              | (go_at_call 9; refine (next9 _ _ _ _ _ hI (by omega) (by omega)).mono ?_; rintro e w3 ⟨rfl, hb3, hs3, hI3⟩; have hc3 := (hb3.cell (p := ⟨B, k, none⟩) hB).trans hbc; have hz3 : w1.heap.size < w3.heap.size := (by omega); have hB3 : B < w3.heap.size := (by omega); have hB4 : B < w3.heap.size + 1 := (by omega); have hB5 : B < w3.heap.size + 1 + 1 := (by omega); have hB6 : B < w3.heap.size + 1 + 1 + 1 := (by omega); clear hs3 hbc)
              | (go_at_call 10; refine (key10 _ (.slice (some ⟨B, 0, none⟩) len0 len0) (k + 1) len0 _ ?_ (by omega) (by omega)).mono ?_; (first | exact hI3 | exact hI3.alloc _); rintro e w4 ⟨rfl, rfl⟩)
              | (go_at_call 11; (refine (value11 _ B len0 len0 k x len0 _ ?_ (by omega) hlt ?_).mono ?_; (first | exact (hI3.alloc _).alloc _ | exact (((hI3.alloc _).alloc _).alloc _).drew); (go_simp); rintro e w5 ⟨rfl, rfl⟩)))
            go_roundw
            case rel => exact ⟨k + 1, by omega, by go_num, ((((hI3.alloc _).alloc _).alloc _).alloc _).drew.drew, (((((hb.trans hb3).alloc (by omega) _).alloc (by simp; omega) _).alloc (by simp; omega) _).alloc (by simp; omega) _).drew.drew⟩
            case measure => simp [intOf]; omega
        · have hkl : k = len0 := by omega
          subst hkl
          go_wp2_with (go_at_call 9; refine (next9 _ _ _ _ _ hI (by omega) (by omega)).mono ?_; rintro e w3 ⟨rfl, hb3, hs3, hI3⟩)
          go_ret
          exact ⟨rfl, hb1.trans ((hb.trans hb3).mono hb1.size)⟩
    · go_enter Eayg.func5, Eayg.ntmps5
      go_wp2_with (go_at_call 14; refine (bytes14 _ _ _ _ hle).mono ?_; rintro e w' ⟨rfl, rfl⟩)
      go_ret
      exact ⟨rfl, Below.refl _ _⟩
  · go_enter Eayg.func5, Eayg.ntmps5
    go_wp2_with (go_at_call 14; refine (bytes14 _ _ _ _ hle).mono ?_; rintro e w' ⟨rfl, rfl⟩)
    go_ret
    exact ⟨rfl, Below.refl _ _⟩
end Go.Proofs.Yoeayw
