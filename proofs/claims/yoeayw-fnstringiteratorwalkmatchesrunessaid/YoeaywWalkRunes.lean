/-
  The walk of 'FnStringIteratorWalkMatchesRunes' (function 3).
-/
import Derived.Test.YoeaywClone
import Derived.Deep.RegionWith
namespace Go.Proofs.Yoeayw
open Go.RowKit

set_option maxHeartbeats 400000 in
theorem walk3 (a0 : Option Addr) (len0 cap0 : Nat) (z0 : List Int) (w : World) (hC : Came w a0 len0 cap0 z0) :
    Calls Eayg.prog 3 #[.slice a0 len0 cap0] w fun e w' => e = .returned (.bool true) ∧ Below w.heap.size w w' := by
  have hle := hC.le
  by_cases h1 : len0 ≤ 1048576
  · by_cases h2 : len0 ≤ 262144
    · go_enter Eayg.func3, Eayg.ntmps3
      go_wp2_with (first
        | (go_at_call 6; refine (bytes6 _ _ _ _ hle).mono ?_; rintro e w' ⟨rfl, rfl⟩)
        | (go_at_call 7; refine (clone7 _ _ _ _ _ hC h2).mono ?_; rintro e w1 ⟨a1, rfl, hb1, hcp⟩)
        | (go_at_call 8; refine (new8 _ _ _ _ _).mono ?_; rintro e w2 ⟨rfl, hb2, hI2⟩))
      clear hC hle h1
      go_loopw [5] (fun i wr => ∃ k : Nat, k ≤ len0 + 2 ∧ i = .int .i64 ((k : Int) + 1) ∧ Iter wr w1.heap.size (.slice a1 len0 len0) k len0 ∧ Below w1.heap.size w1 wr) (fun i _ => len0 + 4 - (intOf i).toNat)
      case atStart => exact ⟨0, Nat.zero_le _, rfl, hI2, hb2⟩
      case round =>
        clear hI2 hb2
        obtain ⟨k, hk, rfl, hI, hb⟩ := hrel
        by_cases hlt : k < len0
        · rcases hcp with rfl | ⟨B, rfl, hB, hcell⟩
          · omega
          · have hbc : wr.cell? ⟨B, k, none⟩ = some (.int .i32 (z0.getD k 0)) := (hb.cell (by exact hB)).trans (hcell k hlt)
            have hsz := hI.lt
            clear hcell
            go_wp2_with (first
              | (go_at_call 9; refine (next9 _ _ _ _ _ hI (by omega) (by omega)).mono ?_; rintro e w3 ⟨rfl, hb3, hs3, hI3⟩; have hc3 := (hb3.cell (p := ⟨B, k, none⟩) hB).trans hbc)
              | (go_at_call 10; refine (key10 _ _ _ _ _ hI3 (by omega) (by omega)).mono ?_; rintro e w4 ⟨rfl, rfl⟩))
            have hB3 : B < w3.heap.size := by omega
            have hI4 := hI3.alloc (.cells #[.int .i64 (k : Int)] 31)
            have hb4 := (hb.trans hb3).alloc (by omega) (.cells #[.int .i64 (k : Int)] 31)
            have hc4 : (w3.alloc (.cells #[.int .i64 (k : Int)] 31)).cell? ⟨B, k, none⟩ = some (.int .i32 (z0.getD k 0)) := (World.cell?_alloc_past _ _ _ hB3).trans hc3
            have hz4 : w1.heap.size < (w3.alloc (.cells #[.int .i64 (k : Int)] 31)).heap.size := by simp; omega
            have hk' : (k : Int) < (len0 : Int) := by omega
            clear hbc hc3 hb hb3 hI hI3 hsz
            generalize w3.alloc (.cells #[.int .i64 (k : Int)] 31) = w4 at *
            generalize z0.getD k 0 = x at *
            clear hs3 hB3
            have hwr : IntKind.i64.wrap (k : Int) = (k : Int) := by rw [IntKind.wrap_i64]; omega
            have hB4 : B < w4.heap.size := by omega
            go_region_with (go_at_call 11; refine (value11 _ B len0 len0 k x len0 _ (by first | exact hI4 | exact hI4.drew) (by omega) hlt (by simpa using hc4)).mono ?_; rintro e w5 ⟨rfl, rfl⟩)
            all_goals go_wp2
            all_goals go_roundw
            all_goals first | exact ⟨k + 1, by omega, by go_num, (hI4.alloc _).drew.drew, ((hb4.alloc (by omega) _).drew).drew⟩ | (simp [intOf]; omega)
        · by_cases hle2 : k < len0 + 2
          · go_wp2_with (go_at_call 9; refine (next9 _ _ _ _ _ hI (by omega) (by omega)).mono ?_; rintro e w3 ⟨rfl, hb3, hs3, hI3⟩)
            go_roundw
            case rel => exact ⟨k + 1, by omega, by go_num, hI3, hb.trans hb3⟩
            case measure => simp [intOf]; omega
          · go_wp2
            go_ret
            exact ⟨rfl, hb1.trans (hb.mono hb1.size)⟩
    · go_enter Eayg.func3, Eayg.ntmps3
      go_wp2_with (go_at_call 6; refine (bytes6 _ _ _ _ hle).mono ?_; rintro e w' ⟨rfl, rfl⟩)
      go_ret
      exact ⟨rfl, Below.refl _ _⟩
  · go_enter Eayg.func3, Eayg.ntmps3
    go_wp2_with (go_at_call 6; refine (bytes6 _ _ _ _ hle).mono ?_; rintro e w' ⟨rfl, rfl⟩)
    go_ret
    exact ⟨rfl, Below.refl _ _⟩
end Go.Proofs.Yoeayw
