/-
  The walk of 'FnStringIteratorCopyIndependent' (function 4).
-/
import Derived.Test.YoeaywClone
import Derived.Deep.RegionWith
namespace Go.Proofs.Yoeayw
open Go.RowKit

set_option maxHeartbeats 1000000 in
theorem walk4in (a0 : Option Addr) (len0 cap0 : Nat) (z0 : List Int) (p : Nat) (w : World) (hC : Came w a0 len0 cap0 z0) (h2 : len0 ≤ 262144) (hp : p ≤ len0 + 1) :
    Calls Eayg.prog 4 #[.slice a0 len0 cap0, .int .i64 (p : Int)] w fun e w' => e = .returned (.bool true) ∧ Below w.heap.size w w' := by
  have hle := hC.le
  have h1 : len0 ≤ 1048576 := by omega
  go_enter Eayg.func4, Eayg.ntmps4
  go_wp2_with (first
    | (go_at_call 12; refine (bytes12 _ _ _ _ _ hle).mono ?_; rintro e w' ⟨rfl, rfl⟩)
    | (go_at_call 7; refine (clone7 _ _ _ _ _ hC h2).mono ?_; rintro e w1 ⟨a1, rfl, hb1, hcp⟩)
    | (go_at_call 8; refine (new8 _ _ _ _ _).mono ?_; rintro e w2 ⟨rfl, hb2, hI2⟩))
  clear hC hle h1
  go_loopw [7] (fun i wr => ∃ k : Nat, k ≤ p ∧ i = .int .i64 (k : Int) ∧ Iter wr w1.heap.size (.slice a1 len0 len0) k len0 ∧ Below w1.heap.size w1 wr) (fun i _ => p - (intOf i).toNat)
  case atStart => exact ⟨0, Nat.zero_le _, rfl, hI2, hb2⟩
  case round =>
    clear hI2 hb2
    obtain ⟨k, hk, rfl, hI, hb⟩ := hrel
    by_cases hlt : k < p
    · go_wp2_with (go_at_call 9; refine (next9 _ _ _ _ _ hI (by omega) (by omega)).mono ?_; rintro e w3 ⟨rfl, hb3, hs3, hI3⟩)
      go_roundw
      case rel => exact ⟨k + 1, by omega, by go_num, hI3, hb.trans hb3⟩
      case measure => simp [intOf]; omega
    · have hkp : p = k := by omega
      subst hkp
      obtain ⟨v1, rfl⟩ : ∃ v, v = wr := ⟨wr, rfl⟩
      clear hlt hk
      by_cases hpn : p ≤ len0
      · go_wp2_with (go_at_call 13; refine (copy13 _ _ _ _ _ _ _ hI).mono ?_; rintro e w4 ⟨rfl, hb4, hI4⟩)
        go_loopw [10] (fun i wx => ∃ k q : Nat, q = p + k ∧ q ≤ len0 ∧ i = .int .i64 (k : Int) ∧ Iter wx v1.heap.size (.slice a1 len0 len0) q len0 ∧ Below v1.heap.size v1 wx) (fun i _ => len0 - (intOf i).toNat)
        case atStart => exact ⟨0, p, rfl, hpn, rfl, hI4, hb4⟩
        case round =>
          clear hI4 hb4
          obtain ⟨k, q, hqk, hql, rfl, hIx, hbx⟩ := hrel
          by_cases hlt : q < len0
          · rcases hcp with rfl | ⟨B, rfl, hB, hcell⟩
            · omega
            · have hBr : B < v1.heap.size := Nat.lt_of_lt_of_le hB hb.size
              have hbc : wr.cell? ⟨B, q, none⟩ = some (.int .i32 (z0.getD q 0)) := (hbx.cell (by exact hBr)).trans ((hb.cell (by exact hB)).trans (hcell q hlt))
              have hsz := hIx.lt
              have hk' : (q : Int) < (len0 : Int) := by omega
              have hq : (p : Int) + (k : Int) = (q : Int) := by omega
              have HQ : Hid (q = p + k) := hqk
              clear hcell hqk
              generalize z0.getD q 0 = x at *
              go_wp2_with (first
                | (go_at_call 9; refine (next9 _ _ _ _ _ hIx (by omega) (by omega)).mono ?_; rintro e w5 ⟨rfl, hb5, hs5, hI5⟩; have hc5 := (hb5.cell (p := ⟨B, q, none⟩) hBr).trans hbc)
                | (go_at_call 10; refine (key10 _ _ _ _ _ hI5 (by omega) (by omega)).mono ?_; rintro e w6 ⟨rfl, rfl⟩))
              have hB5 : B < w5.heap.size := by omega
              have hI6 := hI5.alloc (.cells #[.int .i64 (q : Int)] 31)
              have hb6 := (hbx.trans hb5).alloc (by omega) (.cells #[.int .i64 (q : Int)] 31)
              have hc6 : (w5.alloc (.cells #[.int .i64 (q : Int)] 31)).cell? ⟨B, q, none⟩ = some (.int .i32 x) := (World.cell?_alloc_past _ _ _ hB5).trans hc5
              have hz6 : v1.heap.size < (w5.alloc (.cells #[.int .i64 (q : Int)] 31)).heap.size := by simp; omega
              clear hbc hc5 hbx hb5 hIx hI5 hsz
              generalize w5.alloc (.cells #[.int .i64 (q : Int)] 31) = w6 at *
              clear hs5 hB5
              have hB6 : B < w6.heap.size := by omega
              go_region_with (go_at_call 11; refine (value11 _ B len0 len0 q x len0 _ (by first | exact hI6 | exact hI6.drew) (by omega) hlt (by simpa using hc6)).mono ?_; rintro e w7 ⟨rfl, rfl⟩)
              all_goals go_wp2
              all_goals go_roundw
              all_goals first | exact ⟨k + 1, q + 1, by have := HQ.out; omega, by omega, by go_num, (hI6.alloc _).drew.drew, ((hb6.alloc (by omega) _).drew).drew⟩ | (have := HQ.out; simp [intOf]; omega)
          · have hne : ((k : Int) != (len0 : Int) - (p : Int)) = false := by simp; omega
            have hnx : decide ((q : Int) + 1 ≤ (len0 : Int)) = false := by simp; omega
            have HQ : Hid (q = p + k) := hqk
            clear hqk
            go_wp2_with (go_at_call 9; refine (next9 _ _ _ _ _ hIx (by omega) (by omega)).mono ?_; rintro e w8 ⟨rfl, hb8, hs8, hI8⟩)
            have hI9 := hI.below (hbx.trans hb8) hI.lt
            have hb9 := hb.trans ((hbx.trans hb8).mono hb.size)
            clear hI hb hIx hbx hb8 hs8 hI8 hql hlt hne hnx HQ
            go_loopw [10] (fun i wx => ∃ k q : Nat, q = p + k ∧ q ≤ len0 ∧ i = .int .i64 (k : Int) ∧ Iter wx w1.heap.size (.slice a1 len0 len0) q len0 ∧ Below w1.heap.size w1 wx) (fun i _ => len0 - (intOf i).toNat)
            case atStart => exact ⟨0, p, rfl, hpn, rfl, hI9, hb9⟩
            case round =>
              clear hI9 hb9
              obtain ⟨k, q, hqk, hql, rfl, hIx, hbx⟩ := hrel
              by_cases hlt : q < len0
              · rcases hcp with rfl | ⟨B, rfl, hB, hcell⟩
                · omega
                · have hBr : B < w1.heap.size := hB
                  have hbc : wr.cell? ⟨B, q, none⟩ = some (.int .i32 (z0.getD q 0)) := (hbx.cell (by exact hBr)).trans (hcell q hlt)
                  have hsz := hIx.lt
                  have hk' : (q : Int) < (len0 : Int) := by omega
                  have hq : (p : Int) + (k : Int) = (q : Int) := by omega
                  have HQ : Hid (q = p + k) := hqk
                  clear hcell hqk
                  generalize z0.getD q 0 = x at *
                  go_wp2_with (first
                    | (go_at_call 9; refine (next9 _ _ _ _ _ hIx (by omega) (by omega)).mono ?_; rintro e w5 ⟨rfl, hb5, hs5, hI5⟩; have hc5 := (hb5.cell (p := ⟨B, q, none⟩) hBr).trans hbc)
                    | (go_at_call 10; refine (key10 _ _ _ _ _ hI5 (by omega) (by omega)).mono ?_; rintro e w6 ⟨rfl, rfl⟩))
                  have hB5 : B < w5.heap.size := by omega
                  have hI6 := hI5.alloc (.cells #[.int .i64 (q : Int)] 31)
                  have hb6 := (hbx.trans hb5).alloc (by omega) (.cells #[.int .i64 (q : Int)] 31)
                  have hc6 : (w5.alloc (.cells #[.int .i64 (q : Int)] 31)).cell? ⟨B, q, none⟩ = some (.int .i32 x) := (World.cell?_alloc_past _ _ _ hB5).trans hc5
                  have hz6 : w1.heap.size < (w5.alloc (.cells #[.int .i64 (q : Int)] 31)).heap.size := by simp; omega
                  clear hbc hc5 hbx hb5 hIx hI5 hsz
                  generalize w5.alloc (.cells #[.int .i64 (q : Int)] 31) = w6 at *
                  clear hs5 hB5
                  have hB6 : B < w6.heap.size := by omega
                  go_region_with (go_at_call 11; refine (value11 _ B len0 len0 q x len0 _ (by first | exact hI6 | exact hI6.drew) (by omega) hlt (by simpa using hc6)).mono ?_; rintro e w7 ⟨rfl, rfl⟩)
                  all_goals go_wp2
                  all_goals go_roundw
                  all_goals first | exact ⟨k + 1, q + 1, by have := HQ.out; omega, by omega, by go_num, (hI6.alloc _).drew.drew, ((hb6.alloc (by omega) _).drew).drew⟩ | (have := HQ.out; simp [intOf]; omega)
              · have heq : ((k : Int) == (len0 : Int) - (p : Int)) = true := by simp; omega
                have hnx : decide ((q : Int) + 1 ≤ (len0 : Int)) = false := by simp; omega
                have HQ : Hid (q = p + k) := hqk
                clear hqk
                go_wp2_with (go_at_call 9; refine (next9 _ _ _ _ _ hIx (by omega) (by omega)).mono ?_; rintro e w8 ⟨rfl, hb8, hs8, hI8⟩)
                go_ret
                exact ⟨rfl, hb1.trans ((hbx.trans hb8).mono hb1.size)⟩
      · have hnx : decide ((p : Int) + 1 ≤ (len0 : Int)) = false := by simp; omega
        go_wp2_with (go_at_call 13; refine (copy13 _ _ _ _ _ _ _ hI).mono ?_; rintro e w4 ⟨rfl, hb4, hI4⟩)
        go_loopw [10] (fun i wx => i = .int .i64 0 ∧ Iter wx v1.heap.size (.slice a1 len0 len0) p len0 ∧ Below v1.heap.size v1 wx) (fun _ _ => 0)
        case atStart => exact ⟨rfl, hI4, hb4⟩
        case round =>
          clear hI4 hb4
          obtain ⟨rfl, hIx, hbx⟩ := hrel
          go_wp2_with (go_at_call 9; refine (next9 _ _ _ _ _ hIx (by omega) (by omega)).mono ?_; rintro e w8 ⟨rfl, hb8, hs8, hI8⟩)
          have hI9 := hI.below (hbx.trans hb8) hI.lt
          have hb9 := hb.trans ((hbx.trans hb8).mono hb.size)
          clear hI hb hIx hbx hb8 hs8 hI8
          go_loopw [10] (fun i wx => i = .int .i64 0 ∧ Iter wx w1.heap.size (.slice a1 len0 len0) p len0 ∧ Below w1.heap.size w1 wx) (fun _ _ => 0)
          case atStart => exact ⟨rfl, hI9, hb9⟩
          case round =>
            clear hI9 hb9
            obtain ⟨rfl, hIx, hbx⟩ := hrel
            go_wp2_with (go_at_call 9; refine (next9 _ _ _ _ _ hIx (by omega) (by omega)).mono ?_; rintro e w8 ⟨rfl, hb8, hs8, hI8⟩)
            go_ret
            exact ⟨rfl, hb1.trans ((hbx.trans hb8).mono hb1.size)⟩

/-- The function whole: a long slice, a p out of its bounds, and all else. -/
theorem walk4 (a0 : Option Addr) (len0 cap0 : Nat) (z0 : List Int) (a1 : Int) (w : World) (hC : Came w a0 len0 cap0 z0) :
    Calls Eayg.prog 4 #[.slice a0 len0 cap0, .int .i64 a1] w fun e w' => e = .returned (.bool true) ∧ Below w.heap.size w w' := by
  have hle := hC.le
  by_cases h1 : len0 ≤ 1048576
  · by_cases h2 : len0 ≤ 262144
    · by_cases h3 : a1 < 0
      · go_enter Eayg.func4, Eayg.ntmps4
        go_wp2_with (go_at_call 12; refine (bytes12 _ _ _ _ _ hle).mono ?_; rintro e w' ⟨rfl, rfl⟩)
        go_ret
        exact ⟨rfl, Below.refl _ _⟩
      · by_cases h4 : (len0 : Int) + 1 < a1
        · go_enter Eayg.func4, Eayg.ntmps4
          go_wp2_with (go_at_call 12; refine (bytes12 _ _ _ _ _ hle).mono ?_; rintro e w' ⟨rfl, rfl⟩)
          go_ret
          exact ⟨rfl, Below.refl _ _⟩
        · obtain ⟨p, rfl⟩ := Int.eq_ofNat_of_zero_le (Int.not_lt.1 h3)
          exact walk4in a0 len0 cap0 z0 p w hC h2 (by omega)
    · go_enter Eayg.func4, Eayg.ntmps4
      go_wp2_with (go_at_call 12; refine (bytes12 _ _ _ _ _ hle).mono ?_; rintro e w' ⟨rfl, rfl⟩)
      go_ret
      exact ⟨rfl, Below.refl _ _⟩
  · go_enter Eayg.func4, Eayg.ntmps4
    go_wp2_with (go_at_call 12; refine (bytes12 _ _ _ _ _ hle).mono ?_; rintro e w' ⟨rfl, rfl⟩)
    go_ret
    exact ⟨rfl, Below.refl _ _⟩
end Go.Proofs.Yoeayw
