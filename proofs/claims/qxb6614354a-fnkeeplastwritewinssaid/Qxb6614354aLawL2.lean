/-
  THE WALK of the law FnKeepLastWriteWins (5), at a slice with an element.
-/
import Derived.Test.Qxb6614354aLawL
namespace Go.Proofs.Qxb6614354a
open Go.RowKit

theorem last_pos (t0 : ByteArray) (el : Nat → ByteArray) (k : Nat) (h : 0 < k) : last t0 el k = el (k - 1) := by
  obtain ⟨m, rfl⟩ : ∃ m, k = m + 1 := ⟨k - 1, by omega⟩
  rfl

set_option maxHeartbeats 3200000 in
theorem lastwrite_pos (base t0 : ByteArray) (b off len cap : Nat) (el : Nat → ByteArray) (h1 : base.size ≤ maxLen) (h2 : t0.size ≤ maxLen) (w : World) (hs : IsStrs w (some ⟨b, off, none⟩) len el) (hpos : 0 < len) (hb : b < w.heap.size)
    (hcell : ∀ i, i < len → w.cell? ⟨b, off + i, none⟩ = some (.string (el i)) ∧ (el i).size ≤ maxLen) :
    Calls Try.prog 5 #[.string base, .string t0, .slice (some ⟨b, off, none⟩) len cap] w fun e w' => e = .returned (.bool true) ∧ Below w.heap.size w w' := by
  by_cases hbig : (base.size : Int) + t0.size + len ≤ 1048576
  · have hM : Hid (base.size ≤ maxLen ∧ t0.size ≤ maxLen ∧ IsStrs w (some ⟨b, off, none⟩) len el) := ⟨h1, h2, hs⟩
    have HC : Hid (∀ i, i < len → w.cell? ⟨b, off + i, none⟩ = some (.string (el i)) ∧ (el i).size ≤ maxLen) := hcell
    clear hs hcell h1 h2
    go_enter Try.func5, Try.ntmps5
    go_wp2_with (go_at_call 15; refine (bytes15_any base t0 _ len cap el _ hM.out.1 hM.out.2.1 hM.out.2.2).mono ?_; rintro e w' ⟨⟨bb, rfl, hsh0⟩, rfl⟩; have hsh : Hid (bb = true → ∀ i, i < len → ((el i).size : Int) ≤ 1048576) := hsh0; clear hsh0; cases bb)
    · go_ret
      exact ⟨rfl, Below.refl _ _⟩
    go_loop [7, 8] (fun z i => ∃ (k : Nat) (n : Int), k ≤ len ∧ i = .int .i64 k ∧ 0 ≤ n ∧ n ≤ 1048576 ∧ z = .int .i64 n) (fun _ i => len - (intOf i).toNat)
    case atStart => exact ⟨0, _, Nat.zero_le _, rfl, by omega, by omega, rfl⟩
    case round =>
      obtain ⟨k, n, hk, rfl, hn0, hn1, rfl⟩ := hrel
      by_cases hlt : k < len
      · obtain ⟨ck, sk⟩ := HC.out k hlt
        clear sk
        have sk : ((el k).size : Int) ≤ 1048576 := hsh.out (by simp) k hlt
        have hlt' : (k : Int) < len := by omega
        by_cases hz : n + 16 + (el k).size ≤ 1048576
        · go_wp2
          go_round
          case rel => exact ⟨k + 1, n + (16 + (el k).size), by omega, by go_num, by omega, by omega, rfl⟩
          case measure => simp [intOf]; omega
        · go_wp2
          go_ret
          exact ⟨rfl, Below.refl _ _⟩
      · go_wp2_with fail
        refine (reach_any base _ hM.out.1).mono ?_
        rintro e w' ⟨⟨bb, rfl⟩, n, rfl⟩
        cases bb
        · go_wp2
          go_ret
          exact ⟨rfl, below_drewN (Below.refl _ _) n⟩
        go_wp2_with fail
        refine (new_any w _ base t0 (below_drewN (Below.refl _ _) n)).mono ?_
        rintro e w1 ⟨rfl, hc1, -⟩
        go_wp2_with fail
        refine (token_any w _ _ base t0 hc1).mono ?_
        rintro e w2 ⟨rfl, hc2, -⟩
        clear hc1
        go_wp2_with fail
        go_loopw [10] (fun i wr => ∃ k : Nat, k ≤ len ∧ i = .int .i64 k ∧ Hid (Cl w wr w.heap.size base (last t0 el k))) (fun i _ => len - (intOf i).toNat)
        case atStart => exact ⟨0, Nat.zero_le _, rfl, hc2⟩
        case round =>
          clear hlt hk hn0 hn1 hc2
          obtain ⟨k, hk, rfl, hc3⟩ := hrel
          by_cases hlt : k < len
          · have hlt' : (k : Int) < len := by omega
            have ck : wr.cell? ⟨b, off + k, none⟩ = some (.string (el k)) := (hc3.out.1.cell (p := ⟨b, off + k, none⟩) hb).trans (HC.out k hlt).1
            go_wp2_with fail
            refine (zzkeep_any w _ _ base _ (el k) hc3.out).mono ?_
            rintro e w4 ⟨rfl, hc4, -⟩
            have ck4 : w4.cell? ⟨b, off + k, none⟩ = some (.string (el k)) := (hc4.1.cell (p := ⟨b, off + k, none⟩) hb).trans (HC.out k hlt).1
            clear ck hc3
            go_wp2_with fail
            go_region_with (go_at_call 12; refine (token_any w _ _ base (el k) ?_).mono ?_; exact hc4.drew; rintro e w5 ⟨rfl, hc5, ha5⟩; have ck5 : w5.cell? ⟨b, off + k, none⟩ = some (.string (el k)) := (hc5.1.cell (p := ⟨b, off + k, none⟩) hb).trans (HC.out k hlt).1)
            all_goals
              go_wp2
              go_roundw
              case rel => exact ⟨k + 1, by omega, by go_num, hc5⟩
              case measure => simp [intOf]; omega
          · obtain rfl : k = len := by omega
            have hpos' : (0 : Int) < k := by omega
            have hle : Hid (last t0 el k = el (k - 1)) := last_pos t0 el k hpos
            have hc3' : Cl w wr w.heap.size base (el (k - 1)) := by have := hc3.out; rwa [hle.out] at this
            have ck : wr.cell? ⟨b, off + (k - 1), none⟩ = some (.string (el (k - 1))) := (hc3'.1.cell (p := ⟨b, off + (k - 1), none⟩) hb).trans (HC.out (k - 1) (by omega)).1
            clear hc3
            go_wp2_with fail
            refine (token_any w _ _ base (el (k - 1)) hc3').mono ?_
            rintro e w4 ⟨rfl, hc4, -⟩
            clear hc3' ck
            go_wp2_with fail
            refine (string_wide w _ _ base (el (k - 1)) hc4 (by omega)).mono ?_
            rintro e w' ⟨rfl, rfl⟩
            unfold desc
            go_wp2
            go_ret
            exact ⟨rfl, hc4.1⟩
  · exact lastwrite_big base t0 _ len cap h1 h2 hs.1 w hbig

end Go.Proofs.Qxb6614354a
