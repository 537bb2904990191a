/-
  THE WALK of widthFits (19).
-/
import Derived.Test.Qxb6605940aWide
namespace Go.Proofs.Qxb6605940a
open Go.RowKit

theorem ret_bool {a b : Bool} (h : a = b) : Ending.returned (.bool a) = .returned (.bool b) := by rw [h]

set_option maxHeartbeats 800000 in
theorem fits_any (w l : Int) (q : Bool) (h : Int) (W : World) (hl : l ≤ 614891469123651720) (hh0 : 0 ≤ h) (hh : h ≤ 9223372036854775807) :
    Calls Try.prog 19 #[.int .i64 w, .int .i64 l, .bool q, .int .i64 h] W fun e W' => e = .returned (.bool (fitsB w l q h)) ∧ W = W' := by
  by_cases c1 : w < 1
  · have hb : fitsB w l q h = false := by rw [fits_false_iff]; rintro ⟨x, -⟩; omega
    have HB : Hid (fitsB w l q h = false) := hb
    clear hb
    go_enter Try.func19, Try.ntmps19
    go_wp2
    go_ret
    exact ⟨ret_bool HB.out.symm, rfl⟩
  by_cases c2 : l < 0
  · have hb : fitsB w l q h = false := by rw [fits_false_iff]; rintro ⟨x, -⟩; omega
    have HB : Hid (fitsB w l q h = false) := hb
    clear hb
    go_enter Try.func19, Try.ntmps19
    go_wp2
    go_ret
    exact ⟨ret_bool HB.out.symm, rfl⟩
  by_cases c3 : l < w
  · have hb : fitsB w l q h = false := by rw [fits_false_iff]; rintro ⟨x, -⟩; omega
    have HB : Hid (fitsB w l q h = false) := hb
    clear hb
    go_enter Try.func19, Try.ntmps19
    go_wp2
    go_ret
    exact ⟨ret_bool HB.out.symm, rfl⟩
  have d1 : 1 ≤ w := by omega
  have d2 : 0 ≤ l := by omega
  have d3 : w ≤ l := by omega
  clear c1 c2 c3
  by_cases c4 : 3 * l < 20 * w
  · have hb : fitsB w l q h = false := by rw [fits_false_iff]; rintro ⟨x, -⟩; omega
    have HB : Hid (fitsB w l q h = false) := hb
    clear hb
    go_enter Try.func19, Try.ntmps19
    go_wp2
    go_ret
    exact ⟨ret_bool HB.out.symm, rfl⟩
  have d4 : 20 * w ≤ 3 * l := by omega
  clear c4
  cases q
  · have hb : fitsB w l false h = true := by rw [fits_iff]; exact ⟨⟨d1, d2, d3, d4⟩, fun x => by cases x⟩
    have HB : Hid (fitsB w l false h = true) := hb
    clear hb
    go_enter Try.func19, Try.ntmps19
    go_wp2
    go_ret
    exact ⟨ret_bool HB.out.symm, rfl⟩
  · have p0 : 0 ≤ w * h := Int.mul_nonneg (by omega) hh0
    by_cases c5 : w * h ≤ l
    · have hb : fitsB w l true h = true := by rw [fits_iff]; exact ⟨⟨d1, d2, d3, d4⟩, fun _ => c5⟩
      obtain ⟨k1, k2⟩ := words_fit w h l p0 c5 (by omega)
      have HB : Hid (fitsB w l true h = true) := hb
      have k1' : (hiW w h != 0) = false := by rw [k1]; rfl
      have k2' : loW w h ≤ l := by rw [k2]; exact c5
      have k3 := words_nonneg w h
      clear hb p0 c5 k1 k2
      go_enter Try.func19, Try.ntmps19
      go_wp2_with (go_at_call 20; refine (wideMul_any w h ⟨by omega, by omega⟩ ⟨hh0, hh⟩ _).mono ?_; rintro e w' ⟨rfl, rfl⟩)
      go_ret
      exact ⟨ret_bool HB.out.symm, rfl⟩
    · have hb : fitsB w l true h = false := by rw [fits_false_iff]; rintro ⟨-, x⟩; exact c5 (x rfl)
      have HB : Hid (fitsB w l true h = false) := hb
      have k3 := words_nonneg w h
      by_cases k1 : (hiW w h != 0) = true
      · clear hb p0 c5
        go_enter Try.func19, Try.ntmps19
        go_wp2_with (go_at_call 20; refine (wideMul_any w h ⟨by omega, by omega⟩ ⟨hh0, hh⟩ _).mono ?_; rintro e w' ⟨rfl, rfl⟩)
        go_ret
        exact ⟨ret_bool HB.out.symm, rfl⟩
      · have k1' : (hiW w h != 0) = false := by simpa using k1
        have k2 : l < loW w h := by
          rcases words_over w h l (by omega) with x | x
          · exact absurd (by simpa using x) k1
          · exact x
        clear hb p0 c5 k1
        go_enter Try.func19, Try.ntmps19
        go_wp2_with (go_at_call 20; refine (wideMul_any w h ⟨by omega, by omega⟩ ⟨hh0, hh⟩ _).mono ?_; rintro e w' ⟨rfl, rfl⟩)
        go_ret
        exact ⟨ret_bool HB.out.symm, rfl⟩

end Go.Proofs.Qxb6605940a
