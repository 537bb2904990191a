/-
  THE ROW's STEP of 'FnKeepLastWriteWins' (after the guide's shell for slices, at a slice of strings).
-/
import Derived.Test.Qxb6614354aLawL2
import Derived.WalkKit
import Derived.ProofKit
import Derived.OpenShut
import Derived.ShutString
import Derived.ChangeOld
import Derived.SliceStrings
import Derived.Below
namespace Go.Proofs.Qxb6614354a.fnKeepLastWriteWins
open Go.ChangeShapes Go.WideShapes Go.ChangeAt Go.RowKit
open Go.ChangeMaps (open_string shut_string)

theorem own : ownKnob Try.prog.godebug = none := by kernel_rfl
theorem laidOut : laidOutB Try.prog = true := by kernel_rfl

theorem add_none (b off i : Nat) : (⟨b, off, none⟩ : Addr).add i = ⟨b, off + i, none⟩ := by
  by_cases h : i = 0 <;> simp [Addr.add, h]

theorem walk (base t0 : ByteArray) (a : Option Addr) (len cap : Nat) (el : Nat → ByteArray) (h1 : base.size ≤ maxLen) (h2 : t0.size ≤ maxLen) (w : World) (hs : IsStrs w a len el) :
    Calls Try.prog 5 #[.string base, .string t0, .slice a len cap] w fun e w' => e = .returned (.bool true) ∧ Below w.heap.size w w' := by
  by_cases h0 : len = 0
  · subst h0
    exact lastwrite_zero base t0 a cap el h1 h2 w hs
  · obtain ⟨b, off, rfl, hb, hc⟩ := hs.2 (by omega)
    exact lastwrite_pos base t0 b off len cap el h1 h2 w hs (by omega) hb hc

set_option maxRecDepth 100000 in
theorem lifted (os : Os) (started : os.Started) (H : Type) (enc : TypeId × Value → H) :
    ReturnsInHanded {} Try.checked os 5 .any (Rows.fnKeepLastWriteWinsSpec.pre6 enc Try.prog Try.f5 Rows.fnKeepLastWriteWinsRow.domain false) (Rows.fnKeepLastWriteWinsSpec.post enc Try.prog Try.f5 false true false false) := by
  refine returnsInHanded_of_change (C := Try.checked) own started (by kernel_rfl) Try.func5
    (ChangeSpec.witness6 (enc := enc) (C := Try.checked) false ⟨#[], #[.string ByteArray.empty, .string ByteArray.empty, .slice none 0 0], []⟩ 8 (by kernel_rfl) (by kernel_rfl) (by kernel_rfl) (by kernel_rfl)) ?_
  intro W base args ds gs before hval0 hW hcnd _
  have hval : ∀ (j : Nat) t v, Try.f5.params[j]? = some t → args[j]? = some v → Value.okWide Try.prog W .any base t v := hval0
  have hW' := hW
  obtain ⟨p, q, hA0, hV, rfl, hfz, hnd⟩ := hW
  have hA : DataW.TrodAll enc Try.prog W 0 (fun _ => true) true Try.f5.params.toList args.toList ds p := hA0
  rw [Try.params5] at hA hval
  obtain ⟨v0, vs0, d0, ds0, p0, q0, hargs, rfl, rfl, h0, r0⟩ := trodAll_cons hA
  obtain ⟨v1, vs1, d1, ds1, p1, q1, rfl, rfl, rfl, h1, r1⟩ := trodAll_cons r0
  obtain ⟨v2, vs2, d2, ds2, p2, q2, rfl, rfl, rfl, h2, r2⟩ := trodAll_cons r1
  obtain ⟨rfl, rfl, rfl⟩ := trodAll_nil r2
  obtain rfl : args = #[v0, v1, v2] := by cases args; simp_all
  obtain ⟨rfl, rfl⟩ := trodVars_none hV
  obtain ⟨a0, rfl, rfl, rfl, w0⟩ := open_string Try.underlying9 (hval 0 9 v0 rfl rfl) h0
  obtain ⟨a1, rfl, rfl, rfl, w1⟩ := open_string Try.underlying9 (hval 1 9 v1 rfl rfl) h1
  obtain ⟨a2, len2, cap2, rfl⟩ := okWide_slice Try.underlying29 (hval 2 29 v2 rfl rfl)
  have k2 := h2
  have lt2 : ∀ x ∈ p2, x.block < W.heap.size := by obtain ⟨m, hm⟩ := k2; exact DataW.trod_lt m _ _ _ hm
  obtain ⟨el, w2⟩ : ∃ el, IsStrs W a2 len2 el := by
    obtain ⟨fuel, hf⟩ := h2
    rcases open_strings Try.underlying29 Try.underlying9 (by kernel_rfl) hf with ⟨hcs, _⟩ | ⟨x, l, c, ss, hcs, _, hl, hm, hz, _, hcell, hsz⟩
    · simp [Value.cells] at hcs
      obtain ⟨rfl, rfl, rfl⟩ := hcs
      exact ⟨fun _ => ByteArray.empty, Nat.zero_le _, fun h => absurd h (Nat.lt_irrefl 0)⟩
    · simp [Value.cells] at hcs
      obtain ⟨rfl, rfl, rfl⟩ := hcs
      have hz' : ss.length = cap2 := by simpa using hz
      refine ⟨fun i => ss.getD i ByteArray.empty, Nat.le_trans hl hm, fun hp => ?_⟩
      obtain ⟨b, off, spot⟩ := x
      have hc0 := hcell 0 (by omega)
      have hspot : spot = none := by simpa [Addr.add] using World.cell?_spot hc0
      subst hspot
      refine ⟨b, off, rfl, ?_, fun i hi => ⟨by rw [← add_none]; exact hcell i (by omega), ?_⟩⟩
      · refine Nat.lt_of_not_le fun hge => ?_
        simp [World.cell?, Addr.add, Array.getElem?_eq_none hge] at hc0
      · have hi' : i < ss.length := by omega
        have hm : ss.getD i ByteArray.empty = ss[i] := by simp [List.getElem?_eq_getElem hi']
        show (ss.getD i ByteArray.empty).size ≤ maxLen
        rw [hm]
        exact hsz _ (List.getElem_mem hi')
  clear hA0 hval0
  refine (walk a0 a1 a2 len2 cap2 el w0 w1 W w2).mono fun e W' ⟨he, bel⟩ => ?_
  subst he
  exact ⟨_, rfl, _, _, _, [], _, [], hW', trodAll_mk1 (shut_bool Try.underlying4 _), (trodAll_cons_mk (shut_string Try.underlying9 w0) (trodAll_cons_mk (shut_string Try.underlying9 w1) (trodAll_cons_mk (Below.trod laidOut (by kernel_rfl) (of_decide_eq_true (by kernel_rfl)) k2 bel lt2) trodAll_mk0))), rfl, bel.frame _, fun h => by cases h⟩

theorem over : Rows.fnKeepLastWriteWinsRow.holds Try.pinned (OpenSpec.ofChange Rows.fnKeepLastWriteWinsSpec) :=
  OpenClaim.holds_of_wide 5 Try.f5 rfl rfl rfl rfl rfl rfl rfl ⟨rfl, rfl, rfl, rfl, rfl⟩ rfl rfl rfl rfl rfl (by kernel_rfl) Try.func5 (by kernel_rfl)
    (of_decide_eq_true (by kernel_rfl)) (by unfold Func.isWrapper; first | (rw [if_pos (by decide +kernel)]; kernel_rfl) | (rw [if_neg (by decide +kernel)]; exact ⟨rfl, rfl⟩))
    (fun os started H enc _ => lifted os started H enc)

theorem proved : Rows.FnKeepLastWriteWinsSaid :=
  over
end Go.Proofs.Qxb6614354a.fnKeepLastWriteWins

namespace Go.Proofs.Qxb6614354a
/-- THE STATEMENT. -/
theorem keep_last_write_wins : Rows.FnKeepLastWriteWinsSaid := fnKeepLastWriteWins.proved
#print axioms keep_last_write_wins
end Go.Proofs.Qxb6614354a
