/-
  THE WALKS of the client's methods: ZZnewClient (9), String (10), ZZkeep (11), Token (12), keep (17). One goroutine; the lock is free.
-/
import Derived.Test.Qxb6614354aLocks
import Derived.WalkKit
import Derived.WalkSpells
import Derived.Below
namespace Go.Proofs.Qxb6614354a
open Go.RowKit Go.MuLone

/-- THE CLIENT in block b of the world w, which has at most new blocks beside those of W: its base, its token, its lock free; it lies in a block of the call's own. -/
def Cl (W w : World) (b : Nat) (base tok : ByteArray) : Prop :=
  Below W.heap.size W w ∧ W.heap.size ≤ b ∧ b < w.heap.size ∧ w.cell? ⟨b, 0, none⟩ = some (.string base) ∧ w.cell? ⟨b, 2, none⟩ = some (.int .i32 0) ∧ w.cell? ⟨b, 4, none⟩ = some (.string tok) ∧
    w.frozen? ⟨b, 2, none⟩ = false ∧ w.frozen? ⟨b, 4, none⟩ = false

/-- Nothing but the block b has turned. -/
def Aside (b : Nat) (w w' : World) : Prop := w'.heap.size = w.heap.size ∧ ∀ p : Addr, p.block ≠ b → w'.cell? p = w.cell? p ∧ w'.frozen? p = w.frozen? p

/-- Another client stands as it stood. -/
theorem Cl.aside {W w w' : World} {b b' : Nat} {base tok : ByteArray} (h : Cl W w b' base tok) (hb : b' ≠ b) (ha : Aside b w w') (hW : Below W.heap.size W w') : Cl W w' b' base tok := by
  obtain ⟨_, h2, h3, h4, h5, h6, h7, h8⟩ := h
  obtain ⟨s, f⟩ := ha
  exact ⟨hW, h2, by omega, (f ⟨b', 0, none⟩ hb).1.trans h4, (f ⟨b', 2, none⟩ hb).1.trans h5, (f ⟨b', 4, none⟩ hb).1.trans h6, (f ⟨b', 2, none⟩ hb).2.trans h7, (f ⟨b', 4, none⟩ hb).2.trans h8⟩

theorem aside_setCell {b : Nat} {w w' : World} (h : Aside b w w') (o : Nat) (v : Value) : Aside b w (w'.setCell ⟨b, o, none⟩ v) := by
  obtain ⟨s, f⟩ := h
  refine ⟨by rw [← s]; simp, fun p hp => ⟨?_, ?_⟩⟩
  · rw [World.cell?_setCell_other _ ⟨b, o, none⟩ p _ (fun e => hp (by rw [← e]))]
    exact (f p hp).1
  · rw [← (f p hp).2]; simp

theorem aside_refl (b : Nat) (w : World) : Aside b w w := ⟨rfl, fun _ _ => ⟨rfl, rfl⟩⟩

/-- 'gate.Client(base)' -/
def desc (base : ByteArray) : ByteArray := ⟨#[103, 97, 116, 101, 46, 67, 108, 105, 101, 110, 116, 40]⟩ ++ base ++ ⟨#[41]⟩

theorem new_any (W w : World) (base tok : ByteArray) (hW : Below W.heap.size W w) :
    Calls Try.prog 9 #[.string base, .string tok] w fun e w' => e = .returned (.pointer (some ⟨w.heap.size, 0, none⟩)) ∧ Cl W w' w.heap.size base tok ∧ w' = w.alloc (.cells #[.string base, .pointer none, .int .i32 0, .int .u32 0, .string tok] 40) := by
  have hs := hW.size
  go_enter Try.func9, Try.ntmps9
  go_wp2
  go_ret
  exact ⟨rfl, ⟨hW.alloc hs _, hs, by simp, by simp, by simp, by simp, by simp, by simp⟩, rfl⟩

set_option maxHeartbeats 400000 in
theorem string_any (W w : World) (b : Nat) (base tok : ByteArray) (h : Cl W w b base tok) (hb : (base.size : Int) ≤ 1000000) :
    Calls Try.prog 10 #[.pointer (some ⟨b, 0, none⟩)] w fun e w' => e = .returned (.string (desc base)) ∧ w = w' := by
  obtain ⟨_, _, _, c0, _⟩ := h
  go_enter Try.func10, Try.ntmps10
  go_wp2
  go_ret
  exact ⟨rfl, rfl⟩

set_option maxHeartbeats 800000 in
theorem token_any (W w : World) (b : Nat) (base tok : ByteArray) (h : Cl W w b base tok) :
    Calls Try.prog 12 #[.pointer (some ⟨b, 0, none⟩)] w fun e w' => e = .returned (.string tok) ∧ Cl W w' b base tok ∧ Aside b w w' := by
  obtain ⟨k1, k2, k3, c0, c2, c4, f2, f4⟩ := h
  have HK : Hid (Below W.heap.size W w ∧ W.heap.size ≤ b ∧ b < w.heap.size) := ⟨k1, k2, k3⟩
  clear k1 k2 k3
  go_enter_defers Try.func12, Try.ntmps12
  go_wp2_with (go_at_call 18; refine (lock_free muLib ⟨b, 2, none⟩ _ c2 f2).mono ?_; rintro e w' ⟨rfl, rfl⟩)
  refine leaves_cons (f := 19) (args := #[.pointer (some ⟨b, 2, none⟩)]) (by simp) (by simp [go_sem]) ?_
  refine (unlock_deferred muLib ⟨b, 2, none⟩ .returning _ ?_ ?_).mono ?_
  · exact World.cell?_setCell_same w ⟨b, 2, none⟩ (.int .i32 1) c2
  · simp [f2]
  rintro e u' w'' ⟨rfl, rfl, rfl⟩
  refine ⟨_, results_tmp rfl _ _ _, rfl, ?_, aside_setCell (aside_setCell (aside_refl b w) 2 _) 2 _⟩
  obtain ⟨k1, k2, k3⟩ := HK.out
  refine ⟨(k1.setCell k2 _).setCell k2 _, k2, by simpa using k3, ?_, ?_, ?_, by simpa using f2, by simpa using f4⟩
  · exact (World.cell?_setCell_other _ ⟨b, 2, none⟩ ⟨b, 0, none⟩ _ (by simp)).trans ((World.cell?_setCell_other _ ⟨b, 2, none⟩ ⟨b, 0, none⟩ _ (by simp)).trans c0)
  · exact World.cell?_setCell_same _ ⟨b, 2, none⟩ _ (World.cell?_setCell_same w ⟨b, 2, none⟩ _ c2)
  · exact (World.cell?_setCell_other _ ⟨b, 2, none⟩ ⟨b, 4, none⟩ _ (by simp)).trans ((World.cell?_setCell_other _ ⟨b, 2, none⟩ ⟨b, 4, none⟩ _ (by simp)).trans c4)

set_option maxHeartbeats 800000 in
theorem keep_any (W w : World) (b : Nat) (base tok t : ByteArray) (h : Cl W w b base tok) :
    Calls Try.prog 17 #[.pointer (some ⟨b, 0, none⟩), .string t] w fun e w' => e = .returned (.tuple #[]) ∧ Cl W w' b base t ∧ Aside b w w' := by
  obtain ⟨k1, k2, k3, c0, c2, c4, f2, f4⟩ := h
  have HK : Hid (Below W.heap.size W w ∧ W.heap.size ≤ b ∧ b < w.heap.size) := ⟨k1, k2, k3⟩
  clear k1 k2 k3
  go_enter_defers Try.func17, Try.ntmps17
  go_wp2_with (go_at_call 18; refine (lock_free muLib ⟨b, 2, none⟩ _ c2 f2).mono ?_; rintro e w' ⟨rfl, rfl⟩)
  refine leaves_cons (f := 19) (args := #[.pointer (some ⟨b, 2, none⟩)]) (by simp) (by simp [go_sem]) ?_
  refine (unlock_deferred muLib ⟨b, 2, none⟩ .returning _ ?_ ?_).mono ?_
  · exact (World.cell?_setCell_other _ ⟨b, 4, none⟩ ⟨b, 2, none⟩ _ (by simp)).trans (World.cell?_setCell_same w ⟨b, 2, none⟩ (.int .i32 1) c2)
  · simp [f2]
  rintro e u' w'' ⟨rfl, rfl, rfl⟩
  refine ⟨_, results_none rfl _ _ _, rfl, ?_, aside_setCell (aside_setCell (aside_setCell (aside_refl b w) 2 _) 4 _) 2 _⟩
  obtain ⟨k1, k2, k3⟩ := HK.out
  refine ⟨((k1.setCell k2 _).setCell k2 _).setCell k2 _, k2, by simpa using k3, ?_, ?_, ?_, by simpa using f2, by simpa using f4⟩
  · exact (World.cell?_setCell_other _ ⟨b, 2, none⟩ ⟨b, 0, none⟩ _ (by simp)).trans ((World.cell?_setCell_other _ ⟨b, 4, none⟩ ⟨b, 0, none⟩ _ (by simp)).trans ((World.cell?_setCell_other _ ⟨b, 2, none⟩ ⟨b, 0, none⟩ _ (by simp)).trans c0))
  · exact World.cell?_setCell_same _ ⟨b, 2, none⟩ _ ((World.cell?_setCell_other _ ⟨b, 4, none⟩ ⟨b, 2, none⟩ _ (by simp)).trans (World.cell?_setCell_same w ⟨b, 2, none⟩ _ c2))
  · exact (World.cell?_setCell_other _ ⟨b, 2, none⟩ ⟨b, 4, none⟩ _ (by simp)).trans (World.cell?_setCell_same _ ⟨b, 4, none⟩ _ ((World.cell?_setCell_other _ ⟨b, 2, none⟩ ⟨b, 4, none⟩ _ (by simp)).trans c4))

theorem zzkeep_any (W w : World) (b : Nat) (base tok t : ByteArray) (h : Cl W w b base tok) :
    Calls Try.prog 11 #[.pointer (some ⟨b, 0, none⟩), .string t] w fun e w' => e = .returned (.tuple #[]) ∧ Cl W w' b base t ∧ Aside b w w' := by
  go_enter Try.func11, Try.ntmps11
  go_wp2_with fail
  refine (keep_any W w b base tok t h).mono ?_
  rintro e w' ⟨rfl, hc, ha⟩
  go_wp2
  go_end0
  exact ⟨rfl, hc, ha⟩

end Go.Proofs.Qxb6614354a
