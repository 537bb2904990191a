/-
  THE WALK of the law FnErrorWrapsInnerAtTheEnd (3).
-/
import Derived.Test.Qxb6614354aFmtText
namespace Go.Proofs.Qxb6614354aFmt
open Go.RowKit Go.Extern.Stop Go.Stop Go.Extern

theorem errText_size (op : ByteArray) (st : Int) (code msg X : ByteArray) : (errText op st code msg X).size ≤ op.size + code.size + msg.size + X.size + 100 := by
  unfold errText head
  split
  · split <;> simp only [ByteArray.size_append', ByteArray.size_mk', List.size_toArray, List.length_cons, List.length_nil] <;> omega
  · simp only [ByteArray.size_append', ByteArray.size_mk', List.size_toArray, List.length_cons, List.length_nil]; omega

theorem pre_head (op : ByteArray) (st : Int) (code msg X : ByteArray) : pre (errText op st code msg X) (head op msg) = true := by
  unfold errText
  split
  · split
    · rw [ByteArray.append_assoc]; exact pre_append _ _
    · rw [ByteArray.append_assoc, ByteArray.append_assoc]; exact pre_append _ _
  · have := pre_append (head op msg) ⟨#[]⟩
    rwa [show head op msg ++ (⟨#[]⟩ : ByteArray) = head op msg from ByteArray.append_empty] at this

set_option maxHeartbeats 800000 in
theorem wraps_any (F : Interp) (op : ByteArray) (st : Int) (code msg inner X : ByteArray) (w : World) (hF : F.answers w.tape)
    (h1 : op.size ≤ maxLen) (h2 : code.size ≤ maxLen) (h3 : msg.size ≤ maxLen) (h4 : inner.size ≤ maxLen)
    (hX : FmtStop.textOf (F "fmt.Sprintf" (reading st) 0) = X) (hXs : (X.size : Int) ≤ 1000000) :
    Calls Tryf.prog 3 #[.string op, .int .i64 st, .string code, .string msg, .string inner] w fun e w' => e = .returned (.bool true) ∧ Below w.heap.size w w' := by
  have HX : Hid (FmtStop.textOf (F "fmt.Sprintf" (reading st) 0) = X) := hX
  clear hX
  have hM : Hid (op.size ≤ maxLen ∧ code.size ≤ maxLen ∧ msg.size ≤ maxLen ∧ inner.size ≤ maxLen) := ⟨h1, h2, h3, h4⟩
  unfold maxLen at h1 h2 h3 h4
  by_cases g1 : (131072 : Int) < op.size
  · go_enter Tryf.func3, Tryf.ntmps3
    go_wp2_with (go_at_call 5; refine (bytes5_any op st code msg inner _ hM.out.1 hM.out.2.1 hM.out.2.2.1 hM.out.2.2.2).mono ?_; rintro e w' ⟨⟨bb, rfl⟩, rfl⟩; cases bb)
    all_goals (go_ret; exact ⟨rfl, Below.refl _ _⟩)
  by_cases g2 : (131072 : Int) < code.size
  · go_enter Tryf.func3, Tryf.ntmps3
    go_wp2_with (go_at_call 5; refine (bytes5_any op st code msg inner _ hM.out.1 hM.out.2.1 hM.out.2.2.1 hM.out.2.2.2).mono ?_; rintro e w' ⟨⟨bb, rfl⟩, rfl⟩; cases bb)
    all_goals (go_ret; exact ⟨rfl, Below.refl _ _⟩)
  by_cases g3 : (131072 : Int) < msg.size
  · go_enter Tryf.func3, Tryf.ntmps3
    go_wp2_with (go_at_call 5; refine (bytes5_any op st code msg inner _ hM.out.1 hM.out.2.1 hM.out.2.2.1 hM.out.2.2.2).mono ?_; rintro e w' ⟨⟨bb, rfl⟩, rfl⟩; cases bb)
    all_goals (go_ret; exact ⟨rfl, Below.refl _ _⟩)
  by_cases g4 : (131072 : Int) < inner.size
  · go_enter Tryf.func3, Tryf.ntmps3
    go_wp2_with (go_at_call 5; refine (bytes5_any op st code msg inner _ hM.out.1 hM.out.2.1 hM.out.2.2.1 hM.out.2.2.2).mono ?_; rintro e w' ⟨⟨bb, rfl⟩, rfl⟩; cases bb)
    all_goals (go_ret; exact ⟨rfl, Below.refl _ _⟩)
  have hsz := errText_size op st code msg X
  have hsz' : ((errText op st code msg X).size : Int) ≤ 2000000 := by omega
  clear hsz
  have hpre : pre (errText op st code msg X) (⟨#[103, 97, 116, 101, 58, 32]⟩ ++ op ++ ⟨#[58, 32]⟩ ++ msg) = true := pre_head op st code msg X
  go_enter Tryf.func3, Tryf.ntmps3
  go_wp2_with (go_at_call 5; refine (bytes5_any op st code msg inner _ hM.out.1 hM.out.2.1 hM.out.2.2.1 hM.out.2.2.2).mono ?_; rintro e w' ⟨⟨bb, rfl⟩, rfl⟩; cases bb)
  · go_ret
    exact ⟨rfl, Below.refl _ _⟩
  · refine (text_any F op st code msg X _ (by exact hF) (by omega) (by omega) (by omega) HX.out hXs).mono ?_
    rintro e w1 ⟨rfl, hb1⟩
    go_wp2_with fail
    refine (wrapped_any F op st code msg inner X _ (by rw [hb1.tape]; exact hF) (by omega) (by omega) (by omega) (by omega) HX.out hXs).mono ?_
    rintro e w2 ⟨rfl, hb2⟩
    go_wp2_with fail
    refine (hasPrefix_any _ _ _ (by unfold maxLen; omega)).mono ?_
    rintro e w3 ⟨rfl, n, rfl⟩
    go_wp2
    go_ret
    exact ⟨ret_bool (by rw [ByteArray.append_assoc]; exact beq_self_eq_true _), (hb1.trans (hb2.mono hb1.size)).trans ⟨rfl, rfl, rfl, Nat.le_refl _, fun _ _ => rfl⟩⟩

end Go.Proofs.Qxb6614354aFmt
