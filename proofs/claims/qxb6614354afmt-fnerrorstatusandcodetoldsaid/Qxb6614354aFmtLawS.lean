/-
  THE WALK of the law FnErrorStatusAndCode (4).
-/
import Derived.Test.Qxb6614354aFmtText
import Derived.Lib.Strings
namespace Go.Proofs.Qxb6614354aFmt
open Go.RowKit Go.Extern.Stop Go.Stop Go.Extern

/-- The text with a status and no code. -/
def stText (op msg X : ByteArray) : ByteArray := head op msg ++ X ++ ⟨#[41]⟩

theorem errText_zero (op code msg X : ByteArray) : errText op 0 code msg X = head op msg := by
  unfold errText; rw [if_neg (by simp)]

theorem errText_bare (op : ByteArray) (st : Int) (msg X : ByteArray) (h : (st != 0) = true) : errText op st ⟨#[]⟩ msg X = stText op msg X := by
  unfold errText; rw [if_pos h, if_pos (by simp [ByteArray.toList_eq])]; rfl

theorem errText_code (op : ByteArray) (st : Int) (code msg X : ByteArray) (h : (st != 0) = true) (hc : code.toList.isEmpty = false) :
    errText op st code msg X = head op msg ++ X ++ (⟨#[44, 32, 99, 111, 100, 101, 32]⟩ ++ code) ++ ⟨#[41]⟩ := by
  unfold errText; rw [if_pos h, if_neg (by simp [hc])]

theorem stText_size (op msg X : ByteArray) : (stText op msg X).size = 6 + op.size + 2 + msg.size + X.size + 1 := by
  unfold stText head
  simp only [ByteArray.size_append', ByteArray.size_mk', List.size_toArray, List.length_cons, List.length_nil]

theorem stText_pre (op msg X : ByteArray) : pre (stText op msg X) (head op msg) = true := by
  unfold stText
  rw [ByteArray.append_assoc]; exact pre_append _ _

theorem stText_last (op msg X : ByteArray) (k : Nat) (hk : k = 6 + op.size + 2 + msg.size + X.size) (h : k < (stText op msg X).size) : (stText op msg X)[k].toNat = 41 := by
  have e : (stText op msg X).data.toList[k]? = some 41 := by
    unfold stText
    rw [ByteArray.data_append, Array.toList_append, List.getElem?_append_right (by subst hk; unfold head; simp; omega)]
    have : k - (head op msg ++ X).data.toList.length = 0 := by subst hk; unfold head; simp; omega
    rw [this]
    rfl
  rw [at_byte _ k h] at e
  simp only [Option.some.injEq] at e
  rw [e]
  rfl

theorem stText_cut (op msg X : ByteArray) (k : Nat) (hk : k = 6 + op.size + 2 + msg.size + X.size) : (stText op msg X).extract 0 k = head op msg ++ X := by
  apply ByteArray.ext
  apply Array.ext'
  rw [Lib.extract_data]
  unfold stText
  rw [ByteArray.data_append, Array.toList_append, List.drop_zero, List.take_append_of_le_length (by subst hk; unfold head; simp; omega), List.take_of_length_le (by subst hk; unfold head; simp; omega)]

theorem full_eq (op : ByteArray) (st : Int) (code msg X : ByteArray) (h : (st != 0) = true) (hc : code.toList.isEmpty = false) :
    ((errText op st code msg X).toList == ((stText op msg X).extract 0 (6 + op.size + 2 + msg.size + X.size) ++ ⟨#[44, 32, 99, 111, 100, 101, 32]⟩ ++ code ++ ⟨#[41]⟩).toList) = true := by
  rw [stText_cut _ _ _ _ rfl, errText_code _ _ _ _ _ h hc, ← ByteArray.append_assoc (a := head op msg ++ X)]
  exact beq_self_eq_true _

theorem errText_z (op : ByteArray) (st : Int) (code msg X : ByteArray) (h : (st == 0) = true) : errText op st code msg X = head op msg := by
  unfold errText; rw [if_neg (by simpa using h)]

theorem errText_none (op : ByteArray) (st : Int) (code msg X : ByteArray) (h : (st != 0) = true) (hc : code.toList.isEmpty = true) : errText op st code msg X = stText op msg X := by
  unfold errText; rw [if_pos h, if_pos hc]; rfl

set_option maxHeartbeats 1600000 in
theorem status_big (op : ByteArray) (st : Int) (code msg : ByteArray) (w : World)
    (h1 : op.size ≤ maxLen) (h2 : code.size ≤ maxLen) (h3 : msg.size ≤ maxLen) (hbig : ¬ ((op.size : Int) ≤ 262144 ∧ (code.size : Int) ≤ 262144 ∧ (msg.size : Int) ≤ 262144)) :
    Calls Tryf.prog 4 #[.string op, .int .i64 st, .string code, .string msg] w fun e w' => e = .returned (.bool true) ∧ Below w.heap.size w w' := by
  have hM : Hid (op.size ≤ maxLen ∧ code.size ≤ maxLen ∧ msg.size ≤ maxLen) := ⟨h1, h2, h3⟩
  unfold maxLen at h1 h2 h3
  by_cases g1 : (262144 : Int) < op.size
  · clear hbig
    go_enter Tryf.func4, Tryf.ntmps4
    go_wp2_with (go_at_call 9; refine (bytes9_any op st code msg _ hM.out.1 hM.out.2.1 hM.out.2.2).mono ?_; rintro e w' ⟨⟨bb, rfl⟩, rfl⟩; cases bb)
    all_goals (go_ret; exact ⟨rfl, Below.refl _ _⟩)
  by_cases g2 : (262144 : Int) < code.size
  · clear hbig
    go_enter Tryf.func4, Tryf.ntmps4
    go_wp2_with (go_at_call 9; refine (bytes9_any op st code msg _ hM.out.1 hM.out.2.1 hM.out.2.2).mono ?_; rintro e w' ⟨⟨bb, rfl⟩, rfl⟩; cases bb)
    all_goals (go_ret; exact ⟨rfl, Below.refl _ _⟩)
  have g3 : (262144 : Int) < msg.size := by omega
  clear hbig
  go_enter Tryf.func4, Tryf.ntmps4
  go_wp2_with (go_at_call 9; refine (bytes9_any op st code msg _ hM.out.1 hM.out.2.1 hM.out.2.2).mono ?_; rintro e w' ⟨⟨bb, rfl⟩, rfl⟩; cases bb)
  all_goals (go_ret; exact ⟨rfl, Below.refl _ _⟩)

set_option maxHeartbeats 1600000 in
theorem status_zero (F : Interp) (op : ByteArray) (st : Int) (code msg X X0 : ByteArray) (w : World) (hF : F.answers w.tape)
    (h1 : op.size ≤ maxLen) (h2 : code.size ≤ maxLen) (h3 : msg.size ≤ maxLen)
    (hX : FmtStop.textOf (F "fmt.Sprintf" (reading st) 0) = X) (hXs : (X.size : Int) ≤ 1000000)
    (hX0 : FmtStop.textOf (F "fmt.Sprintf" (reading 0) 0) = X0) (hX0s : (X0.size : Int) ≤ 1000000) (g1 : (op.size : Int) ≤ 262144) (g2 : (code.size : Int) ≤ 262144) (g3 : (msg.size : Int) ≤ 262144) (hst : (st == 0) = true) :
    Calls Tryf.prog 4 #[.string op, .int .i64 st, .string code, .string msg] w fun e w' => e = .returned (.bool true) ∧ Below w.heap.size w w' := by
  have HX : Hid (FmtStop.textOf (F "fmt.Sprintf" (reading st) 0) = X) := hX
  have HX0 : Hid (FmtStop.textOf (F "fmt.Sprintf" (reading 0) 0) = X0) := hX0
  clear hX hX0
  have hM : Hid (op.size ≤ maxLen ∧ code.size ≤ maxLen ∧ msg.size ≤ maxLen) := ⟨h1, h2, h3⟩
  unfold maxLen at h1 h2 h3
  go_enter Tryf.func4, Tryf.ntmps4
  go_wp2_with (go_at_call 9; refine (bytes9_any op st code msg _ hM.out.1 hM.out.2.1 hM.out.2.2).mono ?_; rintro e w' ⟨⟨bb, rfl⟩, rfl⟩; cases bb)
  · go_ret
    exact ⟨rfl, Below.refl _ _⟩
  · refine (text_any F op 0 ⟨#[]⟩ msg X0 _ (by exact hF) (by omega) (by decide) (by omega) HX0.out hX0s).mono ?_
    rw [errText_zero]
    rintro e w1 ⟨rfl, hb1⟩
    go_wp2_with fail
    refine (text_any F op 0 code msg X0 _ (by rw [hb1.tape]; exact hF) (by omega) (by omega) (by omega) HX0.out hX0s).mono ?_
    rw [errText_zero]
    rintro e w2 ⟨rfl, hb2⟩
    have hb12 : Below w.heap.size w w2 := hb1.trans (hb2.mono hb1.size)
    clear hb1 hb2
    unfold head
    go_wp2_with fail
    refine (text_any F op st ⟨#[]⟩ msg X _ (by rw [hb12.tape]; exact hF) (by omega) (by decide) (by omega) HX.out hXs).mono ?_
    rw [errText_z _ _ _ _ _ hst]
    rintro e w3 ⟨rfl, hb3⟩
    have hb13 : Below w.heap.size w w3 := hb12.trans (hb3.mono hb12.size)
    clear hb12 hb3
    go_wp2_with fail
    refine (text_any F op st code msg X _ (by rw [hb13.tape]; exact hF) (by omega) (by omega) (by omega) HX.out hXs).mono ?_
    rw [errText_z _ _ _ _ _ hst]
    rintro e w4 ⟨rfl, hb4⟩
    have hb14 : Below w.heap.size w w4 := hb13.trans (hb4.mono hb13.size)
    clear hb13 hb4
    unfold head
    go_wp2
    go_ret
    exact ⟨rfl, hb14⟩

set_option maxHeartbeats 1600000 in
theorem status_bare (F : Interp) (op : ByteArray) (st : Int) (code msg X X0 : ByteArray) (w : World) (hF : F.answers w.tape)
    (h1 : op.size ≤ maxLen) (h2 : code.size ≤ maxLen) (h3 : msg.size ≤ maxLen)
    (hX : FmtStop.textOf (F "fmt.Sprintf" (reading st) 0) = X) (hXs : (X.size : Int) ≤ 1000000)
    (hX0 : FmtStop.textOf (F "fmt.Sprintf" (reading 0) 0) = X0) (hX0s : (X0.size : Int) ≤ 1000000) (g1 : (op.size : Int) ≤ 262144) (g2 : (code.size : Int) ≤ 262144) (g3 : (msg.size : Int) ≤ 262144) (hst : (st != 0) = true) (hcd : code.toList.isEmpty = true) :
    Calls Tryf.prog 4 #[.string op, .int .i64 st, .string code, .string msg] w fun e w' => e = .returned (.bool true) ∧ Below w.heap.size w w' := by
  have HX : Hid (FmtStop.textOf (F "fmt.Sprintf" (reading st) 0) = X) := hX
  have HX0 : Hid (FmtStop.textOf (F "fmt.Sprintf" (reading 0) 0) = X0) := hX0
  clear hX hX0
  have hM : Hid (op.size ≤ maxLen ∧ code.size ≤ maxLen ∧ msg.size ≤ maxLen) := ⟨h1, h2, h3⟩
  unfold maxLen at h1 h2 h3
  go_enter Tryf.func4, Tryf.ntmps4
  go_wp2_with (go_at_call 9; refine (bytes9_any op st code msg _ hM.out.1 hM.out.2.1 hM.out.2.2).mono ?_; rintro e w' ⟨⟨bb, rfl⟩, rfl⟩; cases bb)
  · go_ret
    exact ⟨rfl, Below.refl _ _⟩
  · refine (text_any F op 0 ⟨#[]⟩ msg X0 _ (by exact hF) (by omega) (by decide) (by omega) HX0.out hX0s).mono ?_
    rw [errText_zero]
    rintro e w1 ⟨rfl, hb1⟩
    go_wp2_with fail
    refine (text_any F op 0 code msg X0 _ (by rw [hb1.tape]; exact hF) (by omega) (by omega) (by omega) HX0.out hX0s).mono ?_
    rw [errText_zero]
    rintro e w2 ⟨rfl, hb2⟩
    have hb12 : Below w.heap.size w w2 := hb1.trans (hb2.mono hb1.size)
    clear hb1 hb2
    unfold head
    go_wp2_with fail
    refine (text_any F op st ⟨#[]⟩ msg X _ (by rw [hb12.tape]; exact hF) (by omega) (by decide) (by omega) HX.out hXs).mono ?_
    rw [errText_bare _ _ _ _ hst]
    rintro e w3 ⟨rfl, hb3⟩
    have hb13 : Below w.heap.size w w3 := hb12.trans (hb3.mono hb12.size)
    clear hb12 hb3
    go_wp2_with fail
    refine (text_any F op st code msg X _ (by rw [hb13.tape]; exact hF) (by omega) (by omega) (by omega) HX.out hXs).mono ?_
    rw [errText_none _ _ _ _ _ hst hcd]
    rintro e w4 ⟨rfl, hb4⟩
    have hb14 : Below w.heap.size w w4 := hb13.trans (hb4.mono hb13.size)
    clear hb13 hb4
    have hsz := stText_size op msg X
    have hpre : pre (stText op msg X) (⟨#[103, 97, 116, 101, 58, 32]⟩ ++ op ++ ⟨#[58, 32]⟩ ++ msg) = true := stText_pre op msg X
    go_wp2_with fail
    refine (hasPrefix_any _ _ _ (by rw [hsz]; unfold maxLen; omega)).mono ?_
    rintro e w5 ⟨rfl, n, rfl⟩
    go_wp2
    · exfalso
      cases ‹_ ∨ _› with
      | inl h => omega
      | inr h => rw [stText_last op msg X _ rfl (by omega)] at h; simp at h
    · go_ret
      exact ⟨rfl, hb14.trans ⟨rfl, rfl, rfl, Nat.le_refl _, fun _ _ => rfl⟩⟩

set_option maxHeartbeats 1600000 in
theorem status_code (F : Interp) (op : ByteArray) (st : Int) (code msg X X0 : ByteArray) (w : World) (hF : F.answers w.tape)
    (h1 : op.size ≤ maxLen) (h2 : code.size ≤ maxLen) (h3 : msg.size ≤ maxLen)
    (hX : FmtStop.textOf (F "fmt.Sprintf" (reading st) 0) = X) (hXs : (X.size : Int) ≤ 1000000)
    (hX0 : FmtStop.textOf (F "fmt.Sprintf" (reading 0) 0) = X0) (hX0s : (X0.size : Int) ≤ 1000000) (g1 : (op.size : Int) ≤ 262144) (g2 : (code.size : Int) ≤ 262144) (g3 : (msg.size : Int) ≤ 262144) (hst : (st != 0) = true) (hcd : code.toList.isEmpty = false) :
    Calls Tryf.prog 4 #[.string op, .int .i64 st, .string code, .string msg] w fun e w' => e = .returned (.bool true) ∧ Below w.heap.size w w' := by
  have HX : Hid (FmtStop.textOf (F "fmt.Sprintf" (reading st) 0) = X) := hX
  have HX0 : Hid (FmtStop.textOf (F "fmt.Sprintf" (reading 0) 0) = X0) := hX0
  clear hX hX0
  have hM : Hid (op.size ≤ maxLen ∧ code.size ≤ maxLen ∧ msg.size ≤ maxLen) := ⟨h1, h2, h3⟩
  unfold maxLen at h1 h2 h3
  go_enter Tryf.func4, Tryf.ntmps4
  go_wp2_with (go_at_call 9; refine (bytes9_any op st code msg _ hM.out.1 hM.out.2.1 hM.out.2.2).mono ?_; rintro e w' ⟨⟨bb, rfl⟩, rfl⟩; cases bb)
  · go_ret
    exact ⟨rfl, Below.refl _ _⟩
  · refine (text_any F op 0 ⟨#[]⟩ msg X0 _ (by exact hF) (by omega) (by decide) (by omega) HX0.out hX0s).mono ?_
    rw [errText_zero]
    rintro e w1 ⟨rfl, hb1⟩
    go_wp2_with fail
    refine (text_any F op 0 code msg X0 _ (by rw [hb1.tape]; exact hF) (by omega) (by omega) (by omega) HX0.out hX0s).mono ?_
    rw [errText_zero]
    rintro e w2 ⟨rfl, hb2⟩
    have hb12 : Below w.heap.size w w2 := hb1.trans (hb2.mono hb1.size)
    clear hb1 hb2
    unfold head
    go_wp2_with fail
    refine (text_any F op st ⟨#[]⟩ msg X _ (by rw [hb12.tape]; exact hF) (by omega) (by decide) (by omega) HX.out hXs).mono ?_
    rw [errText_bare _ _ _ _ hst]
    rintro e w3 ⟨rfl, hb3⟩
    have hb13 : Below w.heap.size w w3 := hb12.trans (hb3.mono hb12.size)
    clear hb12 hb3
    go_wp2_with fail
    refine (text_any F op st code msg X _ (by rw [hb13.tape]; exact hF) (by omega) (by omega) (by omega) HX.out hXs).mono ?_
    rintro e w4 ⟨rfl, hb4⟩
    have hb14 : Below w.heap.size w w4 := hb13.trans (hb4.mono hb13.size)
    clear hb13 hb4
    have hsz := stText_size op msg X
    have hpre : pre (stText op msg X) (⟨#[103, 97, 116, 101, 58, 32]⟩ ++ op ++ ⟨#[58, 32]⟩ ++ msg) = true := stText_pre op msg X
    go_wp2_with fail
    refine (hasPrefix_any _ _ _ (by rw [hsz]; unfold maxLen; omega)).mono ?_
    rintro e w5 ⟨rfl, n, rfl⟩
    go_wp2
    · exfalso
      cases ‹_ ∨ _› with
      | inl h => omega
      | inr h => rw [stText_last op msg X _ rfl (by omega)] at h; simp at h
    · go_ret
      exact ⟨ret_bool (full_eq op st code msg X hst hcd), hb14.trans ⟨rfl, rfl, rfl, Nat.le_refl _, fun _ _ => rfl⟩⟩

theorem status_any (F : Interp) (op : ByteArray) (st : Int) (code msg X X0 : ByteArray) (w : World) (hF : F.answers w.tape)
    (h1 : op.size ≤ maxLen) (h2 : code.size ≤ maxLen) (h3 : msg.size ≤ maxLen)
    (hX : FmtStop.textOf (F "fmt.Sprintf" (reading st) 0) = X) (hXs : (X.size : Int) ≤ 1000000)
    (hX0 : FmtStop.textOf (F "fmt.Sprintf" (reading 0) 0) = X0) (hX0s : (X0.size : Int) ≤ 1000000) :
    Calls Tryf.prog 4 #[.string op, .int .i64 st, .string code, .string msg] w fun e w' => e = .returned (.bool true) ∧ Below w.heap.size w w' := by
  by_cases hg : (op.size : Int) ≤ 262144 ∧ (code.size : Int) ≤ 262144 ∧ (msg.size : Int) ≤ 262144
  · obtain ⟨g1, g2, g3⟩ := hg
    by_cases hst : (st == 0) = true
    · exact status_zero F op st code msg X X0 w hF h1 h2 h3 hX hXs hX0 hX0s g1 g2 g3 hst
    · have hst' : (st != 0) = true := by simpa using hst
      by_cases hcd : code.toList.isEmpty = true
      · exact status_bare F op st code msg X X0 w hF h1 h2 h3 hX hXs hX0 hX0s g1 g2 g3 hst' hcd
      · exact status_code F op st code msg X X0 w hF h1 h2 h3 hX hXs hX0 hX0s g1 g2 g3 hst' (by simpa using hcd)
  · exact status_big op st code msg w h1 h2 h3 hg

end Go.Proofs.Qxb6614354aFmt
