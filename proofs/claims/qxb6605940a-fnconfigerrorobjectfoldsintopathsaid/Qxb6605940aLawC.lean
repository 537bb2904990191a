/-
  THE WALK of the law FnConfigErrorObjectFoldsIntoPath (4).
-/
import Derived.Test.Qxb6605940aText
import Derived.Lib.Strings
namespace Go.Proofs.Qxb6605940a
open Go.RowKit

theorem cfg_bare (path msg : ByteArray) : cfgText path ⟨#[]⟩ msg = path ++ ⟨#[58, 32]⟩ ++ msg := by
  unfold cfgText
  exact if_pos (by simp [ByteArray.toList_eq])
theorem cfg_empty (path object msg : ByteArray) (h : object.toList.isEmpty = true) : cfgText path object msg = path ++ ⟨#[58, 32]⟩ ++ msg := by
  unfold cfgText; exact if_pos h
theorem cfg_full (path object msg : ByteArray) (h : object.toList.isEmpty = false) : cfgText path object msg = path ++ ⟨#[58, 32]⟩ ++ object ++ ⟨#[58, 32]⟩ ++ msg := by
  unfold cfgText; exact if_neg (by simp [h])

/-- The text without an object. -/
def bareText (path msg : ByteArray) : ByteArray := path ++ ⟨#[58, 32]⟩ ++ msg
theorem bare_size (path msg : ByteArray) : (bareText path msg).size = path.size + 2 + msg.size := by
  unfold bareText
  simp only [ByteArray.size_append', ByteArray.size_mk', List.size_toArray, List.length_cons, List.length_nil]

theorem sep_size (msg : ByteArray) : (⟨#[58, 32]⟩ ++ msg : ByteArray).size = 2 + msg.size := by
  simp only [ByteArray.size_append', ByteArray.size_mk', List.size_toArray, List.length_cons, List.length_nil]
theorem onto_size (path object : ByteArray) : (path ++ ⟨#[58, 32]⟩ ++ object).size = path.size + 2 + object.size := by
  simp only [ByteArray.size_append', ByteArray.size_mk', List.size_toArray, List.length_cons, List.length_nil]
theorem full_size (path object msg : ByteArray) (h : object.toList.isEmpty = false) : (cfgText path object msg).size = path.size + 2 + object.size + 2 + msg.size := by
  rw [cfg_full path object msg h]
  simp only [ByteArray.size_append', ByteArray.size_mk', List.size_toArray, List.length_cons, List.length_nil]
theorem full_eq (path object msg : ByteArray) (h : object.toList.isEmpty = false) : ((cfgText path object msg).toList == (bareText (path ++ ⟨#[58, 32]⟩ ++ object) msg).toList) = true := by
  rw [cfg_full path object msg h]
  exact beq_self_eq_true _

theorem bare_suffix (path msg : ByteArray) : (bareText path msg).extract ((bareText path msg).size - (⟨#[58, 32]⟩ ++ msg : ByteArray).size) (bareText path msg).size = ⟨#[58, 32]⟩ ++ msg := by
  rw [bare_size]
  apply ByteArray.ext
  apply Array.ext'
  rw [Lib.extract_data]
  have e : (path.size + 2 + msg.size) - (⟨#[58, 32]⟩ ++ msg : ByteArray).size = path.data.toList.length := by
    simp only [ByteArray.size_append', ByteArray.size_mk', List.size_toArray, List.length_cons, List.length_nil]
    have : path.data.toList.length = path.size := by simp
    omega
  rw [e]
  have d : (bareText path msg).data.toList = path.data.toList ++ ((⟨#[58, 32]⟩ ++ msg : ByteArray)).data.toList := by
    unfold bareText
    rw [ByteArray.append_assoc, ByteArray.data_append, Array.toList_append]
  rw [d, List.drop_left]
  apply List.take_of_length_le
  simp
  omega

theorem text_onto (path object msg : ByteArray) (w : World) (h : (path.size : Int) + object.size + msg.size ≤ 1048576) :
    Calls Try.prog 15 #[.string (path ++ ⟨#[58, 32]⟩ ++ object), .string ⟨#[]⟩, .string msg] w fun e w' => e = .returned (.string (bareText (path ++ ⟨#[58, 32]⟩ ++ object) msg)) ∧ Below w.heap.size w w' := by
  have hz := onto_size path object
  generalize (path ++ ⟨#[58, 32]⟩ ++ object : ByteArray) = q at *
  have ht := text_any q ⟨#[]⟩ msg w (by omega) (by decide) (by omega)
  rw [cfg_bare] at ht
  exact ht

set_option maxHeartbeats 800000 in
theorem folds_any (path object msg : ByteArray) (h1 : path.size ≤ maxLen) (h2 : object.size ≤ maxLen) (h3 : msg.size ≤ maxLen) (w : World) :
    Calls Try.prog 4 #[.string path, .string object, .string msg] w fun e w' => e = .returned (.bool true) ∧ Below w.heap.size w w' := by
  have hM : Hid (path.size ≤ maxLen ∧ object.size ≤ maxLen ∧ msg.size ≤ maxLen) := ⟨h1, h2, h3⟩
  clear h1 h2 h3
  by_cases hbig : (path.size : Int) + object.size + msg.size ≤ 1048576
  · have k1 : (path.size : Int) ≤ 1048576 := by omega
    have k2 : (object.size : Int) ≤ 1048576 := by omega
    have k3 : (msg.size : Int) ≤ 1048576 := by omega
    by_cases ho : object.toList.isEmpty = true
    · go_enter Try.func4, Try.ntmps4
      go_wp2_with (go_at_call 13; refine (bytes13_any path object msg _ hM.out.1 hM.out.2.1 hM.out.2.2).mono ?_; rintro e w' ⟨⟨bb, rfl⟩, rfl⟩; cases bb)
      · go_ret
        exact ⟨rfl, Below.refl _ _⟩
      refine (big_no path object msg _ hbig).mono ?_
      rintro e w' ⟨rfl, rfl⟩
      go_wp2_with fail
      refine (text_any path object msg _ (by omega) (by omega) (by omega)).mono ?_
      rw [cfg_empty path object msg ho, show path ++ (⟨#[58, 32]⟩ : ByteArray) ++ msg = bareText path msg from rfl]
      rintro e w1 ⟨rfl, hb1⟩
      go_wp2_with fail
      refine (text_any path ⟨#[]⟩ msg _ (by omega) (by decide) (by omega)).mono ?_
      rw [cfg_bare, show path ++ (⟨#[58, 32]⟩ : ByteArray) ++ msg = bareText path msg from rfl]
      rintro e w2 ⟨rfl, hb2⟩
      have hb : Below w.heap.size w w2 := hb1.trans (hb2.mono hb1.size)
      clear hb1 hb2
      have hz := bare_size path msg
      go_wp2_with fail
      refine (suffix_yes (bareText path msg) _ _ (by omega) (by rw [sep_size]; omega) (bare_suffix path msg)).mono ?_
      rintro e w' ⟨rfl, rfl⟩
      go_wp2
      go_ret
      exact ⟨rfl, hb⟩
    · have ho' : object.toList.isEmpty = false := by simpa using ho
      clear ho
      have hz2 := full_size path object msg ho'
      have he := full_eq path object msg ho'
      go_enter Try.func4, Try.ntmps4
      go_wp2_with (go_at_call 13; refine (bytes13_any path object msg _ hM.out.1 hM.out.2.1 hM.out.2.2).mono ?_; rintro e w' ⟨⟨bb, rfl⟩, rfl⟩; cases bb)
      · go_ret
        exact ⟨rfl, Below.refl _ _⟩
      refine (big_no path object msg _ hbig).mono ?_
      rintro e w' ⟨rfl, rfl⟩
      go_wp2_with fail
      refine (text_any path object msg _ (by omega) (by omega) (by omega)).mono ?_
      rintro e w1 ⟨rfl, hb1⟩
      go_wp2_with fail
      refine (text_any path ⟨#[]⟩ msg _ (by omega) (by decide) (by omega)).mono ?_
      rw [cfg_bare, show path ++ (⟨#[58, 32]⟩ : ByteArray) ++ msg = bareText path msg from rfl]
      rintro e w2 ⟨rfl, hb2⟩
      have hb : Below w.heap.size w w2 := hb1.trans (hb2.mono hb1.size)
      clear hb1 hb2
      have hz := bare_size path msg
      go_wp2_with fail
      refine (suffix_yes (bareText path msg) _ _ (by omega) (by rw [sep_size]; omega) (bare_suffix path msg)).mono ?_
      rintro e w' ⟨rfl, rfl⟩
      go_wp2_with fail
      refine (text_onto path object msg w2 (by omega)).mono ?_
      rintro e w3 ⟨rfl, hb3⟩
      go_wp2
      go_ret
      exact ⟨ret_bool (by simp; omega), hb.trans (hb3.mono hb.size)⟩
  · go_enter Try.func4, Try.ntmps4
    go_wp2_with (go_at_call 13; refine (bytes13_any path object msg _ hM.out.1 hM.out.2.1 hM.out.2.2).mono ?_; rintro e w' ⟨⟨bb, rfl⟩, rfl⟩; cases bb)
    · go_ret
      exact ⟨rfl, Below.refl _ _⟩
    refine (big_yes path object msg _ hM.out.1 hM.out.2.1 hM.out.2.2 (by omega)).mono ?_
    rintro e w' ⟨rfl, rfl⟩
    go_wp2
    go_ret
    exact ⟨rfl, Below.refl _ _⟩

end Go.Proofs.Qxb6605940a
