/-
  THE PLAIN PART: no Go in sight: how a byte string begins.
-/
import Derived.KernelRfl
namespace Go.Proofs.Qxb6614354a

/-- Does s begin with p? -/
def pre (s p : ByteArray) : Bool := p.data.toList.isPrefixOf s.data.toList

/-- s and p agree on their first k bytes. -/
def agree (s p : ByteArray) (k : Nat) : Prop := ∀ j, j < k → s.data.toList[j]? = p.data.toList[j]?

theorem agree_zero (s p : ByteArray) : agree s p 0 := fun j h => absurd h (Nat.not_lt_zero j)

theorem at_byte (s : ByteArray) (k : Nat) (h : k < s.size) : s.data.toList[k]? = some s[k] := by
  have h' : k < s.data.toList.length := by simpa using h
  rw [List.getElem?_eq_getElem h']
  rfl

theorem agree_succ (s p : ByteArray) (k : Nat) (hs : k < s.size) (hp : k < p.size) (e : s[k].toNat = p[k].toNat) (h : agree s p k) : agree s p (k + 1) := by
  intro j hj
  by_cases hk : j < k
  · exact h j hk
  · obtain rfl : j = k := by omega
    rw [at_byte s j hs, at_byte p j hp, UInt8.toNat_inj.1 e]

theorem pre_iff (s p : ByteArray) : pre s p = true ↔ ∃ t, p.data.toList ++ t = s.data.toList := by
  unfold pre
  rw [List.isPrefixOf_iff_prefix]
  rfl

theorem pre_true (s p : ByteArray) (hl : p.size ≤ s.size) (h : agree s p p.size) : pre s p = true := by
  rw [pre_iff]
  refine ⟨s.data.toList.drop p.size, ?_⟩
  have e : p.data.toList = s.data.toList.take p.size := by
    apply List.ext_getElem?
    intro j
    by_cases hj : j < p.size
    · rw [List.getElem?_take_of_lt hj, h j hj]
    · have h1 : p.data.toList.length ≤ j := by simp; omega
      have h2 : (s.data.toList.take p.size).length ≤ j := by simp; omega
      rw [List.getElem?_eq_none h1, List.getElem?_eq_none h2]
  rw [e]
  exact List.take_append_drop p.size s.data.toList

theorem pre_len (s p : ByteArray) (h : s.size < p.size) : pre s p = false := by
  cases hb : pre s p with
  | false => rfl
  | true =>
    obtain ⟨t, ht⟩ := (pre_iff s p).1 hb
    have := congrArg List.length ht
    simp at this
    omega

theorem pre_diff (s p : ByteArray) (k : Nat) (hs : k < s.size) (hp : k < p.size) (e : ¬ s[k].toNat = p[k].toNat) : pre s p = false := by
  cases hb : pre s p with
  | false => rfl
  | true =>
    obtain ⟨t, ht⟩ := (pre_iff s p).1 hb
    exfalso
    have h1 := at_byte s k hs
    rw [← ht, List.getElem?_append_left (by simpa using hp), at_byte p k hp] at h1
    simp only [Option.some.injEq] at h1
    exact e (by rw [h1])

/-- A string that is put together by appending begins with its head. -/
theorem pre_append (a b : ByteArray) : pre (a ++ b) a = true := by
  rw [pre_iff]
  exact ⟨b.data.toList, by simp⟩

end Go.Proofs.Qxb6614354a
