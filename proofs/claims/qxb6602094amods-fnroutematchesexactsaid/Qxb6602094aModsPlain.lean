import Derived.Lib.Strings
import Derived.Lib.IndexBytes
namespace Go.Proofs.Qxb6602094aMods

/-- The bytes of a string. -/
def byt (s : ByteArray) : List UInt8 := s.data.toList
theorem byt_len (s : ByteArray) : (byt s).length = s.size := by simp [byt]
theorem byt_get (s : ByteArray) (k : Nat) (h : k < s.size) : (byt s)[k]? = some s[k] := by
  unfold byt
  rw [Array.getElem?_toList, Array.getElem?_eq_getElem (by simpa using h)]; rfl
theorem eq_byt {a b : ByteArray} (h : (a.toList == b.toList) = true) : byt a = byt b := by
  rw [ByteArray.toList_eq, ByteArray.toList_eq] at h; exact by simpa [byt] using h
theorem ne_byt {a b : ByteArray} (h : (a.toList == b.toList) = false) : byt a ≠ byt b := by
  rw [ByteArray.toList_eq, ByteArray.toList_eq] at h; exact by simpa [byt] using h
theorem beq_byt (a b : ByteArray) : (a.toList == b.toList) = true ↔ byt a = byt b := by
  rw [ByteArray.toList_eq, ByteArray.toList_eq]; simp [byt]
theorem byt_extract (s : ByteArray) (a b : Nat) : byt (s.extract a b) = ((byt s).drop a).take (b - a) := Lib.extract_data s a b

theorem u8_of {a : UInt8} {n : Nat} (h : (a.toNat : Int) = n) (hn : n < 256) : a = UInt8.ofNat n := by
  have : a.toNat = n := by omega
  subst this; simp

theorem suf2 (l : List UInt8) (a b : UInt8) (h : 2 ≤ l.length) : [a, b] <:+ l ↔ l[l.length - 2]? = some a ∧ l[l.length - 1]? = some b := by
  constructor
  · rintro ⟨t, rfl⟩
    simp
  · rintro ⟨h1, h2⟩
    refine ⟨l.take (l.length - 2), ?_⟩
    have e : l.drop (l.length - 2) = [a, b] := by
      apply List.ext_getElem?
      intro i
      rw [List.getElem?_drop]
      match i with
      | 0 => simpa using h1
      | 1 => simpa [show l.length - 2 + 1 = l.length - 1 from by omega] using h2
      | i + 2 => rw [List.getElem?_eq_none (by omega)]; simp
    rw [← e, List.take_append_drop]

theorem suf1 (l : List UInt8) (a : UInt8) (h : 1 ≤ l.length) : [a] <:+ l ↔ l[l.length - 1]? = some a := by
  constructor
  · rintro ⟨t, rfl⟩
    simp
  · intro h1
    refine ⟨l.take (l.length - 1), ?_⟩
    have e : l.drop (l.length - 1) = [a] := by
      apply List.ext_getElem?
      intro i
      rw [List.getElem?_drop]
      match i with
      | 0 => simpa using h1
      | i + 1 => rw [List.getElem?_eq_none (by omega)]; simp
    rw [← e, List.take_append_drop]

theorem suf_len {a l : List UInt8} (h : a <:+ l) : a.length ≤ l.length := h.length_le

/-- strings.TrimSuffix -/
def trimL (l x : List UInt8) : List UInt8 := if x <:+ l then l.take (l.length - x.length) else l

theorem trim_yes {l x : List UInt8} (h : x <:+ l) : trimL l x = l.take (l.length - x.length) := by unfold trimL; rw [if_pos h]
theorem trim_no {l x : List UInt8} (h : ¬ x <:+ l) : trimL l x = l := by unfold trimL; rw [if_neg h]

theorem take_of_suf {l : List UInt8} {a : UInt8} (h : [a] <:+ l) : l.take (l.length - 1) ++ [a] = l := by
  obtain ⟨t, rfl⟩ := h
  simp

/-- What the route says. -/
def Got (m : Prop) (path req : List UInt8) : Prop :=
  m ∧ (([47, 42] <:+ path ∧ trimL path [42] <+: req) ∨ (¬ [47, 42] <:+ path ∧ trimL req [47] = trimL path [47]))

/-- The path less one trailing slash. -/
def baseOf (path : List UInt8) : List UInt8 := trimL path [47]

/-- What the law's model says. -/
def Want (m : Prop) (path req : List UInt8) : Prop :=
  m ∧ (([47, 42] <:+ path ∧ path.take (path.length - 1) <+: req) ∨ (¬ [47, 42] <:+ path ∧ (req = baseOf path ++ [47] ∨ (req = baseOf path ∧ ¬ [47] <:+ baseOf path))))

theorem star_of {path : List UInt8} (h : [47, 42] <:+ path) : [42] <:+ path := by
  obtain ⟨t, rfl⟩ := h
  exact ⟨t ++ [47], by simp⟩

theorem got_want (m : Prop) (path req : List UInt8) : Got m path req ↔ Want m path req := by
  unfold Got Want
  refine and_congr Iff.rfl (or_congr ?_ ?_)
  · constructor
    · rintro ⟨h1, h2⟩
      rw [trim_yes (star_of h1)] at h2
      exact ⟨h1, h2⟩
    · rintro ⟨h1, h2⟩
      refine ⟨h1, ?_⟩
      rw [trim_yes (star_of h1)]
      exact h2
  · refine and_congr Iff.rfl ?_
    show trimL req [47] = baseOf path ↔ _
    generalize baseOf path = base
    by_cases h : [47] <:+ req
    · rw [trim_yes h]
      have e := take_of_suf h
      constructor
      · intro h1
        left
        rw [← h1]; exact e.symm
      · rintro (h1 | ⟨h1, h2⟩)
        · subst h1; simp
        · subst h1; exact absurd h h2
    · rw [trim_no h]
      constructor
      · intro h1; subst h1; exact .inr ⟨rfl, h⟩
      · rintro (h1 | ⟨h1, h2⟩)
        · subst h1; exact absurd ⟨base, rfl⟩ h
        · exact h1
end Go.Proofs.Qxb6602094aMods
