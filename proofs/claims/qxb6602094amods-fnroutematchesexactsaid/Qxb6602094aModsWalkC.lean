import Derived.Test.Qxb6602094aModsWalkB
namespace Go.Proofs.Qxb6602094aMods
open Go.RowKit
set_option linter.unusedVariables false

/-- What Route.stem answers. -/
def Stem (w : World) (path : ByteArray) (e : Ending) (w' : World) : Prop :=
  ∃ (r : ByteArray) (b : Bool), e = .returned (.tuple #[.string r, .bool b]) ∧ (b = true ↔ [47, 42] <:+ byt path) ∧
    (b = true → byt r = trimL (byt path) [42]) ∧ (b = false → byt r = byt path) ∧ r.size ≤ path.size ∧ Below w.heap.size w w'

theorem stem31 (name : ByteArray) (a : Option Addr) (len cap : Nat) (path : ByteArray) (kr : Bool) (w : World) (h2 : path.size ≤ maxLen) :
    Calls Trym.prog 31 #[.agg #[.string name, .slice a len cap, .string path, .bool kr]] w fun e w' => Stem w path e w' := by
  go_enter Trym.func31, Trym.ntmps31
  go_wp2_with fail
  refine (hasSuf37 path ⟨#[47, 42]⟩ _ h2 (by decide)).mono ?_
  rintro e w1 ⟨⟨b, rfl, hb⟩, rfl⟩
  have HB : Hid (b = true ↔ [47, 42] <:+ byt path) := hb
  clear hb
  cases b
  · go_wp2_with fail
    go_ret2
    exact ⟨path, false, rfl, HB.out, fun h => (by cases h), fun _ => rfl, Nat.le_refl _, (Below.refl _ _).alloc (Nat.le_refl _) _⟩
  · go_wp2_with fail
    refine (trim33 path ⟨#[42]⟩ _ h2 (by decide)).mono ?_
    rintro e w2 ⟨⟨r, rfl, hr, hc⟩, rfl⟩
    have HR : Hid (byt r = trimL (byt path) [42]) := hr
    clear hr
    go_wp2_with fail
    go_ret2
    exact ⟨r, true, rfl, (by simpa using HB.out), fun _ => HR.out, fun h => (by cases h), hc, (Below.refl _ _).alloc (Nat.le_refl _) _⟩

/-- What Route.matches answers. -/
def Match (w : World) (m : Prop) (path req : ByteArray) (e : Ending) (w' : World) : Prop := Says (Got m (byt path) (byt req)) e ∧ Below w.heap.size w w'

theorem Strs.below {w w' : World} {a : Option Addr} {len : Nat} {S : Nat → ByteArray} (h : Strs w a len S) (hb : Below w.heap.size w w') : Strs w' a len S :=
  ⟨fun i hi => by
    obtain ⟨b, off, e, hc⟩ := h.cell i hi
    exact ⟨b, off, e, (hb.cell (p := ⟨b, off + i, none⟩) (block_lt_of_cell hc)).trans hc⟩, h.size, h.len⟩

theorem bool_says {p : Prop} {b : Bool} (h : b = true ↔ p) : Says p (.returned (.bool b)) := ⟨b, rfl, h⟩

set_option maxHeartbeats 400000 in
theorem match26 (name : ByteArray) (a : Option Addr) (len cap : Nat) (S : Nat → ByteArray) (path : ByteArray) (kr : Bool) (method req : ByteArray) (w : World) (h : Strs w a len S)
    (h2 : path.size ≤ maxLen) (h5 : req.size ≤ maxLen) :
    Calls Trym.prog 26 #[.agg #[.string name, .slice a len cap, .string path, .bool kr], .string method, .string req] w fun e w' => Match w (∃ i, i < len ∧ byt (S i) = byt method) path req e w' := by
  go_enter Trym.func26, Trym.ntmps26
  go_wp2_with fail
  have hb1 : Below w.heap.size w (w.alloc (.cells #[.string name, .slice a len cap, .string path, .bool kr] 30 (0, 0))) := (Below.refl _ _).alloc (Nat.le_refl _) _
  refine (contains30 a len cap S method _ (h.below hb1)).mono ?_
  rintro e w1 ⟨⟨b, rfl, hb⟩, rfl⟩
  have HM : Hid _ := hb
  clear hb
  cases b
  · go_wp2_with fail
    go_ret
    refine ⟨⟨false, rfl, ?_⟩, hb1⟩
    refine ⟨fun h => (by cases h), fun h => absurd (HM.out.2 h.1) (by decide)⟩
  · go_wp2_with fail
    refine (stem31 name a len cap path kr _ h2).mono ?_
    rintro e w2 ⟨r, b, rfl, hb, hr1, hr2, hrs, hb2⟩
    have HB : Hid _ := hb
    have HR1 : Hid _ := hr1
    have HR2 : Hid _ := hr2
    clear hb hr1 hr2
    have hb3 : Below w.heap.size w w2 := hb1.trans (hb2.mono (by simp))
    cases b
    · go_wp2_with fail
      refine (trim33 req ⟨#[47]⟩ _ h5 (by decide)).mono ?_
      rintro e w3 ⟨⟨x, rfl, hx, hxs⟩, rfl⟩
      have HX : Hid _ := hx
      clear hx
      go_wp2_with fail
      refine (trim33 r ⟨#[47]⟩ _ (Nat.le_trans hrs h2) (by decide)).mono ?_
      rintro e w4 ⟨⟨y, rfl, hy, hys⟩, rfl⟩
      have HY : Hid _ := hy
      clear hy
      go_wp2_with fail
      go_ret
      refine ⟨⟨_, rfl, ?_⟩, hb3⟩
      have e1 : byt x = trimL (byt req) [47] := HX.out
      have e2 : byt y = trimL (byt path) [47] := by rw [← HR2.out (by trivial)]; exact HY.out
      have hno : ¬ [47, 42] <:+ byt path := fun h => by cases HB.out.2 h
      rw [beq_byt, e1, e2]
      exact ⟨fun h => ⟨HM.out.1 (by trivial), .inr ⟨hno, h⟩⟩, fun h => by
        rcases h.2 with ⟨g, _⟩ | ⟨_, g⟩
        · exact absurd g hno
        · exact g⟩
    · go_wp2_with fail
      refine (hasPre32 req r _ h5 (Nat.le_trans hrs h2)).mono ?_
      rintro e w3 ⟨⟨c, rfl, hc⟩, rfl⟩
      have HC : Hid _ := hc
      clear hc
      go_wp2_with fail
      go_ret
      refine ⟨⟨c, rfl, ?_⟩, hb3⟩
      have hyes : [47, 42] <:+ byt path := HB.out.1 (by trivial)
      rw [HC.out, HR1.out (by trivial)]
      exact ⟨fun h => ⟨HM.out.1 (by trivial), .inl ⟨hyes, h⟩⟩, fun h => by
        rcases h.2 with ⟨_, g⟩ | ⟨g, _⟩
        · exact g
        · exact absurd hyes g⟩

theorem zz17 (name : ByteArray) (a : Option Addr) (len cap : Nat) (S : Nat → ByteArray) (path : ByteArray) (kr : Bool) (method req : ByteArray) (w : World) (h : Strs w a len S)
    (h2 : path.size ≤ maxLen) (h5 : req.size ≤ maxLen) :
    Calls Trym.prog 17 #[.string name, .slice a len cap, .string path, .bool kr, .string method, .string req] w fun e w' => Match w (∃ i, i < len ∧ byt (S i) = byt method) path req e w' := by
  go_enter Trym.func17, Trym.ntmps17
  go_wp2_with fail
  refine (match26 name a len cap S path kr method req _ h h2 h5).mono ?_
  rintro e w1 ⟨⟨b, rfl, hb⟩, hbl⟩
  have HB : Hid _ := hb
  clear hb
  go_wp2_with fail
  go_ret
  exact ⟨⟨b, rfl, HB.out⟩, hbl⟩
end Go.Proofs.Qxb6602094aMods
