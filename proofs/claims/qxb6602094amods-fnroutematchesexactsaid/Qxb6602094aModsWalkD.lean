import Derived.Test.Qxb6602094aModsWalkC
namespace Go.Proofs.Qxb6602094aMods
open Go.RowKit
set_option linter.unusedVariables false

/-- What g says, in terms of the base. -/
def Same (g : Bool) (base req : ByteArray) : Prop := g = true ↔ (byt req = byt base ++ [47] ∨ (byt req = byt base ∧ ¬ [47] <:+ byt base))

theorem same_of {g : Bool} {m : Prop} {path req base : ByteArray} (hg : g = true ↔ Got m (byt path) (byt req)) (hm : m) (hno : ¬ [47, 42] <:+ byt path) (hb : byt base = baseOf (byt path)) : Same g base req := by
  unfold Same
  rw [hg, got_want, hb]
  exact ⟨fun h => by
    rcases h.2 with ⟨x, _⟩ | ⟨_, x⟩
    · exact absurd x hno
    · exact x, fun h => ⟨hm, .inr ⟨hno, h⟩⟩⟩

theorem base_no {path : ByteArray} (h : ¬ [47] <:+ byt path) : byt path = baseOf (byt path) := (trim_no h).symm
theorem base_yes {path : ByteArray} (h : [47] <:+ byt path) : byt (path.extract 0 (path.size - 1)) = baseOf (byt path) := by
  unfold baseOf
  rw [trim_yes h, byt_extract, byt_len]; simp

theorem byt_slash (b : ByteArray) : byt (b ++ ⟨#[47]⟩) = byt b ++ [47] := by simp [byt]
theorem toList_byt {a b : ByteArray} : a.toList = b.toList ↔ byt a = byt b := by rw [ByteArray.toList_eq, ByteArray.toList_eq]; rfl

theorem way1 {g : Bool} {base req : ByteArray} (H : Same g base req) (h : req.toList = (base ++ ⟨#[47]⟩).toList) : g = true := by
  rw [toList_byt, byt_slash] at h
  exact H.2 (.inl h)
theorem way2 {g c : Bool} {base req : ByteArray} (H : Same g base req) (h : ¬ req.toList = (base ++ ⟨#[47]⟩).toList) (h2 : req.toList = base.toList) (hc : c = true ↔ [47] <:+ byt base) : g = !c := by
  rw [toList_byt, byt_slash] at h
  rw [toList_byt] at h2
  cases c
  · exact H.2 (.inr ⟨h2, fun x => by cases hc.2 x⟩)
  · cases g
    · rfl
    · rcases H.1 rfl with x | x
      · exact absurd x h
      · exact absurd (hc.1 rfl) x.2
theorem way3 {g : Bool} {base req : ByteArray} (H : Same g base req) (h : ¬ req.toList = (base ++ ⟨#[47]⟩).toList) (h2 : ¬ req.toList = base.toList) : (g == (req.toList == (base ++ ⟨#[47]⟩).toList)) = true := by
  have e : (req.toList == (base ++ ⟨#[47]⟩).toList) = false := by simpa using h
  rw [e]
  rw [toList_byt, byt_slash] at h
  rw [toList_byt] at h2
  cases g
  · rfl
  · rcases H.1 rfl with x | x
    · exact absurd x h
    · exact absurd x.1 h2

theorem star_end {g c : Bool} {m : Prop} {path req : ByteArray} (hg : g = true ↔ Got m (byt path) (byt req)) (hm : m) (hy : [47, 42] <:+ byt path) (hc : c = true ↔ byt (path.extract 0 (path.size - 1)) <+: byt req) : (g == c) = true := by
  have e : byt (path.extract 0 (path.size - 1)) = (byt path).take ((byt path).length - 1) := by rw [byt_extract, byt_len]; simp
  rw [e] at hc
  have : g = true ↔ c = true := by
    rw [hg, got_want, hc]
    exact ⟨fun h => by
      rcases h.2 with ⟨_, x⟩ | ⟨x, _⟩
      · exact x
      · exact absurd hy x, fun h => ⟨hm, .inl ⟨hy, h⟩⟩⟩
  cases g <;> cases c <;> simp_all

theorem below_drewN (B : Nat) {a w : World} (h : Below B a w) (k : Nat) : Below B a (w.drewN k) := h.trans ⟨rfl, rfl, rfl, Nat.le_refl _, fun _ _ => rfl⟩
theorem size_extract_le (p : ByteArray) (n : Nat) : (p.extract 0 n).size ≤ p.size := by
  rw [← byt_len, byt_extract, ← byt_len]; simp; omega
theorem slash_ne (b : ByteArray) : (b.toList == (b ++ ⟨#[47]⟩).toList) = false := by
  rw [beq_eq_false_iff_ne]
  intro h
  rw [toList_byt, byt_slash] at h
  have := congrArg List.length h
  simp at this
theorem ret_bool {a b : Bool} (h : a = b) : Ending.returned (.bool a) = .returned (.bool b) := by rw [h]

set_option maxHeartbeats 1000000 in
theorem top6 (name : ByteArray) (a : Option Addr) (len cap : Nat) (S : Nat → ByteArray) (path : ByteArray) (kr : Bool) (method req : ByteArray) (w : World) (h : Strs w a len S) (hnil : a = none → len = 0)
    (h0 : name.size ≤ maxLen) (h2 : path.size ≤ maxLen) (h4 : method.size ≤ maxLen) (h5 : req.size ≤ maxLen) :
    Calls Trym.prog 6 #[.string name, .slice a len cap, .string path, .bool kr, .string method, .string req] w fun e w' => e = .returned (.bool true) ∧ Below w.heap.size w w' := by
  go_enter Trym.func6, Trym.ntmps6
  go_wp2_with fail
  refine (bytes14 name a len cap S path kr method req _ h h0 h2 h4 h5).mono ?_
  rintro e w1 ⟨⟨b, rfl⟩, rfl⟩
  cases b
  · go_wp2_with fail
    go_ret
    exact ⟨rfl, Below.refl _ _⟩
  go_wp2_with fail
  refine (big15 name a len cap S path method req _ h h0 h2 h4 h5).mono ?_
  rintro e w2 ⟨⟨b, rfl, hsm⟩, rfl⟩
  cases b
  rotate_left
  · go_wp2_with fail
    go_ret
    exact ⟨rfl, Below.refl _ _⟩
  obtain ⟨sp, sr, sl⟩ := hsm rfl
  clear hsm
  go_wp2_with fail
  refine (clone16 a len cap S _ h sl hnil).mono ?_
  rintro e w3 ⟨a', rfl, hS, hb3⟩
  go_wp2_with fail
  refine (zz17 name a' len len S path kr method req _ hS h2 h5).mono ?_
  rintro e w4 ⟨⟨g, rfl, hg⟩, hb4⟩
  have HG : Hid _ := hg
  clear hg
  have hb5 : Below w2.heap.size w2 w4 := hb3.trans (hb4.mono hb3.size)
  go_wp2_with fail
  refine (contains18 a' len len S method _ (hS.below hb4)).mono ?_
  rintro e w5 ⟨⟨c, rfl, hc⟩, rfl⟩
  have HC : Hid _ := hc
  clear hc
  cases c
  · have hgf : g = false := by
      cases g
      · rfl
      · exact absurd (HC.out.2 (HG.out.1 rfl).1) (by decide)
    subst hgf
    go_wp2_with fail
    go_ret
    exact ⟨rfl, hb5⟩
  have hmem := HC.out.1 rfl
  clear HC
  have HM : Hid _ := hmem
  clear hmem
  go_wp2_with fail
  refine (endsStar19 path _ h2).mono ?_
  rintro e w6 ⟨⟨c, rfl, hc⟩, rfl⟩
  have HC : Hid _ := hc
  clear hc
  cases c
  · have hno : ¬ [47, 42] <:+ byt path := fun h => by cases HC.out.2 h
    have HNO : Hid _ := hno
    clear hno HC
    go_wp2_with fail
    refine (endsSlash21 path _ h2).mono ?_
    rintro e w7 ⟨⟨c, rfl, hc⟩, rfl⟩
    have HC : Hid _ := hc
    clear hc
    cases c
    · have hS1 : Same g path req := same_of HG.out HM.out HNO.out (base_no fun h => by cases HC.out.2 h)
      have HS : Hid _ := hS1
      clear hS1 HC
      go_wp2_with fail
      · go_ret
        exact ⟨ret_bool (way1 HS.out (by assumption)), hb5⟩
      · refine (endsSlash21 path _ h2).mono ?_
        rintro e w8 ⟨⟨c, rfl, hc⟩, rfl⟩
        have hw2 := way2 HS.out (by assumption) (by assumption) hc
        subst hw2
        clear hc
        have hz2 := slash_ne path
        go_wp2_with fail
        go_ret
        exact ⟨by simp, hb5⟩
      · go_ret
        exact ⟨ret_bool (way3 HS.out (by assumption) (by assumption)), hb5⟩
    · have hsl : [47] <:+ byt path := HC.out.1 rfl
      have h1' : 1 ≤ path.size := by have := hsl.length_le; rw [byt_len] at this; exact this
      have hS1 : Same g (path.extract 0 (path.size - 1)) req := same_of HG.out HM.out HNO.out (base_yes hsl)
      have HS : Hid _ := hS1
      clear hsl hS1 HC
      go_wp2_with fail
      · go_ret
        exact ⟨ret_bool (way1 HS.out (by assumption)), hb5⟩
      · refine (endsSlash21 (path.extract 0 (path.size - 1)) _ (Nat.le_trans (size_extract_le _ _) h2)).mono ?_
        rintro e w8 ⟨⟨c, rfl, hc⟩, rfl⟩
        have hw2 := way2 HS.out (by assumption) (by assumption) hc
        subst hw2
        clear hc
        have hz2 := slash_ne (path.extract 0 (path.size - 1))
        go_wp2_with fail
        go_ret
        exact ⟨by simp, hb5⟩
      · go_ret
        exact ⟨ret_bool (way3 HS.out (by assumption) (by assumption)), hb5⟩
  · have hyes : [47, 42] <:+ byt path := HC.out.1 rfl
    have h2' : 2 ≤ path.size := by have := hyes.length_le; rw [byt_len] at this; exact this
    have HY : Hid _ := hyes
    clear hyes HC
    go_wp2_with fail
    refine (hasPre20 req (path.extract 0 (path.size - 1)) _ h5 (Nat.le_trans (size_extract_le _ _) h2)).mono ?_
    rintro e w7 ⟨⟨c, rfl, hc⟩, n7, rfl⟩
    have hend := star_end HG.out HM.out HY.out hc
    have HE : Hid _ := hend
    clear hend hc
    go_wp2_with fail
    go_ret
    exact ⟨ret_bool HE.out, below_drewN _ hb5 n7⟩
end Go.Proofs.Qxb6602094aMods
