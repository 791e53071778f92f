import Derived.Test.Qxb6602309aModsMemC
import Derived.Deep.Slices
import Derived.KernelRfl
namespace Go.Proofs.Qxb6602309aMods
open Go.RowKit Go.ChangeShapes Go.WideShapes
set_option linter.unusedVariables false

theorem c39 : Trym.prog.cellsOf 39 = 5 := by kernel_rfl
theorem c32 : Trym.prog.cellsOf 32 = 1 := by kernel_rfl
theorem c9 : Trym.prog.cellsOf 9 = 1 := by kernel_rfl
theorem c3 : Trym.prog.cellsOf 3 = 1 := by kernel_rfl
theorem c4 : Trym.prog.cellsOf 4 = 1 := by kernel_rfl

section
variable {H : Type} {enc : TypeId × Value → H} {W : World} {base : Nat} {spare : Nat → Bool} {held : Bool}

/-- A struct that is read is a word. -/
theorem wd_of {fuel : Nat} {cs : List Value} {x : DataW H × List MemPlace} (h : DataW.trod enc Trym.prog W base spare held fuel 39 cs = some x) : ∃ y : Wd, cs = cs5 y := by
  obtain ⟨xs, n, _, _, hl, hlen, hf⟩ := DataW.trod_struct Trym.underlying39 h
  rw [c39] at hl
  match cs, hl with
  | [k0, k1, k2, k3, k4], _ =>
    match xs, hlen with
    | [y0, y1, y2, y3, y4], _ =>
      have h0 := hf 0 _ rfl
      have h1 := hf 1 _ rfl
      have h2 := hf 2 _ rfl
      have h3 := hf 3 _ rfl
      have h4 := hf 4 _ rfl
      simp [c9, c3, c4] at h0 h1 h2 h3 h4
      obtain ⟨s0, e0, _⟩ := DataW.trod_string Trym.underlying9 h0
      obtain ⟨s1, e1, _⟩ := DataW.trod_int Trym.underlying3 h1
      obtain ⟨s2, e2, _⟩ := DataW.trod_bool Trym.underlying4 h2
      obtain ⟨s3, e3, _⟩ := DataW.trod_string Trym.underlying9 h3
      obtain ⟨s4, e4, _⟩ := DataW.trod_bool Trym.underlying4 h4
      refine ⟨⟨s0, s1, s2, s3, s4⟩, ?_⟩
      simp only [List.cons.injEq, and_true] at e0 e1 e2 e3 e4
      rw [e0, e1, e2, e3, e4]
      rfl

/-- Five cells that are read are a word at its place. -/
theorem at_of {b o : Nat} {y : Wd} (h : W.cells? base ⟨b, o, none⟩ 5 = some (cs5 y)) : At W b o y := by
  obtain ⟨_, _, hc⟩ := World.cells?_some h
  have hc' : ∀ i, i < 5 → W.cell? ⟨b, o + i, none⟩ = (cs5 y)[i]? := fun i hi => by rw [← add_plain]; exact hc i hi
  exact ⟨hc' 0 (by omega), hc' 1 (by omega), hc' 2 (by omega), hc' 3 (by omega), hc' 4 (by omega)⟩

/-- A slice of structs that is read is a slice of words. -/
theorem wds_of {fuel : Nat} {v : Value} {x : DataW H × List MemPlace} (h : DataW.trod enc Trym.prog W base spare held fuel 32 [v] = some x) : ∃ pa p pc, v = .slice pa p.length pc ∧ Wds W pa p := by
  rcases Go.Deep.open_slice Trym.underlying32 h with ⟨h0, _⟩ | ⟨a, len, cap, m, n, D, Pl, h0, hb, hl, hm, hmm, _, hx⟩
  · simp only [List.cons.injEq, and_true] at h0
    exact ⟨none, [], 0, h0, wds_nil _ _⟩
  · simp only [List.cons.injEq, and_true] at h0
    have hlm : len ≤ m := by rw [hmm]; split <;> omega
    rw [c39] at hx
    haveI : Inhabited Wd := ⟨⟨ByteArray.empty, 0, false, ByteArray.empty, false⟩⟩
    obtain ⟨f, hf⟩ := Go.Deep.choose_lt (α := Wd) (n := len) (p := fun i y => W.cells? base (a.add (i * 5)) 5 = some (cs5 y)) (fun i hi => by
      obtain ⟨cs', g1, g2⟩ := hx i (by omega)
      obtain ⟨y, rfl⟩ := wd_of g2
      exact ⟨y, g1⟩)
    refine ⟨some a, (List.range len).map f, cap, by rw [h0]; simp, fun i y hy => ?_⟩
    have hi : i < len := by
      rcases Nat.lt_or_ge i len with h1 | h1
      · exact h1
      · rw [List.getElem?_eq_none (by simpa using h1)] at hy; cases hy
    have hy2 : f i = y := by simpa [hi] using hy
    subst hy2
    obtain ⟨b, off, spot⟩ := a
    have hspot : spot = none := by
      have h1 := hf 0 (by omega)
      obtain ⟨_, _, hc⟩ := World.cells?_some h1
      have h2 := hc 0 (by omega)
      have h3 : W.cell? ((Addr.add ⟨b, off, spot⟩ (0 * 5)).add 0) = some (.string (f 0).v) := h2
      simpa [Addr.add] using World.cell?_spot h3
    subst hspot
    refine ⟨b, off, rfl, at_of (base := base) ?_⟩
    rw [← add_plain]
    exact hf i hi

/-- A slice of slices of structs that is read. -/
theorem pts_of {fuel : Nat} {v : Value} {x : DataW H × List MemPlace} (h : DataW.trod enc Trym.prog W base spare held fuel 22 [v] = some x) :
    ∃ a ps cap, v = .slice a ps.length cap ∧ Pts W a ps ∧ (a = none → ps = []) ∧ ps.length ≤ 9223372036854775807 := by
  rcases Go.Deep.open_slice1 Trym.underlying22 c32 h with ⟨h0, _⟩ | ⟨a, len, cap, m, n, V, D, Pl, h0, hb, hl, hm, hmm, _, hx⟩
  · simp only [List.cons.injEq, and_true] at h0
    exact ⟨none, [], 0, h0, fun i p hp => by simp at hp, fun _ => rfl, by simp⟩
  · simp only [List.cons.injEq, and_true] at h0
    have hlm : len ≤ m := by rw [hmm]; split <;> omega
    obtain ⟨f, hf⟩ := Go.Deep.choose_lt (α := List Wd) (n := len) (p := fun i p => ∃ pa pc, W.cell? (a.add i) = some (.slice pa p.length pc) ∧ Wds W pa p) (fun i hi => by
      obtain ⟨g1, g2⟩ := hx i (by omega)
      obtain ⟨pa, p, pc, g3, g4⟩ := wds_of g2
      exact ⟨p, pa, pc, by rw [g1, g3], g4⟩)
    refine ⟨some a, (List.range len).map f, cap, by rw [h0]; simp, fun i y hy => ?_, fun h => (by cases h), by unfold maxLen at hm; simp; omega⟩
    have hi : i < len := by
      rcases Nat.lt_or_ge i len with h1 | h1
      · exact h1
      · rw [List.getElem?_eq_none (by simpa using h1)] at hy; cases hy
    have hy2 : f i = y := by simpa [hi] using hy
    subst hy2
    obtain ⟨pa, pc, g1, g2⟩ := hf i hi
    obtain ⟨b, off, spot⟩ := a
    have hspot : spot = none := by
      obtain ⟨pa0, pc0, e1, _⟩ := hf 0 (by omega)
      simpa [Addr.add] using World.cell?_spot e1
    subst hspot
    exact ⟨b, off, pa, pc, rfl, by rw [← add_plain]; exact g1, g2⟩
end
end Go.Proofs.Qxb6602309aMods
