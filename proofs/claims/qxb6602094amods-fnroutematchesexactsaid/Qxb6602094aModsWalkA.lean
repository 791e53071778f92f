import Derived.Test.Qxb6602094aModsProg
import Derived.Test.Qxb6602094aModsPlain
import Derived.WalkKit
import Derived.WalkLawsBesides
import Derived.WalkSpells
import Derived.Deep.QuietTactic
import Derived.BigQuiet
import Derived.Lib.Strings
import Derived.Lib.IndexBytes
namespace Go.Proofs.Qxb6602094aMods
open Go.RowKit
set_option linter.unusedVariables false

/-- The ending hands back a bool that says whether p. -/
def Says (p : Prop) (e : Ending) : Prop := ∃ b, e = .returned (.bool b) ∧ (b = true ↔ p)
/-- A slice of strings as it lies in memory: S i its elements. -/
structure Strs (w : World) (a : Option Addr) (len : Nat) (S : Nat → ByteArray) : Prop where
  cell : ∀ i, i < len → ∃ b off, a = some ⟨b, off, none⟩ ∧ w.cell? ⟨b, off + i, none⟩ = some (.string (S i))
  size : ∀ i, i < len → (S i).size ≤ 9223372036854775807
  len : len ≤ 9223372036854775807

theorem Strs.at_ {w : World} {a : Option Addr} {len : Nat} {S : Nat → ByteArray} (h : Strs w a len S) (i : Nat) (hi : i < len) :
    ∃ b off, a = some ⟨b, off, none⟩ ∧ w.cell? ⟨b, off + i, none⟩ = some (.string (S i)) := h.cell i hi

set_option maxHeartbeats 400000 in
theorem contains18 (a : Option Addr) (len cap : Nat) (S : Nat → ByteArray) (s : ByteArray) (w : World) (h : Strs w a len S) :
    Calls Trym.prog 18 #[.slice a len cap, .string s] w fun e w' => Says (∃ i, i < len ∧ byt (S i) = byt s) e ∧ w' = w := by
  have hl := h.len
  go_enter Trym.func18, Trym.ntmps18
  go_wp2
  go_loop [5] (fun i => ∃ k : Nat, k ≤ len ∧ i = .int .i64 k ∧ ∀ j, j < k → byt (S j) ≠ byt s) (fun i => len - (intOf i).toNat)
  case atStart => exact ⟨0, by omega, rfl, fun j hj => by omega⟩
  case round =>
    obtain ⟨k, hk, rfl, hno⟩ := hrel
    by_cases hlt : k < len
    · obtain ⟨b, off, rfl, hc⟩ := h.cell k hlt
      go_wp2
      · go_ret
        refine ⟨⟨true, rfl, ?_⟩, rfl⟩
        simp
        exact ⟨k, hlt, eq_byt (by assumption)⟩
      · go_round
        case rel => exact ⟨k + 1, by omega, by go_num, fun j hj => by
          by_cases e : j = k
          · subst e; exact ne_byt (by assumption)
          · exact hno j (by omega)⟩
        case measure => simp [intOf]; omega
    · go_wp2
      go_ret
      refine ⟨⟨false, rfl, ?_⟩, rfl⟩
      simp
      exact fun x hx => hno x (by omega)

/-- slices.Index: the first place, or -1. -/
def FirstAt (len : Nat) (S : Nat → ByteArray) (s : ByteArray) (e : Ending) : Prop :=
  ∃ n : Int, e = .returned (.int .i64 n) ∧ (0 ≤ n ↔ ∃ i, i < len ∧ byt (S i) = byt s)

set_option maxHeartbeats 400000 in
theorem index36 (a : Option Addr) (len cap : Nat) (S : Nat → ByteArray) (s : ByteArray) (w : World) (h : Strs w a len S) :
    Calls Trym.prog 36 #[.slice a len cap, .string s] w fun e w' => FirstAt len S s e ∧ w' = w := by
  have hl := h.len
  go_enter Trym.func36, Trym.ntmps36
  go_wp2
  go_loop [8] (fun i => ∃ k : Nat, k ≤ len ∧ i = .int .i64 k ∧ ∀ j, j < k → byt (S j) ≠ byt s) (fun i => len - (intOf i).toNat)
  case atStart => exact ⟨0, by omega, rfl, fun j hj => by omega⟩
  case round =>
    obtain ⟨k, hk, rfl, hno⟩ := hrel
    by_cases hlt : k < len
    · obtain ⟨b, off, rfl, hc⟩ := h.cell k hlt
      go_wp2
      · go_ret
        refine ⟨⟨k, rfl, ?_⟩, rfl⟩
        exact ⟨fun _ => ⟨k, hlt, (eq_byt (by assumption)).symm⟩, fun _ => by omega⟩
      · go_round
        case rel => exact ⟨k + 1, by omega, by go_num, fun j hj => by
          by_cases e : j = k
          · subst e; exact (ne_byt (by assumption)).symm
          · exact hno j (by omega)⟩
        case measure => simp [intOf]; omega
    · go_wp2
      go_ret
      refine ⟨⟨-1, rfl, ?_⟩, rfl⟩
      exact ⟨fun h => by omega, fun ⟨j, h1, h2⟩ => absurd h2 (hno j (by omega))⟩

theorem contains30 (a : Option Addr) (len cap : Nat) (S : Nat → ByteArray) (s : ByteArray) (w : World) (h : Strs w a len S) :
    Calls Trym.prog 30 #[.slice a len cap, .string s] w fun e w' => Says (∃ i, i < len ∧ byt (S i) = byt s) e ∧ w' = w := by
  go_enter Trym.func30, Trym.ntmps30
  go_wp2_with fail
  refine (index36 a len cap S s _ h).mono ?_
  rintro e w1 ⟨⟨n, rfl, hn⟩, rfl⟩
  have HN : Hid _ := hn
  clear hn
  go_wp2_with fail
  go_ret
  refine ⟨⟨decide (0 ≤ n), rfl, ?_⟩, rfl⟩
  rw [decide_eq_true_eq]
  exact HN.out

theorem star_yes {p : ByteArray} (h2 : 2 ≤ p.size) (h : (p[p.size - 2].toNat : Int) = 47) : ((p[p.size - 1].toNat : Int) == 42) = true ↔ [47, 42] <:+ byt p := by
  rw [suf2 _ _ _ (by rw [byt_len]; omega), byt_len, byt_get p _ (by omega), byt_get p _ (by omega)]
  have h1 : p[p.size - 2] = 47 := u8_of (n := 47) h (by omega)
  simp only [h1, Option.some.injEq, true_and, beq_iff_eq]
  exact ⟨fun h => u8_of (n := 42) h (by omega), fun h => by rw [h]; rfl⟩

theorem star_no {p : ByteArray} (h2 : 2 ≤ p.size) (h : ¬ (p[p.size - 2].toNat : Int) = 47) : ¬ [47, 42] <:+ byt p := by
  rw [suf2 _ _ _ (by rw [byt_len]; omega), byt_len, byt_get p _ (by omega), byt_get p _ (by omega)]
  rintro ⟨h1, _⟩
  simp only [Option.some.injEq] at h1
  exact h (by rw [h1]; rfl)

theorem star_short {p : ByteArray} (h2 : ¬ 2 ≤ p.size) : ¬ [47, 42] <:+ byt p := fun h => by
  have := suf_len h
  rw [byt_len] at this
  exact h2 this

theorem slash_yes {p : ByteArray} (h2 : 1 ≤ p.size) : ((p[p.size - 1].toNat : Int) == 47) = true ↔ [47] <:+ byt p := by
  rw [suf1 _ _ (by rw [byt_len]; omega), byt_len, byt_get p _ (by omega)]
  simp only [Option.some.injEq, beq_iff_eq]
  exact ⟨fun h => u8_of (n := 47) h (by omega), fun h => by rw [h]; rfl⟩

theorem slash_short {p : ByteArray} (h2 : ¬ 1 ≤ p.size) : ¬ [47] <:+ byt p := fun h => by
  have := suf_len h
  rw [byt_len] at this
  exact h2 this

theorem endsStar19 (p : ByteArray) (w : World) (h : p.size ≤ maxLen) :
    Calls Trym.prog 19 #[.string p] w fun e w' => Says ([47, 42] <:+ byt p) e ∧ w' = w := by
  unfold maxLen at h
  by_cases h2 : 2 ≤ p.size
  · have k1 : (0 : Int) ≤ (p.size : Int) - 2 := by omega
    go_enter Trym.func19, Trym.ntmps19
    go_wp2
    · go_ret
      exact ⟨⟨_, rfl, star_yes h2 (by assumption)⟩, rfl⟩
    · go_ret
      exact ⟨⟨false, rfl, by simpa using star_no h2 (by assumption)⟩, rfl⟩
  · go_enter Trym.func19, Trym.ntmps19
    go_wp2
    go_ret
    exact ⟨⟨false, rfl, by simpa using star_short h2⟩, rfl⟩

theorem endsSlash21 (p : ByteArray) (w : World) (h : p.size ≤ maxLen) :
    Calls Trym.prog 21 #[.string p] w fun e w' => Says ([47] <:+ byt p) e ∧ w' = w := by
  unfold maxLen at h
  by_cases h2 : 1 ≤ p.size
  · have k1 : (0 : Int) ≤ (p.size : Int) - 1 := by omega
    go_enter Trym.func21, Trym.ntmps21
    go_wp2
    go_ret
    exact ⟨⟨_, rfl, slash_yes h2⟩, rfl⟩
  · go_enter Trym.func21, Trym.ntmps21
    go_wp2
    go_ret
    exact ⟨⟨false, rfl, by simpa using slash_short h2⟩, rfl⟩

theorem pre_iff {s t : ByteArray} (h : t.size ≤ s.size) : ((s.extract 0 t.size).toList == t.toList) = true ↔ byt t <+: byt s := by
  rw [beq_byt, byt_extract, List.prefix_iff_eq_take, byt_len]
  simp only [List.drop_zero, Nat.sub_zero]
  exact eq_comm

theorem suf_iff {s t : ByteArray} (h : t.size ≤ s.size) : ((s.extract (s.size - t.size) s.size).toList == t.toList) = true ↔ byt t <:+ byt s := by
  rw [beq_byt, List.suffix_iff_eq_drop, byt_len, byt_len]
  rw [show byt (s.extract (s.size - t.size) s.size) = (byt s).drop (s.size - t.size) from Lib.extract_to_end s _]
  exact eq_comm

theorem pre_short {s t : ByteArray} (h : ¬ t.size ≤ s.size) : ¬ byt t <+: byt s := fun h2 => by
  have := h2.length_le
  rw [byt_len, byt_len] at this; exact h this
theorem suf_short {s t : ByteArray} (h : ¬ t.size ≤ s.size) : ¬ byt t <:+ byt s := fun h2 => by
  have := h2.length_le
  rw [byt_len, byt_len] at this; exact h this

theorem hasPre38 (s t : ByteArray) (w : World) (hs : s.size ≤ maxLen) (ht : t.size ≤ maxLen) :
    Calls Trym.prog 38 #[.string s, .string t] w fun e w' => Says (byt t <+: byt s) e ∧ w' = w := by
  unfold maxLen at hs ht
  by_cases h2 : t.size ≤ s.size
  · go_enter Trym.func38, Trym.ntmps38
    go_wp2
    go_ret
    exact ⟨⟨_, rfl, pre_iff h2⟩, rfl⟩
  · go_enter Trym.func38, Trym.ntmps38
    go_wp2
    go_ret
    exact ⟨⟨false, rfl, by simpa using pre_short h2⟩, rfl⟩

theorem hasSuf41 (s t : ByteArray) (w : World) (hs : s.size ≤ maxLen) (ht : t.size ≤ maxLen) :
    Calls Trym.prog 41 #[.string s, .string t] w fun e w' => Says (byt t <:+ byt s) e ∧ w' = w := by
  unfold maxLen at hs ht
  by_cases h2 : t.size ≤ s.size
  · go_enter Trym.func41, Trym.ntmps41
    go_wp2
    go_ret
    exact ⟨⟨_, rfl, suf_iff h2⟩, rfl⟩
  · go_enter Trym.func41, Trym.ntmps41
    go_wp2
    go_ret
    exact ⟨⟨false, rfl, by simpa using suf_short h2⟩, rfl⟩

theorem hasPre32 (s t : ByteArray) (w : World) (hs : s.size ≤ maxLen) (ht : t.size ≤ maxLen) :
    Calls Trym.prog 32 #[.string s, .string t] w fun e w' => Says (byt t <+: byt s) e ∧ w' = w := by
  go_enter Trym.func32, Trym.ntmps32
  go_wp2_with fail
  refine (hasPre38 s t _ hs ht).mono ?_
  rintro e w1 ⟨⟨b, rfl, hb⟩, rfl⟩
  have HB : Hid _ := hb
  clear hb
  go_wp2_with fail
  go_ret
  exact ⟨⟨b, rfl, HB.out⟩, rfl⟩

theorem hasSuf37 (s t : ByteArray) (w : World) (hs : s.size ≤ maxLen) (ht : t.size ≤ maxLen) :
    Calls Trym.prog 37 #[.string s, .string t] w fun e w' => Says (byt t <:+ byt s) e ∧ w' = w := by
  go_enter Trym.func37, Trym.ntmps37
  go_wp2_with fail
  refine (hasSuf41 s t _ hs ht).mono ?_
  rintro e w1 ⟨⟨b, rfl, hb⟩, rfl⟩
  have HB : Hid _ := hb
  clear hb
  go_wp2_with fail
  go_ret
  exact ⟨⟨b, rfl, HB.out⟩, rfl⟩

/-- TrimSuffix's answer. -/
def Trimmed (s t : ByteArray) (e : Ending) : Prop := ∃ r : ByteArray, e = .returned (.string r) ∧ byt r = trimL (byt s) (byt t) ∧ r.size ≤ s.size

theorem trimmed_yes {s t : ByteArray} (h : byt t <:+ byt s) : byt (s.extract 0 (s.size - t.size)) = trimL (byt s) (byt t) ∧ (s.extract 0 (s.size - t.size)).size ≤ s.size := by
  refine ⟨?_, ?_⟩
  · rw [byt_extract, trim_yes h, byt_len, byt_len]; simp
  · rw [← byt_len, byt_extract, ← byt_len]; simp

theorem trim39 (s t : ByteArray) (w : World) (hs : s.size ≤ maxLen) (ht : t.size ≤ maxLen) :
    Calls Trym.prog 39 #[.string s, .string t] w fun e w' => Trimmed s t e ∧ w' = w := by
  have g0 := hs
  have g1 := ht
  unfold maxLen at g0 g1
  go_enter Trym.func39, Trym.ntmps39
  go_wp2_with fail
  refine (hasSuf41 s t _ hs ht).mono ?_
  rintro e w1 ⟨⟨b, rfl, hb⟩, rfl⟩
  have HB : Hid _ := hb
  clear hb
  cases b
  · go_wp2_with fail
    go_ret
    have hn : ¬ byt t <:+ byt s := fun h => by cases HB.out.2 h
    exact ⟨⟨s, rfl, (trim_no hn).symm, Nat.le_refl _⟩, rfl⟩
  · have hy : byt t <:+ byt s := HB.out.1 rfl
    have hle := hy.length_le
    rw [byt_len, byt_len] at hle
    have HT : Hid _ := trimmed_yes hy
    go_wp2_with fail
    go_ret
    exact ⟨⟨_, rfl, HT.out.1, HT.out.2⟩, rfl⟩

theorem trim33 (s t : ByteArray) (w : World) (hs : s.size ≤ maxLen) (ht : t.size ≤ maxLen) :
    Calls Trym.prog 33 #[.string s, .string t] w fun e w' => Trimmed s t e ∧ w' = w := by
  go_enter Trym.func33, Trym.ntmps33
  go_wp2_with fail
  refine (trim39 s t _ hs ht).mono ?_
  rintro e w1 ⟨⟨r, rfl, hb, hc⟩, rfl⟩
  have HB : Hid _ := hb
  clear hb
  go_wp2_with fail
  go_ret
  exact ⟨⟨r, rfl, HB.out, hc⟩, rfl⟩

theorem eq_of_toNat {a b : UInt8} (h : ((a.toNat : Int) != (b.toNat : Int)) = false) : a = b := by
  simp at h; exact UInt8.toNat_inj.mp (by omega)
theorem ne_of_toNat {a b : UInt8} (h : ((a.toNat : Int) != (b.toNat : Int)) = true) : a ≠ b := by
  intro e; subst e; simp at h

theorem pre_of_all {s t : ByteArray} (h : t.size ≤ s.size) (ha : ∀ j, j < t.size → (byt s)[j]? = (byt t)[j]?) : byt t <+: byt s := by
  rw [List.prefix_iff_eq_take, byt_len]
  apply List.ext_getElem?
  intro i
  rw [List.getElem?_take]
  by_cases hi : i < t.size
  · rw [if_pos hi, ha i hi]
  · rw [if_neg hi, List.getElem?_eq_none (by rw [byt_len]; omega)]

theorem not_pre {s t : ByteArray} {k : Nat} (h : t.size ≤ s.size) (hk : k < t.size) (hne : s[k] ≠ t[k]) : ¬ byt t <+: byt s := by
  rintro ⟨x, hx⟩
  have h1 : (byt s)[k]? = (byt t)[k]? := by rw [← hx, List.getElem?_append_left (by rw [byt_len]; exact hk)]
  rw [byt_get s k (by omega), byt_get t k hk] at h1
  exact hne (by simpa using h1)

set_option maxHeartbeats 400000 in
theorem hasPre20 (s t : ByteArray) (w : World) (hs : s.size ≤ maxLen) (ht : t.size ≤ maxLen) :
    Calls Trym.prog 20 #[.string s, .string t] w fun e w' => Says (byt t <+: byt s) e ∧ ∃ n, w' = w.drewN n := by
  unfold maxLen at hs ht
  by_cases h2 : t.size ≤ s.size
  · go_enter Trym.func20, Trym.ntmps20
    go_wp2
    go_loopw [5] (fun i wr => ∃ k n : Nat, k ≤ t.size ∧ i = .int .i64 k ∧ wr = w.drewN n ∧ ∀ j, j < k → (byt s)[j]? = (byt t)[j]?) (fun i _ => t.size - (intOf i).toNat)
    case atStart => exact ⟨0, 0, by omega, rfl, rfl, fun j hj => by omega⟩
    case round =>
      obtain ⟨k, n, hk, rfl, rfl, hy⟩ := hrel
      by_cases hlt : k < t.size
      · have hb1 : (k : Int) < s.size := by omega
        have hb2 : (k : Int) < t.size := by omega
        go_wp2
        go_quiet (fail)
        go_wp2
        · go_ret
          refine ⟨⟨false, rfl, ?_⟩, n + nq, by rw [World.drewN_drewN]⟩
          simpa using not_pre h2 hlt (ne_of_toNat (by assumption))
        · have heq := eq_of_toNat (a := s[k]) (b := t[k]) (by assumption)
          go_roundw
          case rel => exact ⟨k + 1, n + nq, by omega, by go_num, rfl, fun j hj => by
            by_cases e : j = k
            · subst e; rw [byt_get s j (by omega), byt_get t j hlt, heq]
            · exact hy j (by omega)⟩
          case measure => simp [intOf]; omega
      · go_wp2
        go_ret
        refine ⟨⟨true, rfl, ?_⟩, n, rfl⟩
        simp
        exact pre_of_all h2 (fun j hj => hy j (by omega))
  · go_enter Trym.func20, Trym.ntmps20
    go_wp2
    go_ret
    exact ⟨⟨false, rfl, by simpa using pre_short h2⟩, 0, rfl⟩
end Go.Proofs.Qxb6602094aMods
