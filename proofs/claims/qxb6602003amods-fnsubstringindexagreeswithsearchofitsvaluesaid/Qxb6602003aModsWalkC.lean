import Derived.Test.Qxb6602003aModsParts
namespace Go.Proofs.Qxb6602003aMods
open Go.RowKit
set_option linter.unusedVariables false

theorem info23 : (Trym.prog.info? 23).map (·.size) = some 1 := by kernel_rfl

theorem copy_src {w : World} {X B ws n : Nat} {R M : Nat → Nat} (h : Ix w X B ws n R M) {w' : World} (hb : Below w.heap.size w w') {lo : Nat} (hlo : lo + ws ≤ n) :
    ∀ j v, (rowCells M lo ws)[j]? = some v → w'.cell? ⟨B, lo + j, none⟩ = some v := by
  intro j v hj
  have hlt : j < ws := by
    rcases Nat.lt_or_ge j ws with h1 | h1
    · exact h1
    · rw [List.getElem?_eq_none (by rw [len_rowCells]; exact h1)] at hj; cases hj
  rw [hb.cell (p := ⟨B, lo + j, none⟩) h.hB, h.mem _ (by omega)]
  simp [rowCells, hlt] at hj
  rw [hj]

theorem contains26_empty (X : Nat) (v s : ByteArray) (w : World) (h0 : s.size = 0) :
    Calls Trym.prog 26 #[.pointer (some ⟨X, 0, none⟩), .string s] w fun e w' => Searched v s e ∧ Below w.heap.size w w' := by
  have hne := toList_none h0
  go_enter Trym.func26, Trym.ntmps26
  go_wp2_with fail
  go_ret
  refine ⟨⟨true, rfl, ?_⟩, Below.refl _ _⟩
  simp
  exact ⟨0, by omega, fun i hi => by omega⟩

theorem contains26_nil (X B ws n : Nat) (R M : Nat → Nat) (v s : ByteArray) (w : World) (hix : Ix w X B ws n R M) (hd : Idx v ws R M) (h1 : s.size ≤ 524288) (h0 : 0 < s.size) (hr0 : R (s[0].toNat) = 0) :
    Calls Trym.prog 26 #[.pointer (some ⟨X, 0, none⟩), .string s] w fun e w' => Searched v s e ∧ Below w.heap.size w w' := by
  have hne := toList_ne h0
  have qn : ∀ (w : World) (a : Option Addr) (n c n' c' : Nat), (binOp .eql 31 (.slice a n c) (.slice none n' c')).run Trym.prog w = .ok (.bool a.isNone) w := fun w a n c n' c' => Lib.run_eql_slice_nil w _ _ a n c n' c' Trym.underlying31
  have HR : Hid (R (s[0].toNat) = 0) := hr0
  clear hr0
  go_enter Trym.func26, Trym.ntmps26
  go_wp2_with fail
  refine (row33_no hix _ (byte_lt _) HR.out).mono ?_
  rintro e w1 ⟨rfl, rfl⟩
  go_wp2_with fail
  go_ret
  refine ⟨⟨false, rfl, ?_⟩, Below.refl _ _⟩
  simp
  exact fun x hx => no_byte hd h0 HR.out ⟨x, hx⟩

theorem contains26 (X B ws n : Nat) (R M : Nat → Nat) (v s : ByteArray) (w : World) (hix : Ix w X B ws n R M) (hd : Idx v ws R M) (h1 : s.size ≤ 524288) (h0 : 0 < s.size) (hr0 : R (s[0].toNat) ≠ 0) :
    Calls Trym.prog 26 #[.pointer (some ⟨X, 0, none⟩), .string s] w fun e w' => Searched v s e ∧ Below w.heap.size w w' := by
  have hne := toList_ne h0
  have qn : ∀ (w : World) (a : Option Addr) (n c n' c' : Nat), (binOp .eql 31 (.slice a n c) (.slice none n' c')).run Trym.prog w = .ok (.bool a.isNone) w := fun w a n c n' c' => Lib.run_eql_slice_nil w _ _ a n c n' c' Trym.underlying31
  have hws := hix.wsle
  have HR : Hid (R (s[0].toNat) ≠ 0) := hr0
  obtain ⟨lo, hlo⟩ : ∃ lo, lo = (R (s[0].toNat) - 1) * ws := ⟨_, rfl⟩
  have hlon : lo + ws ≤ n := by
    have := hix.fit (s[0].toNat)
    obtain ⟨r, er⟩ : ∃ r, R (s[0].toNat) = r + 1 := ⟨R (s[0].toNat) - 1, by omega⟩
    rw [er] at this hlo
    rw [Nat.add_mul] at this
    simp at hlo; omega
  have HL : Hid (lo = (R (s[0].toNat) - 1) * ws) := hlo
  clear hr0 hlo
  go_enter Trym.func26, Trym.ntmps26
  go_wp2_with fail
  refine (row33_ix hix _ lo (byte_lt _) HR.out HL.out).mono ?_
  rintro e w1 ⟨rfl, k1, rfl⟩
  go_wp2_with (refine wpList_copy_splice rfl (.tmp 21) (.tmp 22) 31 31 rfl 23 Trym.underlying31 info23 (some ⟨w.heap.size, 0, none⟩) (some ⟨B, lo, none⟩) 16 16 ws (n - lo) rfl rfl w.heap.size 0 zeros 58 ?hg (rowCells M lo ws) ?hn ?hpos ?hfit (one_rowCells M lo ws) w.heap.size w ?hb (Nat.le_refl _) ?_)
  case hg => exact heap_alloc_new (w.drewN k1) _
  case hn => rw [len_rowCells]; exact (Nat.min_eq_left hws).symm
  case hpos => exact fun _ => (copy_src hix ((below_drewN _ (Below.refl _ _) k1).alloc (Nat.le_refl _) _) hlon)
  case hfit => rw [len_rowCells]; show 0 + ws ≤ 16; omega
  case hb => exact (below_drewN _ (Below.refl _ _) k1).alloc (Nat.le_refl _) _
  intro w2 HG2 hB2
  have har := arr_start hix.lt hws HG2.out
  clear HG2
  go_wp2_with fail
  have hy0 := says_first hd h0 HR.out HL.out
  have hal := alive_first (M := M) hd h0 HR.out
  clear HR HL
  go_loopw [7] (fun i wr => ∃ (k : Nat) (F : Nat → Nat), 1 ≤ k ∧ k ≤ s.size ∧ i = .int .i64 k ∧ Arr16 wr w.heap.size F ∧ Below w.heap.size w wr ∧ Says v s ws F k ∧ ∃ q, EndsAt v s k q) (fun i _ => s.size - (intOf i).toNat)
  case atStart => exact ⟨1, _, by omega, by omega, rfl, har, hB2, hy0, hal⟩
  case round =>
    clear har hB2 hy0 hal
    obtain ⟨k, F, hk1, hk2, rfl, har, hbl, hsay, hal⟩ := hrel
    by_cases hlt : k < s.size
    · by_cases hrk : R (s[k].toNat) = 0
      · have HR : Hid (R (s[k].toNat) = 0) := hrk
        clear hrk
        go_wp2_with fail
        refine (row33_no (hix.below hbl) _ (byte_lt _) HR.out).mono ?_
        rintro e w3 ⟨rfl, rfl⟩
        go_wp2_with fail
        go_loopw [9, 36] (fun l t wr => l = .int .u64 0 ∧ t = .int .i64 0 ∧ wr = w3) (fun _ _ _ => 0)
        case atStart => exact ⟨rfl, rfl, rfl⟩
        case round =>
          obtain ⟨rfl, rfl, rfl⟩ := hrel
          go_wp2_with fail
          go_ret
          refine ⟨⟨false, rfl, ?_⟩, hbl⟩
          simp
          exact fun x hx => no_byte hd hlt HR.out ⟨x, hx⟩
      · obtain ⟨lk, hlk⟩ : ∃ lk, lk = (R (s[k].toNat) - 1) * ws := ⟨_, rfl⟩
        have hlkn : lk + ws ≤ n := by
          have := hix.fit (s[k].toNat)
          obtain ⟨r, er⟩ : ∃ r, R (s[k].toNat) = r + 1 := ⟨R (s[k].toNat) - 1, by omega⟩
          rw [er] at this hlk
          rw [Nat.add_mul] at this
          simp at hlk; omega
        have HR : Hid (R (s[k].toNat) ≠ 0) := hrk
        have HL : Hid (lk = (R (s[k].toNat) - 1) * ws) := hlk
        clear hrk hlk
        go_wp2_with fail
        refine (row33_ix (hix.below hbl) _ lk (byte_lt _) HR.out HL.out).mono ?_
        rintro e w3 ⟨rfl, k3, rfl⟩
        go_wp2_with fail
        obtain ⟨wo, rfl⟩ : ∃ wo : World, wo = wr := ⟨_, rfl⟩
        go_loopw [8, 9, 36] (fun c l t wr => ∃ (j : Nat), j ≤ ws ∧ t = .int .i64 j ∧ c = .int .u64 (carryOf F j : Int) ∧ l = .int .u64 (orTo (newW F (fun t => M (lk + t))) j : Int) ∧ Arr16 wr w.heap.size (midW F (fun t => M (lk + t)) j) ∧ Below w.heap.size w wr) (fun _ _ t _ => ws - (intOf t).toNat)
        case atStart => exact ⟨0, by omega, rfl, rfl, rfl, by rw [midW_zero]; exact har.drewN k3, below_drewN _ hbl k3⟩
        case round =>
          obtain ⟨j, hj, rfl, rfl, rfl, harj, hblj⟩ := hrel
          by_cases hjl : j < ws
          · have g1 : wr.cell? ⟨B, lk + j, none⟩ = some (.int .u64 (M (lk + j) : Int)) := (hix.below hblj).mem _ (by omega)
            have g2 : wr.cell? ⟨w.heap.size, j, none⟩ = some (.int .u64 (F j : Int)) := by rw [harj.cell j (by omega), midW_at]
            have g3 := harj.free j
            have g4 : (j : Int) < 16 := by omega
            have hR := rel_word (A := fun t => M (lk + t)) har.lt (fun t => hix.lt _) (by omega : j < 16) harj hblj
            have HRel : Hid _ := hR
            clear hR
            go_wp2_with fail
            go_roundw
            case rel => exact ⟨j + 1, by omega, by go_num, HRel.out.1, HRel.out.2.1, HRel.out.2.2.1, HRel.out.2.2.2⟩
            case measure => simp [intOf]; omega
          · obtain rfl : j = ws := by omega
            have hsayA := row_says hd hlt HR.out HL.out
            go_wp2_with fail
            · go_ret
              refine ⟨⟨false, rfl, ?_⟩, hblj⟩
              have hno := word_none (A := fun t => M (lk + t)) har.lt hk1 hlt hd.vle hsay hsayA (by assumption)
              simp
              exact fun x hx => hno ⟨x, hx⟩
            · have hyes := word_some (A := fun t => M (lk + t)) har.lt (fun t => hix.lt _) hk1 hsay hsayA (by assumption)
              go_roundw
              case rel => exact ⟨k + 1, _, by omega, by omega, by go_num, harj, hblj, hyes.1, hyes.2⟩
              case measure => simp [intOf]; omega
    · go_wp2_with fail
      go_ret
      refine ⟨⟨true, rfl, ?_⟩, hbl⟩
      obtain rfl : k = s.size := by omega
      obtain ⟨q, hq⟩ := hal
      simp
      exact ⟨_, match_of_ends hq⟩
end Go.Proofs.Qxb6602003aMods
