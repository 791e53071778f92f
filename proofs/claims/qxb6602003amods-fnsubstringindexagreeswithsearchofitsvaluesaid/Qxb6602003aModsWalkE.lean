import Derived.Test.Qxb6602003aModsPartsB
namespace Go.Proofs.Qxb6602003aMods
open Go.RowKit
set_option linter.unusedVariables false

set_option maxHeartbeats 400000 in
theorem top_long (v s : ByteArray) (w : World) (h0 : v.size ≤ maxLen) (h1 : s.size ≤ maxLen) (hl : 1000 < v.size ∨ 524288 < s.size) :
    Calls Trym.prog 6 #[.string v, .string s] w fun e w' => e = .returned (.bool true) ∧ Below w.heap.size w w' := by
  have g0 := h0
  have g1 := h1
  unfold maxLen at g0 g1
  by_cases hv : 1000 < v.size
  all_goals
    go_enter Trym.func6, Trym.ntmps6
    go_wp2_with fail
    refine (bytes18 v s _ h0 h1).mono ?_
    rintro e w1 ⟨⟨b, rfl⟩, rfl⟩
    cases b
    all_goals
      go_wp2_with fail
      go_ret
      exact ⟨rfl, Below.refl _ _⟩

theorem at_eq {x r ws lo kd k : Nat} (hlo : lo = r * ws) (hkd : kd = k / 64) (hr : x = r + 1) : lo + kd = (x - 1) * ws + k / 64 := by
  subst hlo hkd hr; rw [Nat.add_sub_cancel]

theorem spell_pow (m t : Nat) (hm : m < 18446744073709551616) (ht : t < 64) : Go.bits .or .u64 (m : Int) (IntKind.u64.wrap ((2 : Int) ^ t)) = ((m ||| 2 ^ t : Nat) : Int) := by
  have := spell_setbit m t hm ht
  rw [Int.natCast_pow] at this
  exact this

theorem rel_bit {v : ByteArray} {w1 wo wr : World} {k u ws N at_ km : Nat} {R M : Nat → Nat} (hR : RowsOf v v.size u R) (hbits : BitsOf v k ws R M) (hlt : k < v.size) (hv : v.size ≤ 64 * ws)
    (hat : at_ = (R v[k].toNat - 1) * ws + k / 64) (hkm : km = k % 64) (hr : R v[k].toNat ≠ 0) (hwords : Words wr wo.heap.size N M) (hM2 : Rows256 wr w1.heap.size R) (hbl2 : Below w1.heap.size w1 wr)
    (hsz : w1.heap.size < wo.heap.size) (hin : at_ < N) :
    ∃ M', BitsOf v (k + 1) ws R M' ∧
      Words (wr.setCell ⟨wo.heap.size, at_, none⟩ (.int .u64 (Go.bits .or .u64 (M at_ : Int) (IntKind.u64.wrap ((2 : Int) ^ km))))) wo.heap.size N M' ∧
      Rows256 (wr.setCell ⟨wo.heap.size, at_, none⟩ (.int .u64 (Go.bits .or .u64 (M at_ : Int) (IntKind.u64.wrap ((2 : Int) ^ km))))) w1.heap.size R ∧
      Below w1.heap.size w1 (wr.setCell ⟨wo.heap.size, at_, none⟩ (.int .u64 (Go.bits .or .u64 (M at_ : Int) (IntKind.u64.wrap ((2 : Int) ^ km))))) := by
  rw [spell_pow _ _ (hbits.lt _) (by omega)]
  refine ⟨_, bits_step hR hbits hlt hv hat hr, ?_, ?_, hbl2.setCell (Nat.le_of_lt hsz) _⟩
  · rw [← hkm]; exact hwords.set at_ _ hin
  · obtain ⟨cs, g1, g2, g3⟩ := hM2
    exact ⟨cs, (heap_setCell_other wr _ _ _ (by show w1.heap.size ≠ wo.heap.size; omega)).trans g1, g2, g3⟩

theorem idx_done {v : ByteArray} {u ws : Nat} {R M : Nat → Nat} (hR : RowsOf v v.size u R) (hbits : BitsOf v v.size ws R M) (hv : v.size ≤ 64 * ws) : Idx v ws R M where
  vle := hv
  bit b hb q hq := by
    rw [hbits.bit b hb q hq]
    exact ⟨fun h => h.2, fun ⟨h, e⟩ => ⟨h, h, e⟩⟩
  no b hb q hq := hR.no b hb q hq hq
  yes b hb := by
    obtain ⟨q, h1, _, h2⟩ := hR.yes b hb
    exact ⟨q, h1, h2⟩

theorem rows_fit {v : ByteArray} {u ws N : Nat} {R : Nat → Nat} (hR : RowsOf v v.size u R) (hN : N = u * ws) (b : Nat) : R b * ws ≤ N := by
  rw [hN]; exact Nat.mul_le_mul_right ws (hR.rle b)

theorem rows_pos {v : ByteArray} {u ws : Nat} {R : Nat → Nat} (hR : RowsOf v v.size u R) (hv : v.size ≤ 64 * ws) (b : Nat) (h : R b ≠ 0) : 1 ≤ ws := by
  obtain ⟨q, h1, _⟩ := hR.yes b h
  omega

theorem rows_le {v : ByteArray} {u : Nat} {R : Nat → Nat} (hR : RowsOf v v.size u R) (h : v.size ≤ 1000) (b : Nat) : R b ≤ 1000 := by
  have := hR.rle b
  have := hR.ule
  omega

theorem bool_same {b c : Bool} {P : Prop} (h1 : b = true ↔ P) (h2 : c = true ↔ P) : (b == c) = true := by
  cases b <;> cases c <;> simp_all

set_option maxHeartbeats 400000 in
theorem top_walk (v s : ByteArray) (w : World) (h0 : v.size ≤ 1000) (h1 : s.size ≤ 524288) :
    Calls Trym.prog 6 #[.string v, .string s] w fun e w' => e = .returned (.bool true) ∧ Below w.heap.size w w' := by
  go_enter Trym.func6, Trym.ntmps6
  go_wp2_with fail
  refine (bytes18 v s _ (by unfold maxLen; omega) (by unfold maxLen; omega)).mono ?_
  rintro e w1 ⟨⟨b, rfl⟩, rfl⟩
  cases b
  · go_wp2_with fail
    go_ret
    exact ⟨rfl, Below.refl _ _⟩
  go_wp2_with (refine wpList_alloc rfl 30 rfl _ _ (run_alloc30 _) ?_)
  go_loopw [6, 7] (fun u p wr => ∃ (k n : Nat) (R : Nat → Nat), k ≤ v.size ∧ p = .int .i64 k ∧ u = .int .i64 n ∧ RowsOf v k n R ∧ Rows256 wr w1.heap.size R ∧ Below w1.heap.size w1 wr ∧ w1.heap.size < wr.heap.size) (fun _ p _ => v.size - (intOf p).toNat)
  case atStart => exact ⟨0, 0, _, by omega, rfl, rfl, rows_start v, rows256_start w1, (Below.refl _ _).alloc (Nat.le_refl _) _, by simp⟩
  case round =>
    obtain ⟨k, n, R, hk, rfl, rfl, hR, hM, hbl, hsz⟩ := hrel
    have hnk := hR.ule
    by_cases hlt : k < v.size
    · have hb := byte_lt v[k]
      have hc := hM.cell v[k].toNat hb
      have hf := hM.free v[k].toNat
      by_cases hz : R v[k].toNat = 0
      · rw [hz] at hc
        have HZ : Hid _ := hz
        clear hz
        have HX : Hid _ := hM.set v[k].toNat (n + 1) hb
        go_wp2_with fail
        go_roundw
        case rel => exact ⟨k + 1, n + 1, _, by omega, by go_num, by go_num, rows_new hR hlt HZ.out, HX.out, hbl.setCell (Nat.le_refl _) _, by simpa using hsz⟩
        case measure => simp [intOf]; omega
      · have hz2 : ((R v[k].toNat : Int) == 0) = false := by simp; omega
        go_wp2_with fail
        go_roundw
        case rel => exact ⟨k + 1, n, R, by omega, by go_num, rfl, rows_old hR hlt hz, hM, hbl, hsz⟩
        case measure => simp [intOf]; omega
    · obtain rfl : k = v.size := by omega
      obtain ⟨ws, hws⟩ : ∃ ws, ws = (v.size + 63) / 64 := ⟨_, rfl⟩
      have hws1 : ws ≤ 16 := by omega
      have hws2 : v.size ≤ 64 * ws := by omega
      have hws3 : 64 * ws ≤ v.size + 63 := by omega
      have ews : ((v.size : Int) + 63) / 64 = (ws : Int) := by omega
      clear hws
      obtain ⟨N, hN⟩ : ∃ N, N = n * ws := ⟨_, rfl⟩
      have hN1 : N ≤ 16000 := by
        have := Nat.mul_le_mul (show n ≤ 1000 from by omega) hws1
        omega
      have eN : (n : Int) * (ws : Int) = (N : Int) := by rw [← Int.natCast_mul, ← hN]
      have HN : Hid _ := hN
      clear hN
      have hmk := run_make_row' (P := Trym.prog) 31 23 (.int .u64 0) 8 Trym.underlying31 info23b rfl .i64 .i64 N (by omega) (by omega)
      have hbl2 : Below w1.heap.size w1 (wr.alloc (.cells (madeCells #[.int .u64 0] N) 23 (0, 0))) := hbl.alloc (by omega) _
      have hw0 := words_start (w := wr) (n := N)
      have hM2 : Rows256 (wr.alloc (.cells (madeCells #[.int .u64 0] N) 23 (0, 0))) w1.heap.size R := hM.below ((Below.refl wr.heap.size wr).alloc (Nat.le_refl _) _) hsz
      go_wp2_with fail
      simp only [ews]
      have HW2 : Hid _ := hws2
      clear ews eN hws2 hws3 hmk
      obtain ⟨wo, rfl⟩ : ∃ wo : World, wo = wr := ⟨_, rfl⟩
      go_loopw [10] (fun p wq => ∃ (k : Nat) (M : Nat → Nat), k ≤ v.size ∧ p = .int .i64 k ∧ BitsOf v k ws R M ∧ Words wq wo.heap.size N M ∧ Rows256 wq w1.heap.size R ∧ Below w1.heap.size w1 wq) (fun p _ => v.size - (intOf p).toNat)
      case atStart => exact ⟨0, _, by omega, rfl, bits_start v ws R, hw0, hM2, hbl2⟩
      case round =>
        clear hbl2 hw0 hM2
        obtain ⟨k, M, hk, rfl, hbits, hwords, hM2, hbl2⟩ := hrel
        by_cases hlt : k < v.size
        · have hb := byte_lt v[k]
          have hr0 : R v[k].toNat ≠ 0 := fun e => hR.no _ e k hlt hlt rfl
          obtain ⟨r, hr⟩ : ∃ r, R v[k].toNat = r + 1 := ⟨R v[k].toNat - 1, by omega⟩
          have hrn : r + 1 ≤ n := by have := hR.rle v[k].toNat; omega
          have hc := hM2.cell v[k].toNat hb
          have hc2 : wr.cell? ⟨w1.heap.size, v[k].toNat, none⟩ = some (.int .u16 ((r : Int) + 1)) := by rw [hc, hr]; simp
          clear hc
          obtain ⟨lo, hlo⟩ : ∃ lo, lo = r * ws := ⟨_, rfl⟩
          have hloN : lo + ws ≤ N := by
            have h1 := Nat.mul_le_mul_right ws hrn
            rw [Nat.add_mul] at h1
            have h2 := HN.out
            omega
          have elo : (r : Int) * (ws : Int) = (lo : Int) := by rw [← Int.natCast_mul, ← hlo]
          obtain ⟨kd, hkd⟩ : ∃ kd, kd = k / 64 := ⟨_, rfl⟩
          obtain ⟨km, hkm⟩ : ∃ km, km = k % 64 := ⟨_, rfl⟩
          have hkd1 : kd < ws := by have := HW2.out; omega
          have hkm1 : km < 64 := by omega
          have hin : lo + kd < N := Nat.lt_of_lt_of_le (Nat.add_lt_add_left hkd1 lo) hloN
          have ekd : (k : Int) / 64 = (kd : Int) := by omega
          have ekm : (k : Int) % 64 = (km : Int) := by omega
          have HAT : Hid _ := at_eq hlo hkd hr
          have HKM : Hid _ := hkm
          have hlo2 : lo ≤ 16000 := by omega
          have hkd2 : kd ≤ 16 := by omega
          have hr2 : r ≤ 1000 := by omega
          clear hkd hkm hlo hr hloN hkd1 hrn hnk hws1
          have hcw := hwords.cell (lo + kd) hin
          have hfw := hwords.free (lo + kd)
          have HX : Hid _ := rel_bit hR hbits hlt HW2.out HAT.out HKM.out hr0 hwords hM2 hbl2 hsz hin
          go_wp2_with fail
          go_roundw
          case rel =>
            obtain ⟨M', x1, x2, x3, x4⟩ := HX.out
            exact ⟨k + 1, M', hlt, by go_num, x1, x2, x3, x4⟩
          case measure => simp [intOf]; omega
        · obtain rfl : k = v.size := by omega
          obtain ⟨cs, g1, g2, g3⟩ := hM2
          have HC : Hid ((Trym.prog.info? 30).map (·.size) = some cs.size) := by rw [g2]; exact size30
          go_wp2_with (refine wpList_load_row rfl 30 (.tmp 5) rfl w1.heap.size rfl 30 cs (0, 0) _ g1 Trym.underlying30 rfl HC.out ?_)
          refine (zz16 cs g2 wo.heap.size ws N R M v s wr g3 hwords.size hwords.cell hbits.lt (rows_le hR h0) (rows_fit hR HN.out) hws1 hN1 (rows_pos hR HW2.out) (idx_done hR hbits HW2.out) h1).mono ?_
          rintro e w3 ⟨⟨b, rfl, hb⟩, hbl3⟩
          go_wp2_with fail
          refine (search19 v s _ h0 h1).mono ?_
          rintro e w4 ⟨⟨c, rfl, hc⟩, n4, rfl⟩
          have hbc := bool_same hb hc
          clear hb hc
          go_wp2_with fail
          go_ret
          refine ⟨?_, below_drewN _ (hbl2.trans (hbl3.mono hbl2.size)) n4⟩
          simp
end Go.Proofs.Qxb6602003aMods
