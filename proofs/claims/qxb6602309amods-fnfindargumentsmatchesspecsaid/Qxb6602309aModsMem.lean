import Derived.Test.Qxb6602309aModsProg
import Derived.Test.Qxb6602309aModsPlain
import Derived.WalkKit
import Derived.WalkLawsBesides
import Derived.WalkSpells
import Derived.Deep.QuietTactic
import Derived.BigQuiet
import Derived.Deep.OwnRows
namespace Go.Proofs.Qxb6602309aMods
open Go.RowKit
set_option linter.unusedVariables false

/-- The word x lies at ⟨b, o⟩. -/
structure At (w : World) (b o : Nat) (x : Wd) : Prop where
  c0 : w.cell? ⟨b, o, none⟩ = some (.string x.v)
  c1 : w.cell? ⟨b, o + 1, none⟩ = some (.int .i64 x.a)
  c2 : w.cell? ⟨b, o + 2, none⟩ = some (.bool x.b)
  c3 : w.cell? ⟨b, o + 3, none⟩ = some (.string x.t)
  c4 : w.cell? ⟨b, o + 4, none⟩ = some (.bool x.o)

theorem At.lt {w : World} {b o : Nat} {x : Wd} (h : At w b o x) : b < w.heap.size := block_lt_of_cell h.c0

theorem At.keep {w w' : World} {b o : Nat} {x : Wd} (h : At w b o x) (hb : w'.heap[b]? = w.heap[b]?) : At w' b o x where
  c0 := (World.cell?_of_block (a := ⟨b, o, none⟩) hb).trans h.c0
  c1 := (World.cell?_of_block (a := ⟨b, o + 1, none⟩) hb).trans h.c1
  c2 := (World.cell?_of_block (a := ⟨b, o + 2, none⟩) hb).trans h.c2
  c3 := (World.cell?_of_block (a := ⟨b, o + 3, none⟩) hb).trans h.c3
  c4 := (World.cell?_of_block (a := ⟨b, o + 4, none⟩) hb).trans h.c4

/-- The words xs lie behind the address a. -/
def Wds (w : World) (a : Option Addr) (xs : List Wd) : Prop := ∀ i x, xs[i]? = some x → ∃ b off, a = some ⟨b, off, none⟩ ∧ At w b (off + i * 5) x

theorem wds_nil (w : World) (a : Option Addr) : Wds w a [] := fun i x h => by simp at h

/-- A slice of slices of words. -/
def Pts (w : World) (a : Option Addr) (ps : List (List Wd)) : Prop :=
  ∀ i p, ps[i]? = some p → ∃ b off pa pc, a = some ⟨b, off, none⟩ ∧ w.cell? ⟨b, off + i, none⟩ = some (.slice pa p.length pc) ∧ Wds w pa p

theorem Wds.below {w w' : World} {a : Option Addr} {xs : List Wd} (h : Wds w a xs) (hb : Below w.heap.size w w') : Wds w' a xs := fun i x hx => by
  obtain ⟨b, off, e, hat⟩ := h i x hx
  exact ⟨b, off, e, hat.keep (hb.block b hat.lt)⟩

theorem Pts.below {w w' : World} {a : Option Addr} {ps : List (List Wd)} (h : Pts w a ps) (hb : Below w.heap.size w w') : Pts w' a ps := fun i p hp => by
  obtain ⟨b, off, pa, pc, e, hc, hw⟩ := h i p hp
  exact ⟨b, off, pa, pc, e, (hb.cell (p := ⟨b, off + i, none⟩) (block_lt_of_cell hc)).trans hc, hw.below hb⟩

def RetBool (e : Ending) : Prop := ∃ b, e = .returned (.bool b)

set_option maxRecDepth 100000 in
set_option maxHeartbeats 1000000 in
theorem bytes5 (a : Option Addr) (cap : Nat) (ps : List (List Wd)) (w : World) (h : Pts w a ps) (hl : ps.length ≤ 9223372036854775807) :
    Calls Trym.prog 5 #[.slice a ps.length cap] w fun e w' => RetBool e ∧ w' = w := by
  by_cases c0 : 1048576 < ps.length
  · go_enter Trym.func5, Trym.ntmps5
    go_wp2
    go_ret
    exact ⟨⟨_, rfl⟩, rfl⟩
  go_enter Trym.func5, Trym.ntmps5
  go_wp2
  go_loop [3, 4] (fun z i => ∃ n k : Nat, n ≤ 1048576 ∧ k ≤ ps.length ∧ z = .int .i64 n ∧ i = .int .i64 k) (fun _ i => ps.length - (intOf i).toNat)
  case atStart => exact ⟨ps.length, 0, by omega, by omega, by go_num, rfl⟩
  case round =>
    obtain ⟨n, k, hn, hk, rfl, rfl⟩ := hrel
    by_cases hlt : k < ps.length
    · obtain ⟨b, off, pa, pc, rfl, hc, hw⟩ := h k ps[k] (List.getElem?_eq_getElem hlt)
      generalize ps[k] = p at hc hw
      by_cases d0 : 1048576 < p.length
      · go_wp2
        go_ret
        exact ⟨⟨_, rfl⟩, rfl⟩
      by_cases d1 : 1048576 < n + p.length
      · go_wp2
        go_ret
        exact ⟨⟨_, rfl⟩, rfl⟩
      go_wp2
      go_loop [3, 5] (fun z i => ∃ n k : Nat, n ≤ 1048576 ∧ k ≤ p.length ∧ z = .int .i64 n ∧ i = .int .i64 k) (fun _ i => p.length - (intOf i).toNat)
      case atStart => exact ⟨n + p.length, 0, by omega, by omega, by go_num, rfl⟩
      case round =>
        obtain ⟨m, j, hm, hj, rfl, rfl⟩ := hrel
        by_cases hjl : j < p.length
        · obtain ⟨b2, off2, rfl, hat⟩ := hw j p[j] (List.getElem?_eq_getElem hjl)
          generalize p[j] = x at hat
          have q0 := hat.c0
          have q3 := hat.c3
          go_wp2
          · go_ret
            exact ⟨⟨_, rfl⟩, rfl⟩
          · go_ret
            exact ⟨⟨_, rfl⟩, rfl⟩
          · go_ret
            exact ⟨⟨_, rfl⟩, rfl⟩
          · go_ret
            exact ⟨⟨_, rfl⟩, rfl⟩
          · go_round
            case rel => exact ⟨m + x.v.size + x.t.size, j + 1, by omega, by omega, by go_num, by go_num⟩
            case measure => simp [intOf]; omega
        · go_wp2
          go_round
          case rel => exact ⟨m, k + 1, hm, by omega, rfl, by go_num⟩
          case measure => simp [intOf]; omega
    · go_wp2
      go_ret
      exact ⟨⟨_, rfl⟩, rfl⟩
end Go.Proofs.Qxb6602309aMods
