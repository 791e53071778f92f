import Derived.Test.Qxb6602003aModsWalkA
namespace Go.Proofs.Qxb6602003aMods
open Go.RowKit
set_option linter.unusedVariables false

theorem row33_nil (X b : Nat) (hb : b < 256) (w : World) (hr : w.cell? ⟨X, b, none⟩ = some (.int .u16 0)) :
    Calls Trym.prog 33 #[.pointer (some ⟨X, 0, none⟩), .int .u8 (b : Int)] w fun e w' => e = .returned (.slice none 0 0) ∧ w' = w := by
  go_enter Trym.func33, Trym.ntmps33
  go_wp2
  go_ret
  exact ⟨rfl, rfl⟩

theorem row33_core (X b B r ws n lo hi : Nat) (hb : b < 256) (w : World) (hr : w.cell? ⟨X, b, none⟩ = some (.int .u16 ((r : Int) + 1)))
    (hw : w.cell? ⟨X, 256, none⟩ = some (.int .i64 (ws : Int))) (hbits : w.cell? ⟨X, 257, none⟩ = some (.slice (some ⟨B, 0, none⟩) n n))
    (hr2 : r < 1000) (hlo : IntKind.i64.wrap ((r : Int) * ws) = (lo : Int)) (hhi : IntKind.i64.wrap (((r : Int) + 1) * ws) = (hi : Int))
    (hlh : lo < hi) (hn : hi ≤ n) (hn2 : n ≤ 16000) :
    Calls Trym.prog 33 #[.pointer (some ⟨X, 0, none⟩), .int .u8 (b : Int)] w fun e w' => e = .returned (.slice (some ⟨B, lo, none⟩) (hi - lo) (n - lo)) ∧ ∃ k, w' = w.drewN k := by
  have h1 : ((r : Int) + 1 == 0) = false := by simp; omega
  have hrw := wrap_small (r : Int) (by omega) (by omega)
  have k1 : (lo : Int) ≤ (hi : Int) := by omega
  have k2 : (hi : Int) ≤ (n : Int) := by omega
  have k3 : ¬ n = lo := by omega
  have k4 : lo ≤ hi := by omega
  have k5 : lo < n := by omega
  go_enter Trym.func33, Trym.ntmps33
  go_wp2
  go_quiet (fail)
  go_wp2
  go_ret
  exact ⟨rfl, _, rfl⟩

theorem row33_some (X b B r ws n : Nat) (hb : b < 256) (w : World) (hr : w.cell? ⟨X, b, none⟩ = some (.int .u16 ((r : Int) + 1)))
    (hw : w.cell? ⟨X, 256, none⟩ = some (.int .i64 (ws : Int))) (hbits : w.cell? ⟨X, 257, none⟩ = some (.slice (some ⟨B, 0, none⟩) n n))
    (hr2 : r < 1000) (hws1 : 1 ≤ ws) (hn : (r + 1) * ws ≤ n) (hn2 : n ≤ 16000) :
    Calls Trym.prog 33 #[.pointer (some ⟨X, 0, none⟩), .int .u8 (b : Int)] w fun e w' => e = .returned (.slice (some ⟨B, r * ws, none⟩) ws (n - r * ws)) ∧ ∃ k, w' = w.drewN k := by
  have e1 : ((r : Int) + 1) * ws = ((((r + 1) * ws : Nat)) : Int) := by push_cast; rfl
  have e0 : (r : Int) * ws = (((r * ws : Nat)) : Int) := by push_cast; rfl
  have e2 : (r + 1) * ws = r * ws + ws := by rw [Nat.add_mul]; omega
  have h := row33_core X b B r ws n (r * ws) ((r + 1) * ws) hb w hr hw hbits hr2 (by rw [e0]; exact wrap_small _ (by omega) (by omega)) (by rw [e1]; exact wrap_small _ (by omega) (by omega)) (by omega) hn hn2
  rw [show (r + 1) * ws - r * ws = ws from by omega] at h
  exact h
end Go.Proofs.Qxb6602003aMods
