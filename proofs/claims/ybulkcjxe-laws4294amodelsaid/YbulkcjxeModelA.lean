import Derived.Test.YbulkcjxeRows
import Derived.WalkKit
import Derived.WalkSpells
import Derived.Deep.QuietTactic
import Derived.BigQuiet
import Derived.Laws.BitsAllLaws
import Derived.Deep.MidRow
namespace Go.Proofs.Ybulkcjxe.lawS4294AModel
open Go.RowKit
set_option linter.unusedVariables false

theorem or_mul (a b i m : Nat) (hm : m = 2 ^ i) (h : a < m) : a ||| (b * m) = b * m + a := by
  subst hm
  rw [Nat.or_comm, ← Nat.shiftLeft_eq, Nat.shiftLeft_add_eq_or_of_lt h]

theorem be16_sum (x0 x1 : Int) (a0 : 0 ≤ x0) (b0 : x0 < 256) (a1 : 0 ≤ x1) (b1 : x1 < 256) : bits BinOp.or IntKind.u16 x1 (x0 * 256) = x0 * 256 + x1 := by
  obtain ⟨n0, rfl⟩ := Int.eq_ofNat_of_zero_le a0
  obtain ⟨n1, rfl⟩ := Int.eq_ofNat_of_zero_le a1
  have e : ((n0 : Int) * 256) = ((n0 * 256 : Nat) : Int) := by omega
  rw [e, u16_or_nat n1 (n0 * 256) (by omega) (by omega), or_mul n1 n0 8 256 (by decide) (by omega)]
  omega

theorem and_all : ∀ f : Fin 256, (f.val / 4) &&& 1 = f.val / 4 % 2 ∧ f.val &&& 3 = f.val % 4 ∧ f.val &&& 4 = 4 * (f.val / 4 % 2) := by decide +kernel
theorem and_of (h : Int) (h0 : 0 ≤ h) (h1 : h ≤ 255) : bits BinOp.and IntKind.u8 (h / 4) 1 = h / 4 % 2 ∧ bits BinOp.and IntKind.u8 h 3 = h % 4 ∧ bits BinOp.and IntKind.u8 h 4 = 4 * (h / 4 % 2) := by
  obtain ⟨n, rfl⟩ := Int.eq_ofNat_of_zero_le h0
  have hn : n < 256 := by omega
  obtain ⟨e1, e2, e3⟩ := and_all ⟨n, hn⟩
  simp only at e1 e2 e3
  refine ⟨?_, ?_, ?_⟩
  · rw [show ((n : Int) / 4) = ((n / 4 : Nat) : Int) from by omega, show (1 : Int) = ((1 : Nat) : Int) from rfl, u8_and_nat (n / 4) 1 (by omega) (by decide), e1]; omega
  · rw [show (3 : Int) = ((3 : Nat) : Int) from rfl, u8_and_nat n 3 hn (by decide), e2]; omega
  · rw [show bits BinOp.and IntKind.u8 (n : Int) 4 = bits BinOp.and IntKind.u8 (n : Int) ((4 : Nat) : Int) from rfl, u8_and_nat n 4 hn (by decide), e3]; omega

theorem below_drewN (B : Nat) (w : World) : ∀ n, Below B w (w.drewN n)
  | 0 => Below.refl _ _
  | n + 1 => (below_drewN B w n).drew

theorem ret_bool {a b : Bool} (h : a = b) : Ending.returned (.bool a) = .returned (.bool b) := by rw [h]

/-- THE PLAIN FUNCTION. -/
def brk (h hi lo : Int) : Bool := decide (hi = 255 ∧ lo = 255) || (decide (h / 4 % 2 = 1) || (decide (h % 4 = 2) || decide (h % 4 = 3)))

set_option maxHeartbeats 400000 in
theorem be16 (g o n c : Nat) (x0 x1 : Int) (a0 : 0 ≤ x0) (b0 : x0 < 256) (a1 : 0 ≤ x1) (b1 : x1 < 256) (w : World) (hn : 2 ≤ n)
    (c0 : w.cell? ⟨g, o, none⟩ = some (.int .u8 x0)) (c1 : w.cell? ⟨g, o + 1, none⟩ = some (.int .u8 x1)) :
    Calls Yba.prog 6 #[.agg #[], .slice (some ⟨g, o, none⟩) n c] w fun e w' => e = .returned (.int .u16 (x0 * 256 + x1)) ∧ Below w.heap.size w w' := by
  have d0 : (w.alloc (.cells #[] 28)).cell? ⟨g, o, none⟩ = some (.int .u8 x0) := by rw [World.cell?_alloc_past _ _ _ (World.block_lt_of_cell? w _ c0)]; exact c0
  have d1 : (w.alloc (.cells #[] 28)).cell? ⟨g, o + 1, none⟩ = some (.int .u8 x1) := by rw [World.cell?_alloc_past _ _ _ (World.block_lt_of_cell? w _ c1)]; exact c1
  have e0 : (0 : Int) < (n : Int) := by omega
  have e1 : (1 : Int) < (n : Int) := by omega
  have hb := be16_sum x0 x1 a0 b0 a1 b1
  go_enter Yba.func6, Yba.ntmps6
  go_wp2
  go_quiet (fail)
  go_wp2
  go_ret
  exact ⟨by simp, (((Below.refl _ _).alloc (Nat.le_refl _) _)).trans (below_drewN _ _ _)⟩


set_option maxHeartbeats 400000 in
theorem model_any (h hi lo : Int) (h0 : 0 ≤ h) (h1 : h ≤ 255) (i0 : 0 ≤ hi) (i1 : hi ≤ 255) (l0 : 0 ≤ lo) (l1 : lo ≤ 255) (w : World) :
    Calls Yba.prog 5 #[.int .u8 h, .int .u8 hi, .int .u8 lo] w fun e w' => e = .returned (.bool (brk h hi lo)) ∧ w' = w := by
  have hk := (and_of h h0 h1).1
  go_enter Yba.func5, Yba.ntmps5
  go_wp2
  all_goals
    go_ret
    refine ⟨ret_bool ?_, rfl⟩
    clear hk
    rw [Bool.eq_iff_iff]
    simp [brk] at *
    try omega

set_option maxHeartbeats 400000 in
theorem broken_any (g o n c : Nat) (h x0 x1 : Int) (h0 : 0 ≤ h) (h1 : h ≤ 255) (a0 : 0 ≤ x0) (b0 : x0 < 256) (a1 : 0 ≤ x1) (b1 : x1 < 256) (w : World) (hn : 2 ≤ n)
    (c0 : w.cell? ⟨g, o, none⟩ = some (.int .u8 x0)) (c1 : w.cell? ⟨g, o + 1, none⟩ = some (.int .u8 x1)) :
    Calls Yba.prog 4 #[.int .u8 h, .slice (some ⟨g, o, none⟩) n c] w fun e w' => e = .returned (.bool (brk h x0 x1)) ∧ Below w.heap.size w w' := by
  obtain ⟨_, hk3, hk4⟩ := and_of h h0 h1
  go_enter Yba.func4, Yba.ntmps4
  go_wp2_with (go_at_call 6; refine (be16 g o n c x0 x1 a0 b0 a1 b1 w hn c0 c1).mono ?_; rintro e w' ⟨rfl, hb⟩)
  all_goals
    go_ret
    refine ⟨ret_bool ?_, hb⟩
    clear hb c0 c1
    rw [Bool.eq_iff_iff]
    simp [brk] at *
    try omega
end Go.Proofs.Ybulkcjxe.lawS4294AModel
