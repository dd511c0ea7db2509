import Derived.Test.YbulkcjygAddG
namespace Go.Proofs.Ybulkcjyg.Add
open Go.RowKit
set_option linter.unusedVariables false

/-! ### What the law builds -/
def WtOk (b : Bool) (wt : Value) : Prop := (b = false ∧ wt = .pointer none) ∨ (b = true ∧ ∃ br, wt = .pointer (some ⟨br, 0, none⟩))
def pk : Nat → List Value
  | 0 => []
  | n + 1 => pk n ++ [.pointer none, .pointer none, .int .u8 0, .int .u8 0, .int .u64 (100 + n)]
def gr : Nat → List Value
  | 0 => []
  | n + 1 => gr n ++ [.pointer none, .int .u8 0, .int .u8 0, .int .u64 n]
theorem pk_len : ∀ n, (pk n).length = n * 5
  | 0 => rfl
  | n + 1 => by simp [pk, pk_len n]; omega
theorem gr_len : ∀ n, (gr n).length = n * 4
  | 0 => rfl
  | n + 1 => by simp [gr, gr_len n]; omega
theorem pk_at : ∀ n j, j < n → (pk n)[j * 5]? = some (.pointer none) ∧ (pk n)[j * 5 + 4]? = some (.int .u64 (100 + j))
  | 0, j, h => by omega
  | n + 1, j, h => by
    have hl := pk_len n
    by_cases e : j < n
    · have ih := pk_at n j e
      rw [pk, List.getElem?_append_left (by omega), List.getElem?_append_left (by omega)]
      exact ih
    · obtain rfl : j = n := by omega
      rw [pk, List.getElem?_append_right (by omega), List.getElem?_append_right (by omega), hl, Nat.sub_self, Nat.add_sub_cancel_left]
      exact ⟨rfl, rfl⟩
theorem gr_at : ∀ n j, j < n → (gr n)[j * 4]? = some (.pointer none) ∧ (gr n)[j * 4 + 3]? = some (.int .u64 j)
  | 0, j, h => by omega
  | n + 1, j, h => by
    have hl := gr_len n
    by_cases e : j < n
    · have ih := gr_at n j e
      rw [gr, List.getElem?_append_left (by omega), List.getElem?_append_left (by omega)]
      exact ih
    · obtain rfl : j = n := by omega
      rw [gr, List.getElem?_append_right (by omega), List.getElem?_append_right (by omega), hl, Nat.sub_self, Nat.add_sub_cancel_left]
      exact ⟨rfl, rfl⟩
theorem row_cell {w : World} {B : Nat} {e : TypeId} {size : Nat} {g n cap : Nat} {xs : List Value} (h : w.ownsRow B e size (.slice (some ⟨g, 0, none⟩) n cap) n xs) {i : Nat} {u : Value} (hu : xs[i]? = some u) : w.cell? ⟨g, i, none⟩ = some u := by
  have := h.cells (g := g) rfl i u hu
  rwa [show (⟨g, 0, none⟩ : Addr).add i = ⟨g, i, none⟩ from by unfold Addr.add; split <;> simp_all] at this

/-! ### add, all ways at once -/
def isSkip (k : Int) : Bool := decide (k = 3)
def isPark (k : Int) (wb : Bool) : Bool := !isSkip k && !wb
def isPut (k : Int) (wb : Bool) : Bool := !isSkip k && wb
def xA (k : Int) (wb cr en : Bool) (n : Nat) : Int := bif isPut k wb && plc cr en k then (n : Int) else -1
def nA (k : Int) (wb : Bool) (np : Nat) : Nat := bif isPark k wb then np + 1 else np
def xpA (k : Int) (wb : Bool) (xp l : List Value) : List Value := bif isPark k wb then xp ++ l else xp
def fA (k : Int) (wb : Bool) (f : Nat → Nat) (typ : Nat) : Nat → Nat := bif isPut k wb then updN f typ (f typ + 1) else f
def xsA (k : Int) (wb : Bool) (xs : Nat → List Value) (typ : Nat) (l : List Value) : Nat → List Value := bif isPut k wb then updL xs typ (xs typ ++ l) else xs

theorem add_all (B T E S : Nat) (wt : Value) (wb en cr qu : Bool) (m k g : Int) (np : Nat) (xp : List Value) (f : Nat → Nat) (xs : Nat → List Value) (typ : Nat) (w : World) (h : St B w T E S wt en cr qu m k (-1) g np xp f xs) (hwt : WtOk wb wt)
    (hm0 : 0 ≤ m) (hm1 : m < 2) (hk0 : 0 ≤ k) (hk1 : k < 4) (htyp : k * 2 + m = typ) (hft : f typ < 5) (hnp : np < 4) :
    Calls Yba.prog 8 #[.pointer (some ⟨S, 0, none⟩), .pointer (some ⟨E, 0, none⟩), .agg #[.pointer (some ⟨T, 0, none⟩), .int .u8 m, .int .u8 k]] w fun e w' => e = .returned (.tuple #[]) ∧
      St B w' T E S wt en cr qu m k (xA k wb cr en (f typ)) (IntKind.u64.wrap (g + 1)) (nA k wb np) (xpA k wb xp (pcells E T m k g)) (fA k wb f typ) (xsA k wb xs typ (gcells T m k g)) ∧ Trn B [88, 56, 76, 1000, 42, 58] w w' := by
  by_cases hk : k = 3
  · subst hk
    exact add_skip B T E S wt en cr qu m (-1) g np xp f xs w h
  · have hs : isSkip k = false := by simp [isSkip, hk]
    rcases hwt with ⟨rfl, rfl⟩ | ⟨rfl, br, rfl⟩
    · have := add_park B T E S en cr qu m k (-1) g np xp f xs w h hk hnp
      simpa only [xA, nA, xpA, fA, xsA, isPark, isPut, hs, Bool.not_false, Bool.and_true, Bool.and_false, Bool.false_and, cond_true, cond_false] using this
    · have := add_put B T E S br en cr qu m k (-1) g np xp f xs typ w h hk hm0 hm1 hk0 hk1 htyp hft
      simpa only [xA, nA, xpA, fA, xsA, isPark, isPut, hs, Bool.not_false, Bool.not_true, Bool.and_true, Bool.true_and, Bool.and_false, Bool.false_and, cond_true, cond_false] using this
end Go.Proofs.Ybulkcjyg.Add
