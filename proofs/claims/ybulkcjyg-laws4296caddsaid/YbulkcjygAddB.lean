import Derived.Test.YbulkcjygAddA
import Derived.Laws.BitsAllLaws
import Derived.Deep.RegionLaw
namespace Go.Proofs.Ybulkcjyg.Add
open Go.RowKit
set_option linter.unusedVariables false

theorem below_drewN (B : Nat) (w : World) : ∀ n, Below B w (w.drewN n)
  | 0 => Below.refl _ _
  | n + 1 => (below_drewN B w n).drew
theorem heap_drewN (w : World) : ∀ n, (w.drewN n).heap = w.heap
  | 0 => rfl
  | n + 1 => heap_drewN w n
theorem blk_lt {w : World} {b : Nat} {o : Obj} (h : w.heap[b]? = some o) : b < w.heap.size := (Array.getElem?_eq_some_iff.1 h).1
theorem blk_below {W w1 : World} {b : Nat} {o : Obj} (hb : Below W.heap.size W w1) (h : W.heap[b]? = some o) : w1.heap[b]? = some o := by rw [hb.block _ (blk_lt h)]; exact h
theorem blk_new (w : World) (o : Obj) : (w.alloc o).heap[w.heap.size]? = some o := Go.Deep.blk_alloc_new _ _
theorem blk_past {w : World} {b : Nat} {o : Obj} (h : w.heap[b]? = some o) (o' : Obj) : (w.alloc o').heap[b]? = some o := by rw [Below.heap_alloc _ _ _ (blk_lt h)]; exact h
theorem blk_set {w : World} {b : Nat} {c : Array Value} {t : TypeId} {f : Nat × Nat} (h : w.heap[b]? = some (.cells c t f)) (i : Nat) (v : Value) : (w.setCell ⟨b, i, none⟩ v).heap[b]? = some (.cells (c.setIfInBounds i v) t f) := by
  simp [World.setCell, Array.getElem?_modify, h]
theorem blk_other {w : World} {b : Nat} {o : Obj} (h : w.heap[b]? = some o) {a : Addr} (hne : b ≠ a.block) (v : Value) : (w.setCell a v).heap[b]? = some o := by rw [Below.heap_setCell _ _ _ _ hne]; exact h
theorem cell_blk {w : World} {b i : Nat} {c : Array Value} {t : TypeId} {f : Nat × Nat} {v : Value} (h : w.heap[b]? = some (.cells c t f)) (hv : c[i]? = some v) : w.cell? ⟨b, i, none⟩ = some v := by simp [World.cell?, h, hv]
theorem frz_blk {w : World} {b : Nat} {c : Array Value} {t : TypeId} (h : w.heap[b]? = some (.cells c t (0, 0))) (i : Nat) : w.frozen? ⟨b, i, none⟩ = false := by simp [World.frozen?, h]

/-- NOTHING OLD HAS TURNED BUT BLOCKS OF FIVE KINDS (txLocks, searchedHolders, the two sorts of grants, the queue) AND MAPS. -/
def Keep (w w' : World) : Prop := ∀ (b : Nat) (c : Array Value) (t : TypeId) (f : Nat × Nat), w.heap[b]? = some (Obj.cells c t f) → t ≠ 42 → t ≠ 88 → t ≠ 58 → t ≠ 56 → t ≠ 76 → w'.heap[b]? = some (Obj.cells c t f)
theorem Keep.refl (w : World) : Keep w w := fun _ _ _ _ h _ _ _ _ _ => h
theorem Keep.trans {a b c : World} (h : Keep a b) (k : Keep b c) : Keep a c := fun x cs t f hx h1 h2 h3 h4 h5 => k x cs t f (h x cs t f hx h1 h2 h3 h4 h5) h1 h2 h3 h4 h5
theorem Keep.of_below {w w' : World} (h : Below w.heap.size w w') : Keep w w' := fun b c t f hx _ _ _ _ _ => blk_below h hx
theorem Keep.alloc {a w : World} (h : Keep a w) (o : Obj) : Keep a (w.alloc o) := h.trans (fun b c t f hx _ _ _ _ _ => blk_past hx o)
theorem Keep.drew {a w : World} (h : Keep a w) : Keep a w.drew := h
theorem Keep.set {a w : World} (h : Keep a w) {x : Nat} {cs : Array Value} {t' : TypeId} {f' : Nat × Nat} (hx : w.heap[x]? = some (.cells cs t' f')) (ht : t' = 42 ∨ t' = 88 ∨ t' = 58 ∨ t' = 56 ∨ t' = 76) (i : Nat) (v : Value) : Keep a (w.setCell ⟨x, i, none⟩ v) :=
  h.trans (fun b c t f hb h1 h2 h3 h4 h5 => blk_other hb (by
    intro e; simp only at e; subst e; rw [hx] at hb; simp at hb
    obtain ⟨_, rfl, _⟩ := hb
    rcases ht with h | h | h | h | h <;> contradiction) v)

/-! ### The small functions -/
theorem typ_bits (m k : Int) (hm0 : 0 ≤ m) (hm1 : m < 2) (hk0 : 0 ≤ k) (hk1 : k < 4) : bits BinOp.or IntKind.u8 (k * 2) m = k * 2 + m := by
  obtain ⟨m, rfl⟩ := Int.eq_ofNat_of_zero_le hm0
  obtain ⟨k, rfl⟩ := Int.eq_ofNat_of_zero_le hk0
  have h : ∀ (a : Fin 4) (b : Fin 2), (a.val * 2) ||| b.val = a.val * 2 + b.val := by decide
  have := h ⟨k, by omega⟩ ⟨m, by omega⟩
  simp only at this
  rw [show ((k : Int) * 2) = ((k * 2 : Nat) : Int) from by omega, u8_or_nat (k * 2) m (by omega) (by omega), this]
  omega

set_option maxHeartbeats 400000 in
theorem typeOf_any (m k : Int) (hm0 : 0 ≤ m) (hm1 : m < 2) (hk0 : 0 ≤ k) (hk1 : k < 4) (w : World) :
    Calls Yba.prog 11 #[.agg #[.int .u8 m, .int .u8 k]] w fun e w' => e = .returned (.int .u8 (k * 2 + m)) ∧ Below w.heap.size w w' := by
  have h := typ_bits m k hm0 hm1 hk0 hk1
  go_enter Yba.func11, Yba.ntmps11
  go_wp2
  go_ret
  exact ⟨by simp, (Below.refl _ _).alloc (Nat.le_refl _) _⟩

set_option maxHeartbeats 400000 in
theorem letGo_any (en : Bool) (m k : Int) (w : World) :
    Calls Yba.prog 15 #[.bool en, .agg #[.int .u8 m, .int .u8 k]] w fun e w' => e = .returned (.bool (!en && (k == 1))) ∧ Below w.heap.size w w' := by
  cases en
  all_goals
    go_enter Yba.func15, Yba.ntmps15
    go_wp2
    go_ret
    exact ⟨by simp, (Below.refl _ _).alloc (Nat.le_refl _) _⟩

set_option maxHeartbeats 400000 in
theorem forgetKept_any (b o : Nat) (w : World) (h : w.cell? ⟨b, o, none⟩ = some (.pointer none)) :
    Calls Yba.prog 16 #[.pointer (some ⟨b, o, none⟩)] w fun e w' => e = .returned (.tuple #[]) ∧ w' = w := by
  go_enter Yba.func16, Yba.ntmps16
  go_wp2
  go_end0
  exact ⟨rfl, rfl⟩

set_option maxHeartbeats 400000 in
theorem forget_any (b o : Nat) (w : World) (h : w.cell? ⟨b, o, none⟩ = some (.slice none 0 0)) (hf : w.frozen? ⟨b, o, none⟩ = false) :
    Calls Yba.prog 17 #[.pointer (some ⟨b, o, none⟩)] w fun e w' => e = .returned (.tuple #[]) ∧ w' = w.setCell ⟨b, o, none⟩ (.slice none 0 0) := by
  go_enter Yba.func17, Yba.ntmps17
  go_wp2
  refine wp_loop_rounds 1 ?_
  rw [rounds_succ]; go_wp2
  go_end0
  exact ⟨rfl, rfl⟩

set_option maxHeartbeats 400000 in
theorem found_no (E : Nat) (w : World) (h : w.cell? ⟨E, 8, none⟩ = some (.pointer none)) :
    Calls Yba.prog 14 #[.pointer (some ⟨E, 0, none⟩)] w fun e w' => e = .returned (.tuple #[]) ∧ w' = w := by
  go_enter Yba.func14, Yba.ntmps14
  go_wp2
  go_end0
  exact ⟨rfl, rfl⟩

set_option maxHeartbeats 400000 in
theorem found_yes (E bq : Nat) (w : World) (h : w.cell? ⟨E, 8, none⟩ = some (.pointer (some ⟨bq, 0, none⟩))) (h1 : w.cell? ⟨bq, 35, none⟩ = some (.pointer none)) (h2 : w.cell? ⟨bq, 36, none⟩ = some (.slice none 0 0)) (hf : w.frozen? ⟨bq, 36, none⟩ = false) :
    Calls Yba.prog 14 #[.pointer (some ⟨E, 0, none⟩)] w fun e w' => e = .returned (.tuple #[]) ∧ w' = w.setCell ⟨bq, 36, none⟩ (.slice none 0 0) := by
  go_enter Yba.func14, Yba.ntmps14
  go_wp2_with (first
    | (go_at_call 16; refine (forgetKept_any bq 35 w h1).mono ?_; rintro e w' ⟨rfl, rfl⟩)
    | (go_at_call 17; refine (forget_any bq 36 _ h2 hf).mono ?_; rintro e w2 ⟨rfl, rfl⟩))
  go_end0
  exact ⟨rfl, rfl⟩
end Go.Proofs.Ybulkcjyg.Add
