import Derived.Test.YbulkcjygAddC
namespace Go.Proofs.Ybulkcjyg.Add
open Go.RowKit
set_option linter.unusedVariables false

theorem OneIn.of {w w' : World} {b : Nat} {a : Addr} {m k : Int} {v : Value} (h : OneIn w b a m k v) (e : w'.heap[b]? = w.heap[b]?) : OneIn w' b a m k v := by
  obtain ⟨x, y, h⟩ := h; exact ⟨x, y, by rw [e]; exact h⟩
theorem OneIn.lt {w : World} {b : Nat} {a : Addr} {m k : Int} {v : Value} (h : OneIn w b a m k v) : b < w.heap.size := by
  obtain ⟨x, y, h⟩ := h; exact blk_lt h
theorem OneIn.ne {w : World} {b : Nat} {a : Addr} {m k : Int} {v : Value} (h : OneIn w b a m k v) {x : Nat} {c : Array Value} {t : TypeId} {f : Nat × Nat} (hx : w.heap[x]? = some (.cells c t f)) : x ≠ b := by
  obtain ⟨y, z, h⟩ := h; intro e; subst e; rw [h] at hx; cases hx

set_option maxHeartbeats 1600000 in
theorem putS_any (bc bm T : Nat) (m k x l : Int) (w : World) (c : Array Value) (hc : w.heap[bc]? = some (.cells c 84 (0, 0))) (h18 : c[18]? = some (.map (some bm)))
    (hm : OneIn w bm ⟨T, 0, none⟩ m k (.agg #[.int .i32 3, .int .i32 x])) (hl0 : 0 ≤ l) (hl1 : l < 100) :
    Calls Yba.prog 13 #[.pointer (some ⟨bc, 0, none⟩), .agg #[.pointer (some ⟨T, 0, none⟩), .int .u8 m, .int .u8 k], .int .i64 l] w fun e w' => e = .returned (.tuple #[]) ∧
      OneIn w' bm ⟨T, 0, none⟩ m k (.agg #[.int .i32 3, .int .i32 l]) ∧ Turn (fun b => b = bm) w w' := by
  have h1 := cell_blk hc h18
  have hlt := blk_lt hc
  have hlt2 := hm.lt
  have q1 : ∀ o1 : Obj, (Instr.lookup 79 (.map (some bm)) (.agg #[.pointer (some ⟨T, 0, none⟩), .int .u8 m, .int .u8 k]) true).run Yba.prog (w.alloc o1).drew = .ok (.tuple #[.agg #[.int .i32 3, .int .i32 x], .bool true]) (w.alloc o1).drew := fun o1 => run_lookup (hm.of ((Turn.refl (fun _ => False) w).alloc o1 |>.drew.block bm hlt2 (fun h => h)))
  have q2 : ∀ o1 o2 : Obj, (Instr.lookup 79 (.map (some bm)) (.agg #[.pointer (some ⟨T, 0, none⟩), .int .u8 m, .int .u8 k]) true).run Yba.prog ((w.alloc o1).alloc o2).drew = .ok (.tuple #[.agg #[.int .i32 3, .int .i32 x], .bool true]) ((w.alloc o1).alloc o2).drew := fun o1 o2 => run_lookup (hm.of ((turn2 (fun _ => False) w _ _).block bm hlt2 (fun h => h)))
  go_enter Yba.func13, Yba.ntmps13
  go_wp2
  go_region
  all_goals go_wp2
  have ht := (turn2 (fun b => b = bm) w (.cells #[.pointer (some ⟨T, 0, none⟩), .int .u8 m, .int .u8 k] 54) (.cells #[.int .i32 3, .int .i32 l] 78)).drew
  obtain ⟨o, q3, q4⟩ := run_update (hm.of (w' := ((w.alloc (.cells #[.pointer (some ⟨T, 0, none⟩), .int .u8 m, .int .u8 k] 54)).alloc (.cells #[.int .i32 3, .int .i32 l] 78)).drew.drew) ((turn2 (fun _ => False) w _ _).drew.block bm hlt2 (fun h => h))) (.agg #[.int .i32 3, .int .i32 l])
  go_region
  all_goals
    go_end0
    exact ⟨rfl, q4, ht.setM bm o rfl⟩

/-! ### put -/
def upd (V : Nat → Value) (i : Nat) (v : Value) : Nat → Value := fun j => if j = i then v else V j
theorem upd_at (V : Nat → Value) (i : Nat) (v : Value) : upd V i v i = v := by simp [upd]
theorem upd_ne (V : Nat → Value) {i j : Nat} (v : Value) (h : j ≠ i) : upd V i v j = V j := by simp [upd, h]
def updL (V : Nat → List Value) (i : Nat) (v : List Value) : Nat → List Value := fun j => if j = i then v else V j
def updN (V : Nat → Nat) (i : Nat) (v : Nat) : Nat → Nat := fun j => if j = i then v else V j

def IsS (w : World) (S : Nat) (V : Nat → Value) (g : Int) : Prop := ∃ c : Array Value, w.heap[S]? = some (.cells c 88 (0, 0)) ∧ c.size = 9 ∧ (∀ i, i < 8 → c[i]? = some (V i)) ∧ c[8]? = some (.int .u64 g)
theorem IsS.of {w w' : World} {S : Nat} {V : Nat → Value} {g : Int} (h : IsS w S V g) (e : w'.heap[S]? = w.heap[S]?) : IsS w' S V g := by unfold IsS at *; rw [e]; exact h
theorem IsS.lt {w : World} {S : Nat} {V : Nat → Value} {g : Int} (h : IsS w S V g) : S < w.heap.size := by obtain ⟨c, h, _⟩ := h; exact blk_lt h
theorem IsS.ci {w : World} {S : Nat} {V : Nat → Value} {g : Int} (h : IsS w S V g) {i : Nat} (hi : i < 8) : w.cell? ⟨S, i, none⟩ = some (V i) := by obtain ⟨c, h, _, h4, _⟩ := h; exact cell_blk h (h4 i hi)
theorem IsS.c8 {w : World} {S : Nat} {V : Nat → Value} {g : Int} (h : IsS w S V g) : w.cell? ⟨S, 8, none⟩ = some (.int .u64 g) := by obtain ⟨c, h, _, _, h4⟩ := h; exact cell_blk h h4
theorem IsS.frz {w : World} {S : Nat} {V : Nat → Value} {g : Int} (h : IsS w S V g) (i : Nat) : w.frozen? ⟨S, i, none⟩ = false := by obtain ⟨c, h, _⟩ := h; exact frz_blk h i
theorem IsS.set {w : World} {S : Nat} {V : Nat → Value} {g : Int} (h : IsS w S V g) {i : Nat} (hi : i < 8) (v : Value) : IsS (w.setCell ⟨S, i, none⟩ v) S (upd V i v) g := by
  obtain ⟨c, h, hs, h4, h9⟩ := h
  refine ⟨_, blk_set h i v, by simp [hs], fun j hj => ?_, ?_⟩
  · by_cases e : j = i
    · subst e; rw [upd_at]; exact (Array.getElem?_setIfInBounds_self_of_lt (by omega))
    · rw [upd_ne _ _ e, Array.getElem?_setIfInBounds_ne (by omega)]; exact h4 j hj
  · rw [Array.getElem?_setIfInBounds_ne (by omega)]; exact h9
theorem IsS.set8 {w : World} {S : Nat} {V : Nat → Value} {g : Int} (h : IsS w S V g) (g' : Int) : IsS (w.setCell ⟨S, 8, none⟩ (.int .u64 g')) S V g' := by
  obtain ⟨c, h, hs, h4, h9⟩ := h
  refine ⟨_, blk_set h 8 _, by simp [hs], fun j hj => ?_, ?_⟩
  · rw [Array.getElem?_setIfInBounds_ne (by omega)]; exact h4 j hj
  · simp [hs]
theorem IsS.far {w w1 : World} {S : Nat} {V : Nat → Value} {gg : Int} (h : IsS w S V gg) {B : Nat} {e : TypeId} {size : Nat} {v : Value} {n : Nat} {xs : List Value} (hown : w.ownsRow B e size v n xs) (he : (88 : Nat) ≠ e) (ht : Turn (fun b => v.ownBlock = some b) w w1) : IsS w1 S V gg := by
  obtain ⟨c, hc, hr⟩ := h
  exact ⟨c, ht.at hc (fun h => row_ne hown hc he h.symm), hr⟩
theorem IsS.row {w : World} {S : Nat} {V : Nat → Value} {gg : Int} (h : IsS w S V gg) {B : Nat} {e : TypeId} {size : Nat} {v : Value} {n : Nat} {xs : List Value} (hown : w.ownsRow B e size v n xs) (he : (88 : Nat) ≠ e) (i : Nat) (u : Value) : (w.setCell ⟨S, i, none⟩ u).ownsRow B e size v n xs := by
  obtain ⟨c, hc, hr⟩ := h
  exact row_set hown hc he i u

/-- The eight rows, each owned, no two in one block. -/
def Rows (w : World) (B : Nat) (V : Nat → Value) (f : Nat → Nat) (xs : Nat → List Value) : Prop :=
  (∀ i, i < 8 → w.ownsRow B 56 4 (V i) (f i) (xs i)) ∧ ∀ i j, i < 8 → j < 8 → i ≠ j → ∀ b, (V i).ownBlock = some b → (V j).ownBlock ≠ some b
theorem Rows.of {w w' : World} {B : Nat} {V : Nat → Value} {f : Nat → Nat} {xs : Nat → List Value} (h : Rows w B V f xs) (hk : ∀ i b, i < 8 → (V i).ownBlock = some b → w'.heap[b]? = w.heap[b]?) : Rows w' B V f xs :=
  ⟨fun i hi => row_of (h.1 i hi) (fun b hb => hk i b hi hb), h.2⟩
/-- One of the rows has grown. -/
theorem Rows.grow {w w1 : World} {B : Nat} {V : Nat → Value} {f : Nat → Nat} {xs : Nat → List Value} (h : Rows w B V f xs) {t : Nat} (ht : t < 8) {g cap n' : Nat} {xs' : List Value} (hown : w1.ownsRow B 56 4 (.slice (some ⟨g, 0, none⟩) n' cap) n' xs')
    (hk : Turn (fun b => (V t).ownBlock = some b) w w1) (hat : (V t).ownBlock = some g ∨ w.heap.size ≤ g) : Rows w1 B (upd V t (.slice (some ⟨g, 0, none⟩) n' cap)) (updN f t n') (updL xs t xs') := by
  have hne : ∀ j, j < 8 → j ≠ t → (V j).ownBlock ≠ some g := by
    intro j hj hjt hb
    rcases hat with h1 | h1
    · exact h.2 t j ht hj (Ne.symm hjt) g h1 hb
    · have := ((h.1 j hj).lt g hb).2; omega
  refine ⟨fun i hi => ?_, fun i j hi hj hij b hb => ?_⟩
  · by_cases e : i = t
    · subst e; simp only [upd, updN, updL, if_pos]; exact hown
    · simp only [upd, updN, updL, if_neg e]
      exact row_of (h.1 i hi) (fun b hb => hk.block b ((h.1 i hi).lt b hb).2 (fun hx => h.2 i t hi ht e b hb hx))
  · by_cases ei : i = t
    · subst ei
      rw [upd_at] at hb
      simp [Value.ownBlock] at hb
      subst hb
      rw [upd_ne _ _ (Ne.symm hij)]
      exact hne j hj (Ne.symm hij)
    · rw [upd_ne _ _ ei] at hb
      by_cases ej : j = t
      · subst ej; rw [upd_at]; simp [Value.ownBlock]; intro e; subst e; exact hne i hi ei hb
      · rw [upd_ne _ _ ej]; exact h.2 i j hi hj hij b hb
end Go.Proofs.Ybulkcjyg.Add
