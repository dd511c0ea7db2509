import Derived.Test.YbulkcjygAddB
import Derived.Deep.AppendLies
namespace Go.Proofs.Ybulkcjyg.Add
open Go.RowKit
set_option linter.unusedVariables false

/-! ### What a step may turn -/
structure Turn (X : Nat → Prop) (w w' : World) : Prop where
  os : w'.os = w.os
  tape : w'.tape = w.tape
  output : w'.output = w.output
  size : w.heap.size ≤ w'.heap.size
  block : ∀ b, b < w.heap.size → ¬ X b → w'.heap[b]? = w.heap[b]?
theorem Turn.refl (X : Nat → Prop) (w : World) : Turn X w w := ⟨rfl, rfl, rfl, Nat.le_refl _, fun _ _ _ => rfl⟩
theorem Turn.trans {X : Nat → Prop} {a b c : World} (h : Turn X a b) (k : Turn X b c) : Turn X a c :=
  ⟨k.os.trans h.os, k.tape.trans h.tape, k.output.trans h.output, Nat.le_trans h.size k.size, fun i hi hx => (k.block i (Nat.lt_of_lt_of_le hi h.size) hx).trans (h.block i hi hx)⟩
theorem Turn.wide {X Y : Nat → Prop} {a b : World} (h : Turn X a b) (hxy : ∀ i, X i → Y i) : Turn Y a b := ⟨h.os, h.tape, h.output, h.size, fun i hi hy => h.block i hi (fun hx => hy (hxy i hx))⟩
theorem Turn.alloc {X : Nat → Prop} {a w : World} (h : Turn X a w) (o : Obj) : Turn X a (w.alloc o) :=
  h.trans ⟨rfl, rfl, rfl, by simp, fun b hb _ => Below.heap_alloc _ _ _ hb⟩
theorem Turn.drew {X : Nat → Prop} {a w : World} (h : Turn X a w) : Turn X a w.drew := h.trans ⟨rfl, rfl, rfl, Nat.le_refl _, fun _ _ _ => rfl⟩
theorem Turn.set {X : Nat → Prop} {a w : World} (h : Turn X a w) (b i : Nat) (v : Value) (hb : X b) : Turn X a (w.setCell ⟨b, i, none⟩ v) :=
  h.trans ⟨rfl, rfl, rfl, by simp [World.setCell], fun c hc hx => Below.heap_setCell _ _ _ _ (by intro e; simp only at e; subst e; exact hx hb)⟩
/-- A store into a block that was not there at first. -/
theorem Turn.setNew {X : Nat → Prop} {a w : World} (h : Turn X a w) (b i : Nat) (v : Value) (hb : a.heap.size ≤ b) : Turn X a (w.setCell ⟨b, i, none⟩ v) :=
  ⟨h.os, h.tape, h.output, Nat.le_trans h.size (by simp [World.setCell]), fun c hc hx => (Below.heap_setCell _ _ _ _ (by simp only; omega)).trans (h.block c hc hx)⟩
theorem Turn.grown {X : Nat → Prop} {a w w' : World} {row : Option Nat} (h : Turn X a w) (hg : w.grownBy w' row) (hr : ∀ b, row = some b → X b) : Turn X a w' :=
  h.trans ⟨hg.os, hg.tape, hg.output, hg.size, fun b hb hx => hg.block b hb (fun e => hx (hr b e.symm))⟩
theorem Turn.setM {X : Nat → Prop} {a w : World} (h : Turn X a w) (b : Nat) (o : Obj) (hb : X b) : Turn X a (setM w b o) :=
  h.trans ⟨rfl, rfl, rfl, by rw [setM_size]; exact Nat.le_refl _, fun c hc hx => setM_other _ _ _ (by intro e; subst e; exact hx hb)⟩
theorem Turn.of_below {X : Nat → Prop} {a w w' : World} (h : Turn X a w) (hb : Below w.heap.size w w') : Turn X a w' :=
  h.trans ⟨hb.os, hb.tape, hb.output, hb.size, fun b hlt _ => hb.block b hlt⟩
theorem Turn.below {X : Nat → Prop} {a w : World} (h : Turn X a w) {B : Nat} (hB : B ≤ a.heap.size) (hx : ∀ b, X b → B ≤ b) : Below B a w :=
  ⟨h.os, h.tape, h.output, h.size, fun b hb => h.block b (by omega) (fun hh => by have := hx b hh; omega)⟩
theorem Turn.at {X : Nat → Prop} {a w : World} (h : Turn X a w) {b : Nat} {o : Obj} (hb : a.heap[b]? = some o) (hx : ¬ X b) : w.heap[b]? = some o := by rw [h.block b (blk_lt hb) hx]; exact hb

theorem ne_type {w : World} {a b : Nat} {c d : Array Value} {t u : TypeId} {f g : Nat × Nat} (ha : w.heap[a]? = some (.cells c t f)) (hb : w.heap[b]? = some (.cells d u g)) (h : t ≠ u) : a ≠ b := by
  intro e; subst e; rw [ha] at hb; simp at hb; exact h hb.2.1

/-! ### The blocks -/
def IsT (w : World) (T : Nat) (wt vp : Value) : Prop := ∃ c : Array Value, w.heap[T]? = some (.cells c 42 (0, 0)) ∧ c[4]? = some wt ∧ c[9]? = some vp
theorem IsT.of {w w' : World} {T : Nat} {wt vp : Value} (h : IsT w T wt vp) (e : w'.heap[T]? = w.heap[T]?) : IsT w' T wt vp := by unfold IsT at *; rw [e]; exact h
theorem IsT.lt {w : World} {T : Nat} {wt vp : Value} (h : IsT w T wt vp) : T < w.heap.size := by obtain ⟨c, h, _⟩ := h; exact blk_lt h
theorem IsT.c4 {w : World} {T : Nat} {wt vp : Value} (h : IsT w T wt vp) : w.cell? ⟨T, 4, none⟩ = some wt := by obtain ⟨c, h, h4, _⟩ := h; exact cell_blk h h4
theorem IsT.c9 {w : World} {T : Nat} {wt vp : Value} (h : IsT w T wt vp) : w.cell? ⟨T, 9, none⟩ = some vp := by obtain ⟨c, h, _, h4⟩ := h; exact cell_blk h h4
theorem IsT.frz {w : World} {T : Nat} {wt vp : Value} (h : IsT w T wt vp) (i : Nat) : w.frozen? ⟨T, i, none⟩ = false := by obtain ⟨c, h, _⟩ := h; exact frz_blk h i
theorem IsT.set9 {w : World} {T : Nat} {wt vp : Value} (h : IsT w T wt vp) (v : Value) : IsT (w.setCell ⟨T, 9, none⟩ v) T wt v := by
  obtain ⟨c, h, h4, h9⟩ := h
  have := (Array.getElem?_eq_some_iff.1 h9).1
  exact ⟨_, blk_set h 9 v, by simp [h4], by simp [this]⟩

theorem row_ne {w : World} {B : Nat} {e : TypeId} {size : Nat} {v : Value} {n : Nat} {xs : List Value} (h : w.ownsRow B e size v n xs) {b : Nat} {c : Array Value} {t : TypeId} {f : Nat × Nat} (hb : w.heap[b]? = some (.cells c t f)) (ht : t ≠ e) : some b ≠ v.ownBlock := by
  intro e1
  rcases h.2 with ⟨rfl, _⟩ | ⟨g, cap, cur, rfl, _, hg, _⟩
  · simp [Value.ownBlock] at e1
  · simp [Value.ownBlock] at e1; subst e1; rw [hg] at hb; simp at hb; exact ht hb.2.1.symm
theorem row_of {w w' : World} {B : Nat} {e : TypeId} {size : Nat} {v : Value} {n : Nat} {xs : List Value} (h : w.ownsRow B e size v n xs) (hk : ∀ b, v.ownBlock = some b → w'.heap[b]? = w.heap[b]?) : w'.ownsRow B e size v n xs := by
  refine ⟨h.1, ?_⟩
  rcases h.2 with hn | ⟨g, cap, cur, rfl, hb, hgg, rest⟩
  · exact .inl hn
  · exact .inr ⟨g, cap, cur, rfl, hb, by rw [hk g rfl]; exact hgg, rest⟩
theorem row_shape {w : World} {B : Nat} {e : TypeId} {size : Nat} {v : Value} {n : Nat} {xs : List Value} (h : w.ownsRow B e size v n xs) : ∃ o cap, v = .slice o n cap := by
  rcases h.2 with ⟨rfl, rfl⟩ | ⟨g, cap, cur, rfl, _⟩ <;> exact ⟨_, _, rfl⟩

theorem IsT.far {w w1 : World} {T : Nat} {wt vp : Value} (h : IsT w T wt vp) {B : Nat} {e : TypeId} {size : Nat} {v : Value} {n : Nat} {xs : List Value} (hown : w.ownsRow B e size v n xs) (he : (42 : Nat) ≠ e) (ht : Turn (fun b => v.ownBlock = some b) w w1) : IsT w1 T wt vp := by
  obtain ⟨c, hc, hr⟩ := h
  exact ⟨c, ht.at hc (fun h => row_ne hown hc he h.symm), hr⟩
theorem row_set {w : World} {B : Nat} {e : TypeId} {size : Nat} {v : Value} {n : Nat} {xs : List Value} (h : w.ownsRow B e size v n xs) {b : Nat} {c : Array Value} {t : TypeId} {f : Nat × Nat} (hb : w.heap[b]? = some (.cells c t f)) (ht : t ≠ e) (i : Nat) (u : Value) : (w.setCell ⟨b, i, none⟩ u).ownsRow B e size v n xs :=
  row_of h (fun x hx => Below.heap_setCell _ _ _ _ (by intro e1; simp only at e1; subst e1; exact row_ne h hb ht hx.symm))
theorem IsT.row {w : World} {T : Nat} {wt vp : Value} (h : IsT w T wt vp) {B : Nat} {e : TypeId} {size : Nat} {v : Value} {n : Nat} {xs : List Value} (hown : w.ownsRow B e size v n xs) (he : (42 : Nat) ≠ e) (u : Value) : (w.setCell ⟨T, 9, none⟩ u).ownsRow B e size v n xs := by
  obtain ⟨c, hc, hr⟩ := h
  exact row_set hown hc he 9 u
theorem blk_new2 (u : World) (o1 o2 : Obj) : ((u.alloc o1).alloc o2).drew.heap[u.heap.size + 1]? = some o2 := by
  have := blk_new (u.alloc o1) o2
  rw [show (u.alloc o1).heap.size = u.heap.size + 1 from by simp] at this
  exact this
theorem turn2 (X : Nat → Prop) (u : World) (o1 o2 : Obj) : Turn X u ((u.alloc o1).alloc o2).drew := ((Turn.refl X u).alloc _ |>.alloc _).drew
theorem i58 : ∃ i, Yba.prog.info? 58 = some i ∧ i.zero = some (.agg #[.pointer none, .pointer none, .int .u8 0, .int .u8 0, .int .u64 0]) ∧ i.size = 5 ∧ i.bytes = 32 := by
  have h : (Yba.prog.info? 58).map (fun i => (i.zero, i.size, i.bytes)) = some (some (.agg #[.pointer none, .pointer none, .int .u8 0, .int .u8 0, .int .u64 0]), 5, 32) := by kernel_rfl
  obtain ⟨i, hi, h⟩ := Option.map_eq_some_iff.1 h
  simp at h
  exact ⟨i, hi, h.1, h.2.1, h.2.2⟩
theorem i56 : ∃ i, Yba.prog.info? 56 = some i ∧ i.zero = some (.agg #[.pointer none, .int .u8 0, .int .u8 0, .int .u64 0]) ∧ i.size = 4 ∧ i.bytes = 24 := by
  have h : (Yba.prog.info? 56).map (fun i => (i.zero, i.size, i.bytes)) = some (some (.agg #[.pointer none, .int .u8 0, .int .u8 0, .int .u64 0]), 4, 24) := by kernel_rfl
  obtain ⟨i, hi, h⟩ := Option.map_eq_some_iff.1 h
  simp at h
  exact ⟨i, hi, h.1, h.2.1, h.2.2⟩

set_option maxHeartbeats 1600000 in
theorem park_any (B T Eb : Nat) (m k start : Int) (wt vp : Value) (np : Nat) (xp : List Value) (w : World) (hB : B ≤ w.heap.size)
    (hT : IsT w T wt vp) (hown : w.ownsRow B 58 5 vp np xp) (hnp : np < 4) :
    Calls Yba.prog 9 #[.pointer (some ⟨T, 0, none⟩), .pointer (some ⟨Eb, 0, none⟩), .agg #[.pointer (some ⟨T, 0, none⟩), .int .u8 m, .int .u8 k, .int .u64 start]] w fun e w' => e = .returned (.tuple #[]) ∧
      ∃ vp', IsT w' T wt vp' ∧ w'.ownsRow B 58 5 vp' (np + 1) (xp ++ [.pointer (some ⟨Eb, 0, none⟩), .pointer (some ⟨T, 0, none⟩), .int .u8 m, .int .u8 k, .int .u64 start]) ∧ Turn (fun b => b = T ∨ vp.ownBlock = some b) w w' := by
  have hlt := hT.lt
  obtain ⟨vo, vc, hv⟩ := row_shape hown
  subst hv
  have h9 := hT.c9
  have hf := hT.frz 9
  obtain ⟨i, hi, hz0, hz1, hz2⟩ := i58
  go_enter Yba.func9, Yba.ntmps9
  go_wp2
  go_region_law (refine step_append_lies _ rfl (.tmp 10) (.tmp 14) 40 rfl B 58 i _ 5 32 Yba.underlying40 hi hz0 hz1 hz2 rfl (by decide) (.slice vo np vc) np xp (by simp [Act.eval]) (row_of hown ?_) ⟨w.heap.size + 1, 0, none⟩ 1 1 [.pointer (some ⟨Eb, 0, none⟩), .pointer (some ⟨T, 0, none⟩), .int .u8 m, .int .u8 k, .int .u64 start] (by simp [Act.eval]) rfl ?_ ?_ (by decide) ?_ ?_ ?_ _ rfl ?_; (focus (intro b hb; exact (turn2 (fun _ => False) w _ _).block b (hown.lt b hb).2 (fun h => h))); (focus exact World.news_of_block (cs := #[.pointer (some ⟨Eb, 0, none⟩), .pointer (some ⟨T, 0, none⟩), .int .u8 m, .int .u8 k, .int .u64 start]) (t := 58) (fr := (0, 0)) (blk_new2 _ _ _)); (focus (intro u hu; simp at hu; rcases hu with rfl | rfl | rfl | rfl | rfl <;> rfl)); (focus (unfold maxLen; omega)); (focus omega); (focus exact Nat.le_trans hB (turn2 (fun _ => False) w _ _).size); intro g cap w1 hown1 hgrow hat hlt1; have ht1 := (turn2 (fun b => (Value.slice vo np vc).ownBlock = some b) w _ _).grown hgrow (fun b hb => hb); have hT1 := hT.far hown (by decide) ht1; have h9' := hT1.c9; have hf' := hT1.frz 9; have hlt2 := hT1.lt)
  all_goals
    go_end0
    exact ⟨rfl, _, hT1.set9 _, hT1.row hown1 (by decide) _, (ht1.wide (fun _ h => .inr h)).set T 9 _ (.inl rfl)⟩

/-! ### placed, putSearched -/
theorem neq79 (bm : Nat) (u : World) : (binOp .neq 79 (.map (some bm)) (.map none)).run Yba.prog u = .ok (.bool true) u := by
  rw [run_neq_map_nil (P := Yba.prog) u 79 54 78 (some bm) Yba.underlying79]
  rfl
set_option maxHeartbeats 1600000 in
theorem placed_none (E : Nat) (m k : Int) (w : World) (h : w.cell? ⟨E, 7, none⟩ = some (.pointer none)) :
    Calls Yba.prog 12 #[.pointer (some ⟨E, 0, none⟩), .agg #[.int .u8 m, .int .u8 k]] w fun e w' => e = .returned (.bool false) ∧ Below w.heap.size w w' := by
  have hE := World.block_lt_of_cell? w _ h
  simp only at hE
  go_enter Yba.func12, Yba.ntmps12
  go_wp2
  go_quiet (fail)
  go_wp2
  go_ret
  exact ⟨rfl, ((Below.refl _ _).alloc (Nat.le_refl _) _).trans (below_drewN _ _ _)⟩

set_option maxRecDepth 20000 in
set_option maxHeartbeats 1600000 in
theorem placed_some (E bc bm : Nat) (en : Bool) (m k : Int) (w : World) (h : w.cell? ⟨E, 7, none⟩ = some (.pointer (some ⟨bc, 0, none⟩))) (h18 : w.cell? ⟨bc, 18, none⟩ = some (.map (some bm))) (h2 : w.cell? ⟨E, 2, none⟩ = some (.bool en)) :
    Calls Yba.prog 12 #[.pointer (some ⟨E, 0, none⟩), .agg #[.int .u8 m, .int .u8 k]] w fun e w' => e = .returned (.bool (!en && (k == 1))) ∧ Below w.heap.size w w' := by
  have hE := World.block_lt_of_cell? w _ h
  have hbc := World.block_lt_of_cell? w _ h18
  simp only at hE hbc
  have hne : ∀ u : World, (binOp .neq 79 (.map (some bm)) (.map none)).run Yba.prog u = .ok (.bool true) u := fun u => neq79 bm u
  go_enter Yba.func12, Yba.ntmps12
  go_wp2
  go_region_with (go_at_call 15; refine (letGo_any en m k _).mono ?_; rintro e w1 ⟨rfl, hb1⟩)
  all_goals
    go_wp2
    go_ret
    exact ⟨rfl, ((Below.refl _ _).alloc (Nat.le_refl _) _).drew.trans (hb1.mono (by simp))⟩
end Go.Proofs.Ybulkcjyg.Add
