import Derived.Test.YbulkcjziBase
import Derived.Deep.OwnRows
namespace Go.Proofs.Ybulkcjzi.Base
open Go.RowKit
set_option linter.unusedVariables false

theorem bcell {W w1 : World} (hb : Below W.heap.size W w1) : (∀ b o, b < W.heap.size → w1.cell? ⟨b, o, none⟩ = W.cell? ⟨b, o, none⟩) ∧ (∀ b o, b < W.heap.size → w1.frozen? ⟨b, o, none⟩ = W.frozen? ⟨b, o, none⟩) :=
  ⟨fun b o h => hb.cell (p := ⟨b, o, none⟩) h, fun b o h => hb.frozen (p := ⟨b, o, none⟩) h⟩

theorem blk_set {w : World} {b : Nat} {c : Array Value} {t : TypeId} {f : Nat × Nat} (h : w.heap[b]? = some (.cells c t f)) (i : Nat) (v : Value) : (w.setCell ⟨b, i, none⟩ v).heap[b]? = some (.cells (c.setIfInBounds i v) t f) := by
  simp [World.setCell, Array.getElem?_modify, h]
theorem blk_lt {w : World} {b : Nat} {o : Obj} (h : w.heap[b]? = some o) : b < w.heap.size := (Array.getElem?_eq_some_iff.1 h).1

/-- A block of eight cells, said cell by cell. -/
theorem eight {w : World} {b : Nat} {v0 v1 v2 v3 v4 v5 v6 v7 : Value} {t : TypeId} (h : w.heap[b]? = some (.cells #[v0, v1, v2, v3, v4, v5, v6, v7] t (0, 0))) :
    (w.cell? ⟨b, 0, none⟩ = some v0 ∧ w.cell? ⟨b, 1, none⟩ = some v1 ∧ w.cell? ⟨b, 2, none⟩ = some v2 ∧ w.cell? ⟨b, 3, none⟩ = some v3 ∧ w.cell? ⟨b, 4, none⟩ = some v4 ∧ w.cell? ⟨b, 5, none⟩ = some v5 ∧ w.cell? ⟨b, 6, none⟩ = some v6 ∧ w.cell? ⟨b, 7, none⟩ = some v7) ∧ ∀ o, w.frozen? ⟨b, o, none⟩ = false :=
  ⟨⟨by simp [World.cell?, h], by simp [World.cell?, h], by simp [World.cell?, h], by simp [World.cell?, h], by simp [World.cell?, h], by simp [World.cell?, h], by simp [World.cell?, h], by simp [World.cell?, h]⟩, fun o => by simp [World.frozen?, h]⟩

theorem after_policy {w w1 : World} {v0 v1 v2 v3 v4 v5 v6 v7 : Value} {cB : Array Value} (hb : Below ((w.alloc (.cells #[v0, v1, v2, v3, v4, v5, v6, v7] 45)).alloc (.cells cB 45)).heap.size ((w.alloc (.cells #[v0, v1, v2, v3, v4, v5, v6, v7] 45)).alloc (.cells cB 45)) w1) :
    w1.heap[w.heap.size]? = some (.cells #[v0, v1, v2, v3, v4, v5, v6, v7] 45 (0, 0)) ∧ w1.heap[w.heap.size + 1]? = some (.cells cB 45 (0, 0)) ∧ Below w.heap.size w w1 := by
  refine ⟨?_, ?_, ?_⟩
  · rw [hb.block _ (by simp; omega), Below.heap_alloc _ _ _ (by simp)]; exact Go.Deep.blk_alloc_new _ _
  · rw [hb.block _ (by simp)]
    have := Go.Deep.blk_alloc_new (w.alloc (.cells #[v0, v1, v2, v3, v4, v5, v6, v7] 45)) (.cells cB 45)
    simpa using this
  · exact (((Below.refl _ _).alloc (Nat.le_refl _) _).alloc (by simp) _).trans (hb.mono (by simp; omega))

/-- What is known of the world in the middle of resolve: block N the child, block N + 1 the result's variable. -/
def Mid (N : Nat) (w w1 : World) (c cB : Array Value) : Prop := w1.heap[N]? = some (.cells c 45 (0, 0)) ∧ w1.heap[N + 1]? = some (.cells cB 45 (0, 0)) ∧ Below N w w1
theorem Mid.set {N : Nat} {w w1 : World} {c cB : Array Value} (h : Mid N w w1 c cB) (i : Nat) (v : Value) : Mid N w (w1.setCell ⟨N, i, none⟩ v) (c.setIfInBounds i v) cB :=
  ⟨blk_set h.1 i v, by rw [Below.heap_setCell _ _ _ _ (by simp)]; exact h.2.1, h.2.2.setCell (Nat.le_refl _) _⟩
theorem Mid.alloc {N : Nat} {w w1 : World} {c cB : Array Value} (h : Mid N w w1 c cB) (o : Obj) : Mid N w (w1.alloc o) c cB :=
  ⟨by rw [Below.heap_alloc _ _ _ (blk_lt h.1)]; exact h.1, by rw [Below.heap_alloc _ _ _ (blk_lt h.2.1)]; exact h.2.1, h.2.2.alloc (by have := blk_lt h.1; omega) _⟩

def sdf (sd : Int) (sup : Bool) : Int := if sd = 0 then (if sup then -1 else 5000000000) else sd

set_option maxRecDepth 100000 in
set_option maxHeartbeats 1000000 in
theorem resolve_nz (bs : Nat) (nm : ByteArray) (r d sd st : Int) (sig sup sn : Bool) (w : World) (hd : w.cell? ⟨bs, 4, none⟩ = some (.int .i64 d)) (h0 : (sd == 0) = false) :
    Calls Yba.prog 6 #[.pointer (some ⟨bs, 0, none⟩), .agg #[.string nm, .nilFunc, .int .i64 r, .int .i64 sd, .bool sig, .int .i64 st, .bool sup, .bool sn]] w fun e w' =>
      e = .returned (.agg #[.string nm, .nilFunc, .int .i64 (orf r (orf d 2)), .int .i64 sd, .bool (sig || sup), .int .i64 st, .bool sup, .bool sn]) ∧ Below w.heap.size w w' := by
  have hbs := World.block_lt_of_cell? w _ hd
  have hd' : ∀ o o', ((w.alloc o).alloc o').cell? ⟨bs, 4, none⟩ = some (.int .i64 d) := fun o o' => by
    rw [World.cell?_alloc_past _ _ _ (by simp at hbs ⊢; omega), World.cell?_alloc_past _ _ _ hbs]; exact hd
  have HO : Hid (orf sd 5000000000 = sd) := by show orf sd 5000000000 = sd; unfold orf; rw [if_neg (by simpa using h0)]
  go_enter Yba.func6, Yba.ntmps6
  go_wp2_with (first
    | (go_at_call 8; refine (policy_any bs nm r d sd st sig sup sn _ (hd' _ _)).mono ?_; rintro e w1 ⟨rfl, hb⟩; have hm : Mid w.heap.size w w1 _ _ := after_policy hb; clear hb hd' hd; obtain ⟨⟨q0, q1, q2, q3, q4, q5, q6, q7⟩, qf⟩ := eight hm.1; have hz : w.heap.size + 1 < w1.heap.size := blk_lt hm.2.1; have hz0 : w.heap.size < w1.heap.size := (by omega))
    | (go_at_call 9; refine (or2_any _ sd 5000000000 _ ?_ ?_).mono ?_; (focus (simp [go_sem])); (focus (simp [go_sem])); rw [HO.out]; rintro e w2 ⟨rfl, hw2⟩; have hm2 := (hm.set 2 (.int .i64 (orf r (orf d 2)))).alloc (.cells #[.int .i64 sd, .int .i64 5000000000] 43); rw [← hw2] at hm2; obtain ⟨f1, f2, f3⟩ := hm2; simp only [List.setIfInBounds_toArray, List.set_cons_succ, List.set_cons_zero] at f1; clear hw2 hz hz0 hm q0 q1 q2 q3 q4 q5 q6 q7 qf; obtain ⟨⟨q0, q1, q2, q3, q4, q5, q6, q7⟩, qf⟩ := eight f1; obtain ⟨⟨s0, s1, s2, s3, s4, s5, s6, s7⟩, sf⟩ := eight f2; clear f1 f2))
  all_goals
    refine bodyPost_ret (v := .agg #[.string nm, .nilFunc, .int .i64 (orf r (orf d 2)), .int .i64 sd, .bool (sig || sup), .int .i64 st, .bool sup, .bool sn]) ?_ rfl ⟨rfl, ?_⟩
    · simp [results, Yba.results6, go_sem, *]
    · repeat (refine Below.setCell ?_ (by simp) _)
      exact f3
set_option maxRecDepth 100000 in
set_option maxHeartbeats 1000000 in
theorem resolve_zf (bs : Nat) (nm : ByteArray) (r d st : Int) (sig sn : Bool) (w : World) (hd : w.cell? ⟨bs, 4, none⟩ = some (.int .i64 d)) :
    Calls Yba.prog 6 #[.pointer (some ⟨bs, 0, none⟩), .agg #[.string nm, .nilFunc, .int .i64 r, .int .i64 0, .bool sig, .int .i64 st, .bool false, .bool sn]] w fun e w' =>
      e = .returned (.agg #[.string nm, .nilFunc, .int .i64 (orf r (orf d 2)), .int .i64 5000000000, .bool (sig || false), .int .i64 st, .bool false, .bool sn]) ∧ Below w.heap.size w w' := by
  have hbs := World.block_lt_of_cell? w _ hd
  have hd' : ∀ o o', ((w.alloc o).alloc o').cell? ⟨bs, 4, none⟩ = some (.int .i64 d) := fun o o' => by
    rw [World.cell?_alloc_past _ _ _ (by simp at hbs ⊢; omega), World.cell?_alloc_past _ _ _ hbs]; exact hd
  have HO : Hid (orf 0 5000000000 = 5000000000) := rfl
  go_enter Yba.func6, Yba.ntmps6
  go_wp2_with (first
    | (go_at_call 8; refine (policy_any bs nm r d 0 st sig false sn _ (hd' _ _)).mono ?_; rintro e w1 ⟨rfl, hb⟩; have hm : Mid w.heap.size w w1 _ _ := after_policy hb; clear hb hd' hd; obtain ⟨⟨q0, q1, q2, q3, q4, q5, q6, q7⟩, qf⟩ := eight hm.1; have hz : w.heap.size + 1 < w1.heap.size := blk_lt hm.2.1; have hz0 : w.heap.size < w1.heap.size := (by omega))
    | (go_at_call 9; refine (or2_any _ 0 5000000000 _ ?_ ?_).mono ?_; (focus (simp [go_sem])); (focus (simp [go_sem])); rw [HO.out]; rintro e w2 ⟨rfl, hw2⟩; have hm2 := (hm.set 2 (.int .i64 (orf r (orf d 2)))).alloc (.cells #[.int .i64 0, .int .i64 5000000000] 43); rw [← hw2] at hm2; obtain ⟨f1, f2, f3⟩ := hm2; simp only [List.setIfInBounds_toArray, List.set_cons_succ, List.set_cons_zero] at f1; clear hw2 hz hz0 hm q0 q1 q2 q3 q4 q5 q6 q7 qf; obtain ⟨⟨q0, q1, q2, q3, q4, q5, q6, q7⟩, qf⟩ := eight f1; obtain ⟨⟨s0, s1, s2, s3, s4, s5, s6, s7⟩, sf⟩ := eight f2; clear f1 f2))
  all_goals
    refine bodyPost_ret (v := .agg #[.string nm, .nilFunc, .int .i64 (orf r (orf d 2)), .int .i64 5000000000, .bool (sig || false), .int .i64 st, .bool false, .bool sn]) ?_ rfl ⟨rfl, ?_⟩
    · simp [results, Yba.results6, go_sem, *]
    · repeat (refine Below.setCell ?_ (by simp) _)
      exact f3
set_option maxRecDepth 100000 in
set_option maxHeartbeats 1000000 in
theorem resolve_zt (bs : Nat) (nm : ByteArray) (r d st : Int) (sig sn : Bool) (w : World) (hd : w.cell? ⟨bs, 4, none⟩ = some (.int .i64 d)) :
    Calls Yba.prog 6 #[.pointer (some ⟨bs, 0, none⟩), .agg #[.string nm, .nilFunc, .int .i64 r, .int .i64 0, .bool sig, .int .i64 st, .bool true, .bool sn]] w fun e w' =>
      e = .returned (.agg #[.string nm, .nilFunc, .int .i64 (orf r (orf d 2)), .int .i64 (-1), .bool (sig || true), .int .i64 st, .bool true, .bool sn]) ∧ Below w.heap.size w w' := by
  have hbs := World.block_lt_of_cell? w _ hd
  have hd' : ∀ o o', ((w.alloc o).alloc o').cell? ⟨bs, 4, none⟩ = some (.int .i64 d) := fun o o' => by
    rw [World.cell?_alloc_past _ _ _ (by simp at hbs ⊢; omega), World.cell?_alloc_past _ _ _ hbs]; exact hd
  have HO : Hid (orf (-1) 5000000000 = -1) := rfl
  go_enter Yba.func6, Yba.ntmps6
  go_wp2_with (first
    | (go_at_call 8; refine (policy_any bs nm r d 0 st sig true sn _ (hd' _ _)).mono ?_; rintro e w1 ⟨rfl, hb⟩; have hm : Mid w.heap.size w w1 _ _ := after_policy hb; clear hb hd' hd; obtain ⟨⟨q0, q1, q2, q3, q4, q5, q6, q7⟩, qf⟩ := eight hm.1; have hz : w.heap.size + 1 < w1.heap.size := blk_lt hm.2.1; have hz0 : w.heap.size < w1.heap.size := (by omega))
    | (go_at_call 9; refine (or2_any _ (-1) 5000000000 _ ?_ ?_).mono ?_; (focus (simp [go_sem])); (focus (simp [go_sem])); rw [HO.out]; rintro e w2 ⟨rfl, hw2⟩; have hm2 := ((hm.set 2 (.int .i64 (orf r (orf d 2)))).set 3 (.int .i64 (-1))).alloc (.cells #[.int .i64 (-1), .int .i64 5000000000] 43); rw [← hw2] at hm2; obtain ⟨f1, f2, f3⟩ := hm2; simp only [List.setIfInBounds_toArray, List.set_cons_succ, List.set_cons_zero] at f1; clear hw2 hz hz0 hm q0 q1 q2 q3 q4 q5 q6 q7 qf; obtain ⟨⟨q0, q1, q2, q3, q4, q5, q6, q7⟩, qf⟩ := eight f1; obtain ⟨⟨s0, s1, s2, s3, s4, s5, s6, s7⟩, sf⟩ := eight f2; clear f1 f2))
  all_goals
    refine bodyPost_ret (v := .agg #[.string nm, .nilFunc, .int .i64 (orf r (orf d 2)), .int .i64 (-1), .bool (sig || true), .int .i64 st, .bool true, .bool sn]) ?_ rfl ⟨rfl, ?_⟩
    · simp [results, Yba.results6, go_sem, *]
    · repeat (refine Below.setCell ?_ (by simp) _)
      exact f3
theorem resolve_any (bs : Nat) (nm : ByteArray) (r d sd st : Int) (sig sup sn : Bool) (w : World) (hd : w.cell? ⟨bs, 4, none⟩ = some (.int .i64 d)) :
    Calls Yba.prog 6 #[.pointer (some ⟨bs, 0, none⟩), .agg #[.string nm, .nilFunc, .int .i64 r, .int .i64 sd, .bool sig, .int .i64 st, .bool sup, .bool sn]] w fun e w' =>
      e = .returned (.agg #[.string nm, .nilFunc, .int .i64 (orf r (orf d 2)), .int .i64 (sdf sd sup), .bool (sig || sup), .int .i64 st, .bool sup, .bool sn]) ∧ Below w.heap.size w w' := by
  by_cases h : sd = 0
  · subst h
    cases sup
    · exact resolve_zf bs nm r d st sig sn w hd
    · exact resolve_zt bs nm r d st sig sn w hd
  · have e : sdf sd sup = sd := by unfold sdf; rw [if_neg h]
    rw [e]
    exact resolve_nz bs nm r d sd st sig sup sn w hd (by simpa using h)
end Go.Proofs.Ybulkcjzi.Base
