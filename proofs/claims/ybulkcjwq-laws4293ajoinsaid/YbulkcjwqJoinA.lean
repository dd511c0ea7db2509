import Derived.Test.YbulkcjwqRows
import Derived.WalkKit
import Derived.WalkSpells
import Derived.WalkLawsBesides
import Derived.Laws.Pointers
import Derived.Laws.Externs
import Derived.Deep.QuietTactic
import Derived.BigQuiet
import Derived.Deep.RegionWith
import Derived.Deep.MidRow
import Derived.Deep.OwnRows
import Derived.LaidEqlPtr
namespace Go.Proofs.Ybulkcjwq.Join
open Go.RowKit
set_option linter.unusedVariables false

theorem below_drewN (B : Nat) (w : World) : ∀ n, Below B w (w.drewN n)
  | 0 => Below.refl _ _
  | n + 1 => (below_drewN B w n).drew

theorem add64 (x y : Int) (hx : 0 ≤ x) (hy : 0 ≤ y) (h : x + y < 18446744073709551616) (w : World) : (callFunc 14 #[.int .u64 x, .int .u64 y, .int .u64 0]).run Yba.prog w =
    .ok (.value (.tuple #[.int .u64 (x + y), .int .u64 0])) w := by
  have e1 : (x + y + 0) % 18446744073709551616 = x + y := by omega
  have e2 : (x + y + 0) / 18446744073709551616 = 0 := by omega
  rw [run_callFunc_extern Yba.func14 (by kernel_rfl) (by kernel_rfl) (by kernel_rfl) (e := add64Entry) (by kernel_rfl), run_add64 x y 0 hx hy (by omega) (by omega), e1, e2]
  rfl

set_option maxHeartbeats 400000 in
theorem add_any (x y : Int) (hx : 0 ≤ x) (hy : 0 ≤ y) (h : x + y < 18446744073709551616) (w : World) :
    Calls Yba.prog 10 #[.agg #[.int .u64 x, .pointer none], .agg #[.int .u64 y, .pointer none]] w fun e w' => e = .returned (.agg #[.int .u64 (x + y), .pointer none]) ∧ Below w.heap.size w w' := by
  have ha := add64 x y hx hy h
  go_enter Yba.func10, Yba.ntmps10
  go_wp2
  refine bodyPost_ret (v := .agg #[.int .u64 (x + y), .pointer none]) (by simp [results, Yba.results10, go_sem]) rfl ⟨rfl, ?_⟩
  repeat (first | exact Below.refl _ _ | refine Below.alloc ?_ (by simp <;> omega) _ | refine Below.setCell ?_ (by simp <;> omega) _)

def cmpI (x y : Int) : Int := if x < y then -1 else if y < x then 1 else 0

set_option maxHeartbeats 400000 in
theorem compare_any (x y : Int) (w : World) :
    Calls Yba.prog 32 #[.int .u64 x, .int .u64 y] w fun e w' => e = .returned (.int .i64 (cmpI x y)) ∧ w' = w := by
  by_cases h1 : x < y
  · go_enter Yba.func32, Yba.ntmps32
    go_wp2
    go_ret
    exact ⟨by simp [cmpI, h1], rfl⟩
  · by_cases h2 : y < x
    · go_enter Yba.func32, Yba.ntmps32
      go_wp2
      go_ret
      exact ⟨by simp [cmpI, h1, h2], rfl⟩
    · have hc : cmpI x y = 0 := by unfold cmpI; rw [if_neg h1, if_neg h2]
      go_enter Yba.func32, Yba.ntmps32
      go_wp2
      go_ret
      exact ⟨rfl, rfl⟩

set_option maxHeartbeats 400000 in
theorem cmp_any (x y : Int) (w : World) :
    Calls Yba.prog 18 #[.agg #[.int .u64 x, .pointer none], .agg #[.int .u64 y, .pointer none]] w fun e w' => e = .returned (.int .i64 (cmpI x y)) ∧ Below w.heap.size w w' := by
  go_enter Yba.func18, Yba.ntmps18
  go_wp2_with (go_at_call 32; refine (compare_any x y _).mono ?_; rintro e w' ⟨rfl, rfl⟩)
  go_ret
  refine ⟨rfl, ?_⟩
  repeat (first | exact Below.refl _ _ | refine Below.alloc ?_ (by simp <;> omega) _ | refine Below.setCell ?_ (by simp <;> omega) _)

theorem blk_lt {w : World} {b : Nat} {o : Obj} (h : w.heap[b]? = some o) : b < w.heap.size := (Array.getElem?_eq_some_iff.1 h).1
theorem blk_below {W w1 : World} {b : Nat} {o : Obj} (hb : Below W.heap.size W w1) (h : W.heap[b]? = some o) : w1.heap[b]? = some o := by rw [hb.block _ (blk_lt h)]; exact h
theorem blk_new (w : World) (o : Obj) : (w.alloc o).heap[w.heap.size]? = some o := Go.Deep.blk_alloc_new _ _
theorem blk_past {w : World} {b : Nat} {o : Obj} (h : w.heap[b]? = some o) (o' : Obj) : (w.alloc o').heap[b]? = some o := by rw [Below.heap_alloc _ _ _ (blk_lt h)]; exact h
theorem blk_set {w : World} {b : Nat} {c : Array Value} {t : TypeId} {f : Nat × Nat} (h : w.heap[b]? = some (.cells c t f)) (i : Nat) (v : Value) : (w.setCell ⟨b, i, none⟩ v).heap[b]? = some (.cells (c.setIfInBounds i v) t f) := by
  simp [World.setCell, Array.getElem?_modify, h]
theorem blk_other {w : World} {b : Nat} {o : Obj} (h : w.heap[b]? = some o) {a : Addr} (hne : b ≠ a.block) (v : Value) : (w.setCell a v).heap[b]? = some o := by rw [Below.heap_setCell _ _ _ _ hne]; exact h
theorem cell_blk {w : World} {b i : Nat} {c : Array Value} {t : TypeId} {f : Nat × Nat} {v : Value} (h : w.heap[b]? = some (.cells c t f)) (hv : c[i]? = some v) : w.cell? ⟨b, i, none⟩ = some v := by simp [World.cell?, h, hv]
theorem frz_blk {w : World} {b : Nat} {c : Array Value} {t : TypeId} (h : w.heap[b]? = some (.cells c t (0, 0))) (i : Nat) : w.frozen? ⟨b, i, none⟩ = false := by simp [World.frozen?, h]
theorem two {w : World} {b : Nat} {v0 v1 : Value} {t : TypeId} (h : w.heap[b]? = some (.cells #[v0, v1] t (0, 0))) :
    (w.cell? ⟨b, 0, none⟩ = some v0 ∧ w.cell? ⟨b, 1, none⟩ = some v1) ∧ ∀ o, w.frozen? ⟨b, o, none⟩ = false :=
  ⟨⟨cell_blk h rfl, cell_blk h rfl⟩, frz_blk h⟩

/-- Three blocks of two cells, laid one behind the other, and a call that turned nothing old. -/
theorem three_below {w w1 : World} {a b c : Array Value} (hb : Below (((w.alloc (.cells a 33)).alloc (.cells b 33)).alloc (.cells c 33)).heap.size (((w.alloc (.cells a 33)).alloc (.cells b 33)).alloc (.cells c 33)) w1) :
    w1.heap[w.heap.size]? = some (.cells a 33 (0, 0)) ∧ w1.heap[w.heap.size + 1]? = some (.cells b 33 (0, 0)) ∧ w1.heap[w.heap.size + 2]? = some (.cells c 33 (0, 0)) ∧ Below w.heap.size w w1 := by
  refine ⟨blk_below hb (blk_past (blk_past (blk_new _ _) _) _), blk_below hb (blk_past (by have := blk_new (w.alloc (.cells a 33)) (.cells b 33); simpa using this) _), blk_below hb (by have := blk_new ((w.alloc (.cells a 33)).alloc (.cells b 33)) (.cells c 33); simpa using this), ?_⟩
  exact ((((Below.refl _ _).alloc (Nat.le_refl _) _).alloc (by simp) _).alloc (by simp; omega) _).trans (hb.mono (by simp; omega))

set_option maxHeartbeats 400000 in
theorem sub_lt (x y : Int) (h : x < y) (w : World) :
    Calls Yba.prog 11 #[.agg #[.int .u64 x, .pointer none], .agg #[.int .u64 y, .pointer none]] w fun e w' => e = .returned (.tuple #[.agg #[.int .u64 0, .pointer none], .bool false]) ∧ Below w.heap.size w w' := by
  have hc : cmpI x y = -1 := by simp [cmpI, h]
  go_enter Yba.func11, Yba.ntmps11
  go_wp2_with (go_at_call 18; refine (cmp_any x y _).mono ?_; rw [hc]; rintro e w1 ⟨rfl, hb⟩; obtain ⟨f1, f2, f3, f4⟩ := three_below hb; clear hb; obtain ⟨⟨p0, p1⟩, pf⟩ := two f1; obtain ⟨⟨q0, q1⟩, qf⟩ := two f2; obtain ⟨⟨r0, r1⟩, rf⟩ := two f3)
  refine bodyPost_ret (v := .tuple #[.agg #[.int .u64 0, .pointer none], .bool false]) (by simp [results, Yba.results11, go_sem, *]) rfl ⟨rfl, ?_⟩
  repeat (refine Below.setCell ?_ (by simp <;> omega) _)
  exact f4

set_option maxHeartbeats 400000 in
theorem sub_ge (x y : Int) (h : y ≤ x) (hy : 0 ≤ y) (hx : x < 18446744073709551616) (w : World) :
    Calls Yba.prog 11 #[.agg #[.int .u64 x, .pointer none], .agg #[.int .u64 y, .pointer none]] w fun e w' => e = .returned (.tuple #[.agg #[.int .u64 (x - y), .pointer none], .bool true]) ∧ Below w.heap.size w w' := by
  have hc : (0 : Int) ≤ cmpI x y := by unfold cmpI; rw [if_neg (by omega)]; split <;> omega
  go_enter Yba.func11, Yba.ntmps11
  go_wp2_with (go_at_call 18; refine (cmp_any x y _).mono ?_; rintro e w1 ⟨rfl, hb⟩; obtain ⟨f1, f2, f3, f4⟩ := three_below hb; clear hb; obtain ⟨⟨p0, p1⟩, pf⟩ := two f1; obtain ⟨⟨q0, q1⟩, qf⟩ := two f2; obtain ⟨⟨r0, r1⟩, rf⟩ := two f3)
  refine bodyPost_ret (v := .tuple #[.agg #[.int .u64 (x - y), .pointer none], .bool true]) (by simp [results, Yba.results11, go_sem, *]) rfl ⟨rfl, ?_⟩
  repeat (refine Below.setCell ?_ (by simp <;> omega) _)
  exact f4

set_option maxHeartbeats 400000 in
theorem next_any (ba : Nat) (f : Int) (so : Option Addr) (n : Nat) (w : World) (hf : 0 ≤ f) (hn : n ≤ 1024) (c2 : w.cell? ⟨ba, 2, none⟩ = some (.int .u64 f)) (c3 : w.cell? ⟨ba, 3, none⟩ = some (.slice so n n)) :
    Calls Yba.prog 9 #[.pointer (some ⟨ba, 0, none⟩)] w fun e w' => e = .returned (.int .u64 (IntKind.u64.wrap (f + n))) ∧ ∃ m, w' = w.drewN m := by
  go_enter Yba.func9, Yba.ntmps9
  go_wp2
  go_quiet (fail)
  go_wp2
  go_ret
  exact ⟨rfl, _, rfl⟩

theorem eql27 (a : Option Addr) (n c : Nat) (w : World) : (binOp .eql 27 (.slice a n c) (.slice none 0 0)).run Yba.prog w = .ok (.bool a.isNone) w := Lib.run_eql_slice_nil w 27 28 a n c 0 0 Yba.underlying27
theorem neq27 (a : Option Addr) (n c : Nat) (w : World) : (binOp .neq 27 (.slice a n c) (.slice none 0 0)).run Yba.prog w = .ok (.bool (!a.isNone)) w := run_neq_slice_nil_any w 27 28 a n c 0 0 Yba.underlying27
theorem info28 : (Yba.prog.info? 28).map (fun i => (i.zero, i.size, i.bytes)) = some (some (.pointer none), 1, 8) := by kernel_rfl

/-- Pointers as cells. -/
def ptrs (f : Nat → Addr) (n : Nat) : List Value := (List.range n).map fun i => Value.pointer (some (f i))
theorem ptrs_length (f : Nat → Addr) (n : Nat) : (ptrs f n).length = n := by simp [ptrs]
theorem ptrs_get {f : Nat → Addr} {n j : Nat} {u : Value} (h : (ptrs f n)[j]? = some u) : j < n ∧ u = .pointer (some (f j)) := by
  have hj : j < n := by have := (List.getElem?_eq_some_iff.1 h).1; simpa [ptrs] using this
  refine ⟨hj, ?_⟩
  simp [ptrs, hj] at h
  exact h.symm
theorem ptrs_one (f : Nat → Addr) (n : Nat) : ∀ u ∈ ptrs f n, u.oneCell' = true := by
  intro u hu; simp [ptrs] at hu; obtain ⟨_, _, rfl⟩ := hu; rfl

set_option maxHeartbeats 400000 in
theorem clone_nil (w : World) : Calls Yba.prog 12 #[.slice none 0 0] w fun e w' => e = .returned (.slice none 0 0) ∧ w' = w := by
  have h := eql27 none 0 0
  go_enter Yba.func12, Yba.ntmps12
  go_wp2
  go_ret
  exact ⟨rfl, rfl⟩

theorem src_new {w : World} {o : Obj} {bs n : Nat} {f : Nat → Addr} (hc : ∀ i, i < n → w.cell? ⟨bs, i, none⟩ = some (.pointer (some (f i)))) : ∀ (j : Nat) (u : Value), (ptrs f n)[j]? = some u → (w.alloc o).cell? ((⟨bs, 0, none⟩ : Addr).add j) = some u := by
  intro j u hu
  obtain ⟨hj, rfl⟩ := ptrs_get hu
  have := hc j hj
  rw [Addr.add_mid, Nat.zero_add, World.cell?_alloc_past _ _ _ (World.block_lt_of_cell? w _ this)]; exact this

set_option maxHeartbeats 400000 in
theorem clone_some (bs n : Nat) (f : Nat → Addr) (hn : n ≤ 1024) (w : World) (hc : ∀ i, i < n → w.cell? ⟨bs, i, none⟩ = some (.pointer (some (f i)))) :
    Calls Yba.prog 12 #[.slice (some ⟨bs, 0, none⟩) n n] w fun e w' => ∃ v, e = .returned v ∧ w'.ownsRow w.heap.size 28 1 v n (ptrs f n) ∧ Below w.heap.size w w' := by
  have h := eql27 (some ⟨bs, 0, none⟩) n n
  obtain ⟨i28, hi, hz0, hz1, hz2⟩ := info_parts info28
  go_enter Yba.func12, Yba.ntmps12
  go_wp2_with (at_builtin; (refine wpList_append_own _ ?_ (.tmp 5) (.tmp 6) 27 ?_ w.heap.size 28 i28 (.pointer none) 1 8 Yba.underlying27 hi hz0 hz1 hz2 rfl (by decide) (.slice (some ⟨w.heap.size, 0, none⟩) 0 0) 0 [] ?_ ?_ ⟨bs, 0, none⟩ n n (ptrs f n) ?_ ?_ ?_ ?_ ?_ ?_ ?_ ?_; rfl; rfl; rfl); (focus exact World.ownsRow_lit w #[] 0 (Nat.le_refl _) (by decide) rfl); rfl; (focus (rw [ptrs_length]; omega)); (focus exact src_new hc); (focus exact ptrs_one _ _); (focus (unfold maxLen; omega)); (focus omega); (focus (simp)); intro v w1 hown hg _)
  go_ret
  refine ⟨v, rfl, ?_, ?_⟩
  · simpa using hown
  · exact ((Below.refl _ _).alloc (Nat.le_refl _) _).grown hg (by simp) (by simp [Value.ownBlock])
end Go.Proofs.Ybulkcjwq.Join
