import Derived.Test.YbulkcjziRows
import Derived.WalkKit
import Derived.WalkSpells
import Derived.WalkLawsBesides
import Derived.Deep.QuietTactic
import Derived.BigQuiet
import Derived.Deep.RegionWith
import Derived.Deep.MidRow
import Derived.Laws.EntriesVeiled
namespace Go.Proofs.Ybulkcjzi.Base
open Go.RowKit
set_option linter.unusedVariables false

theorem below_drewN (B : Nat) (w : World) : ∀ n, Below B w (w.drewN n)
  | 0 => Below.refl _ _
  | n + 1 => (below_drewN B w n).drew

/-- The child as a value. -/
def chd (nm : ByteArray) (r sd : Int) (sig : Bool) (st : Int) (sup sn : Bool) : Value := .agg #[.string nm, .nilFunc, .int .i64 r, .int .i64 sd, .bool sig, .int .i64 st, .bool sup, .bool sn]

set_option maxHeartbeats 400000 in
theorem mk_any (nm : ByteArray) (r sd st : Int) (sig sup sn : Bool) (w : World) :
    Calls Yba.prog 5 #[.string nm, .int .i64 r, .int .i64 sd, .int .i64 st, .bool sig, .bool sup, .bool sn] w fun e w' => e = .returned (.agg #[.string nm, .nilFunc, .int .i64 r, .int .i64 sd, .bool sig, .int .i64 st, .bool sup, .bool sn]) ∧ 
     w' = w.alloc (.cells #[.string nm, .nilFunc, .int .i64 r, .int .i64 sd, .bool sig, .int .i64 st, .bool sup, .bool sn] 45) := by
  go_enter Yba.func5, Yba.ntmps5
  go_wp2
  simp [bodyPost, results, Yba.results5, go_sem]

def orf (a b : Int) : Int := if a = 0 then b else a

set_option maxHeartbeats 400000 in
theorem or2_any (g : Nat) (a b : Int) (w : World) (c0 : w.cell? ⟨g, 0, none⟩ = some (.int .i64 a)) (c1 : w.cell? ⟨g, 1, none⟩ = some (.int .i64 b)) :
    Calls Yba.prog 9 #[.slice (some ⟨g, 0, none⟩) 2 2] w fun e w' => e = .returned (.int .i64 (orf a b)) ∧ w' = w := by
  cases ha : (a != 0)
  · have ha' : a = 0 := by simpa using ha
    subst ha'
    cases hb : (b != 0)
    · have hb' : b = 0 := by simpa using hb
      subst hb'
      go_enter Yba.func9, Yba.ntmps9
      go_wp2
      refine wp_loop_rounds 3 ?_
      rw [rounds_succ]; go_wp2
      rw [rounds_succ]; go_wp2
      rw [rounds_succ]; go_wp2
      go_ret
      exact ⟨rfl, rfl⟩
    · go_enter Yba.func9, Yba.ntmps9
      go_wp2
      refine wp_loop_rounds 3 ?_
      rw [rounds_succ]; go_wp2
      rw [rounds_succ]; go_wp2
      go_ret
      exact ⟨by simp [orf], rfl⟩
  · go_enter Yba.func9, Yba.ntmps9
    go_wp2
    refine wp_loop_rounds 3 ?_
    rw [rounds_succ]; go_wp2
    go_ret
    exact ⟨by rw [orf, if_neg (by simpa using ha)]; rfl, rfl⟩

set_option maxHeartbeats 400000 in
theorem or3_any (g : Nat) (a b : Int) (w : World) (c0 : w.cell? ⟨g, 0, none⟩ = some (.int .i64 a)) (c1 : w.cell? ⟨g, 1, none⟩ = some (.int .i64 b)) (c2 : w.cell? ⟨g, 2, none⟩ = some (.int .i64 2)) :
    Calls Yba.prog 10 #[.slice (some ⟨g, 0, none⟩) 3 3] w fun e w' => e = .returned (.int .i64 (orf a (orf b 2))) ∧ w' = w := by
  cases ha : (a != 0)
  · have ha' : a = 0 := by simpa using ha
    subst ha'
    cases hb : (b != 0)
    · have hb' : b = 0 := by simpa using hb
      subst hb'
      go_enter Yba.func10, Yba.ntmps10
      go_wp2
      refine wp_loop_rounds 3 ?_
      rw [rounds_succ]; go_wp2
      rw [rounds_succ]; go_wp2
      rw [rounds_succ]; go_wp2
      go_ret
      exact ⟨by simp [orf], rfl⟩
    · go_enter Yba.func10, Yba.ntmps10
      go_wp2
      refine wp_loop_rounds 3 ?_
      rw [rounds_succ]; go_wp2
      rw [rounds_succ]; go_wp2
      go_ret
      have hb' : ¬ b = 0 := by simpa using hb
      exact ⟨by simp [orf, hb'], rfl⟩
  · go_enter Yba.func10, Yba.ntmps10
    go_wp2
    refine wp_loop_rounds 3 ?_
    rw [rounds_succ]; go_wp2
    go_ret
    exact ⟨by rw [orf, if_neg (by simpa using ha)]; rfl, rfl⟩

theorem eqlFn (w : World) : (binOp .eql 42 .nilFunc .nilFunc).run Yba.prog w = .ok (.bool true) w := by
  have h : ∀ d : Nat, (Op.equalIn (d + 1) 42 .nilFunc .nilFunc).run Yba.prog w = .ok true w := fun d => by
    simp [Op.equalIn, run_underlying Yba.underlying42]
  simp only [binOp]
  simp [Op.equal, Op.maxDepth, h 9999]
theorem neqFn (w : World) : (binOp .neq 42 .nilFunc .nilFunc).run Yba.prog w = .ok (.bool false) w := by
  have h : ∀ d : Nat, (Op.equalIn (d + 1) 42 .nilFunc .nilFunc).run Yba.prog w = .ok true w := fun d => by
    simp [Op.equalIn, run_underlying Yba.underlying42]
  simp only [binOp]
  simp [Op.equal, Op.maxDepth, h 9999]

set_option maxRecDepth 100000 in
set_option maxHeartbeats 1000000 in
theorem eq_same (nm : ByteArray) (r sd st : Int) (sig sup sn : Bool) (w : World) :
    Calls Yba.prog 7 #[.agg #[.string nm, .nilFunc, .int .i64 r, .int .i64 sd, .bool sig, .int .i64 st, .bool sup, .bool sn], .agg #[.string nm, .nilFunc, .int .i64 r, .int .i64 sd, .bool sig, .int .i64 st, .bool sup, .bool sn]] w fun e w' => e = .returned (.bool true) ∧ Below w.heap.size w w' := by
  have hf := eqlFn
  go_enter Yba.func7, Yba.ntmps7
  go_wp2
  go_ret
  exact ⟨by simp, (((Below.refl _ _).alloc (Nat.le_refl _) _).alloc (by simp) _)⟩

set_option maxHeartbeats 400000 in
theorem policy_any (bs : Nat) (nm : ByteArray) (r d sd st : Int) (sig sup sn : Bool) (w : World) (hd : w.cell? ⟨bs, 4, none⟩ = some (.int .i64 d)) :
    Calls Yba.prog 8 #[.pointer (some ⟨bs, 0, none⟩), .agg #[.string nm, .nilFunc, .int .i64 r, .int .i64 sd, .bool sig, .int .i64 st, .bool sup, .bool sn]] w fun e w' => e = .returned (.int .i64 (orf r (orf d 2))) ∧ Below w.heap.size w w' := by
  have hd' : ∀ o, (w.alloc o).cell? ⟨bs, 4, none⟩ = some (.int .i64 d) := fun o => by rw [World.cell?_alloc_past _ _ _ (World.block_lt_of_cell? w _ hd)]; exact hd
  go_enter Yba.func8, Yba.ntmps8
  go_wp2
  go_region_with (go_at_call 10; refine (or3_any _ r d _ ?_ ?_ ?_).mono ?_; (focus simp [go_sem]); (focus simp [go_sem]); (focus simp [go_sem]); rintro e w' ⟨rfl, rfl⟩)
  all_goals (go_wp2; go_ret; exact ⟨rfl, by repeat (first | exact Below.refl _ _ | apply Below.drew | refine Below.alloc ?_ (by simp) _)⟩)
end Go.Proofs.Ybulkcjzi.Base
