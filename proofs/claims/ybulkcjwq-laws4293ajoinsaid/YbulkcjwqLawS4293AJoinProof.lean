/-
  The proof of 'Rows.LawS4293AJoinSaid': the frame by hand (three structs by value), after the seat's own shells.
-/
import Derived.Test.YbulkcjwqRows
import Derived.Test.YbulkcjwqJoinD
import Derived.WalkKit
import Derived.ProofKit
import Derived.OpenShut
import Derived.ShutString
import Derived.ChangeOld
import Derived.Below
import Derived.Lib.SmallJoins
namespace Go.Proofs.Ybulkcjwq.lawS4293AJoin
open Go.ChangeShapes Go.WideShapes Go.ChangeAt Go.RowKit Go.Joins
set_option linter.unusedVariables false

theorem own : ownKnob Yba.prog.godebug = none := by kernel_rfl
theorem laidOut : laidOutB Yba.prog = true := by kernel_rfl
theorem cells26 : Yba.prog.cellsOf 26 = 4 := by kernel_rfl

/-- WHAT THE WALK IS TOLD OF A SLICE OF BYTES THAT CAME IN. -/
def IsRow (w : World) (a : Option Addr) (len cap : Nat) (zs : List Int) : Prop :=
  (a = none ∧ len = 0 ∧ cap = 0 ∧ zs = []) ∨
  ∃ x, a = some x ∧ len ≤ cap ∧ cap ≤ maxLen ∧ zs.length = cap ∧ (∀ i, i < zs.length → w.cell? (x.add i) = some (.int .u8 (zs.getD i 0))) ∧ ∀ n ∈ zs, (Lit.int .u8 n).wf = true

theorem bytes_of {w : World} {a : Option Addr} {len cap : Nat} {zs : List Int} (h : IsRow w a len cap zs) : Join.Bytes w a len (fun i => zs.getD i 0) := by
  refine ⟨fun i => ?_, fun i hi => ?_⟩
  · rcases h with ⟨_, _, _, rfl⟩ | ⟨x, _, _, _, _, _, hw⟩
    · simp
    · by_cases hi : i < zs.length
      · exact bounds_u8 (hw (zs.getD i 0) (by simp [List.getD, hi]))
      · simp [List.getD, List.getElem?_eq_none (Nat.le_of_not_lt hi)]
  · rcases h with ⟨_, rfl, _, _⟩ | ⟨x, rfl, hl, hm, hz, hc, hw⟩
    · omega
    · have h := hc i (by omega)
      obtain ⟨b, off, sp⟩ := x
      have hs : sp = none := by simpa [Addr.add] using World.cell?_spot (hc 0 (by omega))
      subst hs
      rw [Addr.add_mid] at h
      exact ⟨b, off, rfl, World.block_lt_of_cell? w _ h, h⟩

set_option maxRecDepth 100000 in
/-- A struct that came in, opened. -/
theorem open_acc {H : Type} {enc : TypeId × Value → H} {W : World} {r : Reach} {b0 : Nat} {v : Value} {d : DataW H} {p : List MemPlace} (hv : Value.okWide Yba.prog W r b0 26 v) (h : DataW.Trod enc Yba.prog W 0 (fun _ => true) true 26 v d p) :
    ∃ (pr : Bool) (bal first : Int) (sa : Option Addr) (len cap : Nat) (zs : List Int), v = .agg #[.bool pr, .int .u32 bal, .int .u64 first, .slice sa len cap] ∧ (Lit.int .u32 bal).wf = true ∧ (Lit.int .u64 first).wf = true ∧ IsRow W sa len cap zs := by
  obtain ⟨c0, c1, c2, c3, y0, y1, y2, y3, n, rfl, _, _, h0, h1, h2, h3⟩ := open_agg4 Yba.underlying26 (by kernel_rfl) cells26 hv h
  obtain ⟨a, e0, _⟩ := DataW.trod_bool Yba.underlying4 h0
  obtain ⟨x, e1, _, wx⟩ := DataW.trod_int Yba.underlying22 h1
  obtain ⟨y, e2, _, wy⟩ := DataW.trod_int Yba.underlying23 h2
  simp at e0 e1 e2
  subst e0 e1 e2
  rcases open_ints Yba.underlying24 Yba.underlying5 (by kernel_rfl) h3 with ⟨hcs, _⟩ | ⟨x, l, c, zs, hcs, _, hl, hm, hz, _, hcell, hwz⟩
  · simp at hcs
    subst hcs
    exact ⟨_, _, _, none, 0, 0, [], rfl, wx, wy, .inl ⟨rfl, rfl, rfl, rfl⟩⟩
  · simp at hcs
    subst hcs
    exact ⟨_, _, _, some x, l, c, zs, rfl, wx, wy, .inr ⟨x, rfl, hl, hm, by simpa using hz, hcell, hwz⟩⟩

theorem below3 (w : World) (a b c : Obj) : Below w.heap.size w (((w.alloc a).alloc b).alloc c) := (((Below.refl _ _).alloc (Nat.le_refl _) _).alloc (by simp) _).alloc (by simp; omega) _

set_option maxRecDepth 100000 in
set_option maxHeartbeats 1000000 in
theorem walk_long (prb pro prt : Bool) (bb fb ob fo tb ft : Int) (sb so st : Option Addr) (lb lo lt kb ko kt : Nat) (w : World) (h : 1024 < lb ∨ (lb ≤ 1024 ∧ 1024 < lo) ∨ (lb ≤ 1024 ∧ lo ≤ 1024 ∧ 1024 < lt)) :
    Calls Yba.prog 3 #[.agg #[.bool prb, .int .u32 bb, .int .u64 fb, .slice sb lb kb], .agg #[.bool pro, .int .u32 ob, .int .u64 fo, .slice so lo ko], .agg #[.bool prt, .int .u32 tb, .int .u64 ft, .slice st lt kt]] w fun e w' => e = .returned (.bool true) ∧ Below w.heap.size w w' := by
  rcases h with h | ⟨h1, h⟩ | ⟨h1, h2, h⟩
  all_goals
    go_enter Yba.func3, Yba.ntmps3
    go_wp2
    go_ret
    exact ⟨rfl, below3 _ _ _ _⟩

theorem walk (prb pro prt : Bool) (bb fb ob fo tb ft : Int) (sb so st : Option Addr) (lb lo lt kb ko kt : Nat) (zb zo zt : List Int) (w : World)
    (wb : (Lit.int .u32 bb).wf = true) (wfb : (Lit.int .u64 fb).wf = true) (wo : (Lit.int .u32 ob).wf = true) (wt : (Lit.int .u32 tb).wf = true) (yb : IsRow w sb lb kb zb) (yo : IsRow w so lo ko zo) (yt : IsRow w st lt kt zt) :
    Calls Yba.prog 3 #[.agg #[.bool prb, .int .u32 bb, .int .u64 fb, .slice sb lb kb], .agg #[.bool pro, .int .u32 ob, .int .u64 fo, .slice so lo ko], .agg #[.bool prt, .int .u32 tb, .int .u64 ft, .slice st lt kt]] w fun e w' => e = .returned (.bool true) ∧ Below w.heap.size w w' := by
  have b1 := bounds_u32 wb
  have b2 := bounds_u64 wfb
  have b3 := bounds_u32 wo
  have b4 := bounds_u32 wt
  by_cases h1 : 1024 < lb
  · exact walk_long _ _ _ _ _ _ _ _ _ _ _ _ _ _ _ _ _ _ _ (.inl h1)
  by_cases h2 : 1024 < lo
  · exact walk_long _ _ _ _ _ _ _ _ _ _ _ _ _ _ _ _ _ _ _ (.inr (.inl ⟨by omega, h2⟩))
  by_cases h3 : 1024 < lt
  · exact walk_long _ _ _ _ _ _ _ _ _ _ _ _ _ _ _ _ _ _ _ (.inr (.inr ⟨by omega, by omega, h3⟩))
  exact Join.law_main prb pro prt bb fb ob fo tb ft sb so st lb lo lt kb ko kt _ _ _ w b1.1 (by omega) b2.1 b3.1 (by omega) b4.1 (by omega) (by omega) (by omega) (by omega) (bytes_of yb) (bytes_of yo) (bytes_of yt)

set_option maxRecDepth 100000 in
theorem lifted (os : Os) (started : os.Started) (H : Type) (enc : TypeId × Value → H) :
    ReturnsInHanded {} Yba.checked os 3 .any (Rows.lawS4293AJoinSpec.pre6 enc Yba.prog Yba.f3 Rows.lawS4293AJoinRow.domain false) (Rows.lawS4293AJoinSpec.post enc Yba.prog Yba.f3 false true false false) := by
  refine returnsInHanded_of_change (C := Yba.checked) own started (by kernel_rfl) Yba.func3
    (ChangeSpec.witness6 (enc := enc) (C := Yba.checked) false ⟨#[], #[.agg #[.bool false, .int .u32 0, .int .u64 0, .slice none 0 0], .agg #[.bool false, .int .u32 0, .int .u64 0, .slice none 0 0], .agg #[.bool false, .int .u32 0, .int .u64 0, .slice none 0 0]], []⟩ 8 (by kernel_rfl) (by kernel_rfl) (by kernel_rfl) (by kernel_rfl)) ?_
  intro W base args ds gs before hval0 hW hcnd _
  have hval : ∀ (j : Nat) t v, Yba.f3.params[j]? = some t → args[j]? = some v → Value.okWide Yba.prog W .any base t v := hval0
  have hW' := hW
  obtain ⟨p, q, hA0, hV, rfl, hfz, hnd⟩ := hW
  have hA : DataW.TrodAll enc Yba.prog W 0 (fun _ => true) true Yba.f3.params.toList args.toList ds p := hA0
  rw [Yba.params3] at hA hval
  obtain ⟨v0, vs0, d0, ds0, p0, q0, hargs, rfl, rfl, h0, r0⟩ := trodAll_cons hA
  obtain ⟨v1, vs1, d1, ds1, p1, q1, rfl, rfl, rfl, h1, r1⟩ := trodAll_cons r0
  obtain ⟨v2, vs2, d2, ds2, p2, q2, rfl, rfl, rfl, h2, r2⟩ := trodAll_cons r1
  obtain ⟨rfl, rfl, rfl⟩ := trodAll_nil r2
  obtain rfl : args = #[v0, v1, v2] := by cases args; simp_all
  obtain ⟨rfl, rfl⟩ := trodVars_none hV
  have lt0 : ∀ x ∈ p0, x.block < W.heap.size := by obtain ⟨m, hm⟩ := h0; exact DataW.trod_lt m _ _ _ hm
  have lt1 : ∀ x ∈ p1, x.block < W.heap.size := by obtain ⟨m, hm⟩ := h1; exact DataW.trod_lt m _ _ _ hm
  have lt2 : ∀ x ∈ p2, x.block < W.heap.size := by obtain ⟨m, hm⟩ := h2; exact DataW.trod_lt m _ _ _ hm
  obtain ⟨prb, bb, fb, sb, lb, kb, zb, rfl, wb, wfb, yb⟩ := open_acc (hval 0 26 v0 rfl rfl) h0
  obtain ⟨pro, ob, fo, so, lo, ko, zo, rfl, wo, wfo, yo⟩ := open_acc (hval 1 26 v1 rfl rfl) h1
  obtain ⟨prt, tb, ft, st, lt, kt, zt, rfl, wt, wft, yt⟩ := open_acc (hval 2 26 v2 rfl rfl) h2
  clear hA0 hval0
  refine (walk prb pro prt bb fb ob fo tb ft sb so st lb lo lt kb ko kt zb zo zt W wb wfb wo wt yb yo yt).mono fun e W' ⟨he, bel⟩ => ?_
  subst he
  exact ⟨_, rfl, _, _, _, [], _, [], hW', trodAll_mk1 (shut_bool Yba.underlying4 _), (trodAll_cons_mk (Below.trod laidOut (by kernel_rfl) (of_decide_eq_true (by kernel_rfl)) h0 bel lt0) (trodAll_cons_mk (Below.trod laidOut (by kernel_rfl) (of_decide_eq_true (by kernel_rfl)) h1 bel lt1) (trodAll_cons_mk (Below.trod laidOut (by kernel_rfl) (of_decide_eq_true (by kernel_rfl)) h2 bel lt2) trodAll_mk0))), rfl, bel.frame _, fun h => by cases h⟩

theorem over : Rows.lawS4293AJoinRow.holds Yba.pinned (OpenSpec.ofChange Rows.lawS4293AJoinSpec) :=
  OpenClaim.holds_of_wide 3 Yba.f3 rfl rfl rfl rfl rfl rfl rfl ⟨rfl, rfl, rfl, rfl, rfl⟩ rfl rfl rfl rfl rfl (by kernel_rfl) Yba.func3 (by kernel_rfl)
    (of_decide_eq_true (by kernel_rfl)) (by unfold Func.isWrapper; first | (rw [if_pos (by decide +kernel)]; kernel_rfl) | (rw [if_neg (by decide +kernel)]; exact ⟨rfl, rfl⟩))
    (fun os started H enc _ => lifted os started H enc)

/-- ████ THE STATEMENT ████ -/
theorem proved : Rows.LawS4293AJoinSaid := over
end Go.Proofs.Ybulkcjwq.lawS4293AJoin
