/-
  The proof of 'Rows.LawS4296CAddSaid': the frame by hand (nine parameters, one an array by value), after the seat's own shells.
-/
import Derived.Test.YbulkcjygRows
import Derived.Test.YbulkcjygAddJ
import Derived.WalkKit
import Derived.ProofKit
import Derived.OpenShut
import Derived.ShutString
import Derived.ChangeOld
import Derived.Below
import Derived.Lib.SmallJoins
namespace Go.Proofs.Ybulkcjyg.lawS4296CAdd
open Go.ChangeShapes Go.WideShapes Go.ChangeAt Go.RowKit Go.Joins
set_option linter.unusedVariables false

theorem own : ownKnob Yba.prog.godebug = none := by kernel_rfl
theorem laidOut : laidOutB Yba.prog = true := by kernel_rfl
theorem cells27 : Yba.prog.cellsOf 27 = 8 := by kernel_rfl
theorem cells5 : Yba.prog.cellsOf 5 = 1 := by kernel_rfl

theorem list8 {α : Type} (l : List α) (h : (⟨l⟩ : Array α).size = 8) : ∃ a b c d e f g i, l = [a, b, c, d, e, f, g, i] := by
  match l, h with
  | [a, b, c, d, e, f, g, i], _ => exact ⟨a, b, c, d, e, f, g, i, rfl⟩

set_option maxRecDepth 100000 in
/-- The array that came in, opened: eight bytes. -/
theorem open_eight {H : Type} {enc : TypeId × Value → H} {W : World} {r : Reach} {b0 : Nat} {v : Value} {d : DataW H} {p : List MemPlace} (hv : Value.okWide Yba.prog W r b0 27 v) (h : DataW.Trod enc Yba.prog W 0 (fun _ => true) true 27 v d p) :
    ∃ p0 p1 p2 p3 p4 p5 p6 p7 : Int, v = .agg #[.int .u8 p0, .int .u8 p1, .int .u8 p2, .int .u8 p3, .int .u8 p4, .int .u8 p5, .int .u8 p6, .int .u8 p7] ∧ ∀ p ∈ [p0, p1, p2, p3, p4, p5, p6, p7], 0 ≤ p ∧ p < 256 := by
  obtain ⟨cs, rfl, hsz, _⟩ : ∃ cs, v = .agg cs ∧ cs.size = Yba.prog.cellsOf 27 ∧ Row.okWide Yba.prog W r b0 27 cs := by
    simpa [Value.okWide, Yba.underlying27] using hv
  rw [cells27] at hsz
  obtain ⟨l⟩ := cs
  obtain ⟨fuel, hf⟩ := h
  obtain ⟨xs, m, _, _, _, hl, hget⟩ := DataW.trod_array Yba.underlying27 hf
  have hall : ∀ i, i < 8 → ∃ n : Int, l[i]? = some (.int .u8 n) ∧ 0 ≤ n ∧ n < 256 := by
    intro i hi
    have g := hget i hi
    rw [List.getElem?_eq_getElem (by omega)] at g
    obtain ⟨n, hn, _, hw⟩ := DataW.trod_int Yba.underlying5 g
    rw [cells5] at hn
    have hb := bounds_u8 hw
    refine ⟨n, ?_, hb.1, by omega⟩
    have h0 : (List.take 1 (List.drop (i * 1) (Value.agg ⟨l⟩).cells.toList))[0]? = some (.int .u8 n) := by rw [hn]; rfl
    simpa [Value.cells] using h0
  obtain ⟨c0, c1, c2, c3, c4, c5, c6, c7, rfl⟩ := list8 l hsz
  obtain ⟨p0, e0, b0⟩ := hall 0 (by omega)
  obtain ⟨p1, e1, b1⟩ := hall 1 (by omega)
  obtain ⟨p2, e2, b2⟩ := hall 2 (by omega)
  obtain ⟨p3, e3, b3⟩ := hall 3 (by omega)
  obtain ⟨p4, e4, b4⟩ := hall 4 (by omega)
  obtain ⟨p5, e5, b5⟩ := hall 5 (by omega)
  obtain ⟨p6, e6, b6⟩ := hall 6 (by omega)
  obtain ⟨p7, e7, b7⟩ := hall 7 (by omega)
  simp at e0 e1 e2 e3 e4 e5 e6 e7
  subst e0 e1 e2 e3 e4 e5 e6 e7
  refine ⟨p0, p1, p2, p3, p4, p5, p6, p7, rfl, fun q hq => ?_⟩
  simp at hq
  rcases hq with rfl | rfl | rfl | rfl | rfl | rfl | rfl | rfl <;> assumption

theorem walk (start kind mode parked : Int) (wb cr en qu : Bool) (p0 p1 p2 p3 p4 p5 p6 p7 : Int) (w : World)
    (w0 : (Lit.int .u64 start).wf = true) (w1 : (Lit.int .u8 kind).wf = true) (w2 : (Lit.int .u8 mode).wf = true) (w8 : (Lit.int .u8 parked).wf = true) (hp : ∀ p ∈ [p0, p1, p2, p3, p4, p5, p6, p7], 0 ≤ p ∧ p < 256) :
    Calls Yba.prog 5 #[.int .u64 start, .int .u8 kind, .int .u8 mode, .bool wb, .bool cr, .bool en, .bool qu, .agg #[.int .u8 p0, .int .u8 p1, .int .u8 p2, .int .u8 p3, .int .u8 p4, .int .u8 p5, .int .u8 p6, .int .u8 p7], .int .u8 parked] w fun e w' => e = .returned (.bool true) ∧ Below w.heap.size w w' := by
  have b0 := bounds_u64 w0
  have b1 := bounds_u8 w1
  have b2 := bounds_u8 w2
  have b8 := bounds_u8 w8
  exact Add.law_main start kind mode parked wb cr en qu p0 p1 p2 p3 p4 p5 p6 p7 w b0.1 (by omega) b1.1 (by omega) b2.1 (by omega) b8.1 (by omega) hp

set_option maxRecDepth 100000 in
theorem lifted (os : Os) (started : os.Started) (H : Type) (enc : TypeId × Value → H) :
    ReturnsInHanded {} Yba.checked os 5 .any (Rows.lawS4296CAddSpec.pre6 enc Yba.prog Yba.f5 Rows.lawS4296CAddRow.domain false) (Rows.lawS4296CAddSpec.post enc Yba.prog Yba.f5 false true false false) := by
  refine returnsInHanded_of_change (C := Yba.checked) own started (by kernel_rfl) Yba.func5
    (ChangeSpec.witness6 (enc := enc) (C := Yba.checked) false ⟨#[], #[.int .u64 0, .int .u8 0, .int .u8 0, .bool false, .bool false, .bool false, .bool false, .agg #[.int .u8 0, .int .u8 0, .int .u8 0, .int .u8 0, .int .u8 0, .int .u8 0, .int .u8 0, .int .u8 0], .int .u8 0], []⟩ 8 (by kernel_rfl) (by kernel_rfl) (by kernel_rfl) (by kernel_rfl)) ?_
  intro W base args ds gs before hval0 hW hcnd _
  have hval : ∀ (j : Nat) t v, Yba.f5.params[j]? = some t → args[j]? = some v → Value.okWide Yba.prog W .any base t v := hval0
  have hW' := hW
  obtain ⟨p, q, hA0, hV, rfl, hfz, hnd⟩ := hW
  have hA : DataW.TrodAll enc Yba.prog W 0 (fun _ => true) true Yba.f5.params.toList args.toList ds p := hA0
  rw [Yba.params5] at hA hval
  obtain ⟨v0, vs0, d0, ds0, p0, q0, hargs, rfl, rfl, h0, r0⟩ := trodAll_cons hA
  obtain ⟨v1, vs1, d1, ds1, p1, q1, rfl, rfl, rfl, h1, r1⟩ := trodAll_cons r0
  obtain ⟨v2, vs2, d2, ds2, p2, q2, rfl, rfl, rfl, h2, r2⟩ := trodAll_cons r1
  obtain ⟨v3, vs3, d3, ds3, p3, q3, rfl, rfl, rfl, h3, r3⟩ := trodAll_cons r2
  obtain ⟨v4, vs4, d4, ds4, p4, q4, rfl, rfl, rfl, h4, r4⟩ := trodAll_cons r3
  obtain ⟨v5, vs5, d5, ds5, p5, q5, rfl, rfl, rfl, h5, r5⟩ := trodAll_cons r4
  obtain ⟨v6, vs6, d6, ds6, p6, q6, rfl, rfl, rfl, h6, r6⟩ := trodAll_cons r5
  obtain ⟨v7, vs7, d7, ds7, p7, q7, rfl, rfl, rfl, h7, r7⟩ := trodAll_cons r6
  obtain ⟨v8, vs8, d8, ds8, p8, q8, rfl, rfl, rfl, h8, r8⟩ := trodAll_cons r7
  obtain ⟨rfl, rfl, rfl⟩ := trodAll_nil r8
  obtain rfl : args = #[v0, v1, v2, v3, v4, v5, v6, v7, v8] := by cases args; simp_all
  obtain ⟨rfl, rfl⟩ := trodVars_none hV
  obtain ⟨a0, rfl, rfl, rfl, w0⟩ := open_int Yba.underlying26 (hval 0 26 v0 rfl rfl) h0
  obtain ⟨a1, rfl, rfl, rfl, w1⟩ := open_int Yba.underlying5 (hval 1 5 v1 rfl rfl) h1
  obtain ⟨a2, rfl, rfl, rfl, w2⟩ := open_int Yba.underlying5 (hval 2 5 v2 rfl rfl) h2
  obtain ⟨a3, rfl, rfl, rfl⟩ := open_bool Yba.underlying4 (hval 3 4 v3 rfl rfl) h3
  obtain ⟨a4, rfl, rfl, rfl⟩ := open_bool Yba.underlying4 (hval 4 4 v4 rfl rfl) h4
  obtain ⟨a5, rfl, rfl, rfl⟩ := open_bool Yba.underlying4 (hval 5 4 v5 rfl rfl) h5
  obtain ⟨a6, rfl, rfl, rfl⟩ := open_bool Yba.underlying4 (hval 6 4 v6 rfl rfl) h6
  obtain ⟨a8, rfl, rfl, rfl, w8⟩ := open_int Yba.underlying5 (hval 8 5 v8 rfl rfl) h8
  have lt7 : ∀ x ∈ p7, x.block < W.heap.size := by obtain ⟨m, hm⟩ := h7; exact DataW.trod_lt m _ _ _ hm
  obtain ⟨x0, x1, x2, x3, x4, x5, x6, x7, rfl, w7⟩ := open_eight (hval 7 27 v7 rfl rfl) h7
  clear hA0 hval0
  refine (walk a0 a1 a2 a8 a3 a4 a5 a6 x0 x1 x2 x3 x4 x5 x6 x7 W w0 w1 w2 w8 w7).mono fun e W' ⟨he, bel⟩ => ?_
  subst he
  exact ⟨_, rfl, _, _, _, [], _, [], hW', trodAll_mk1 (shut_bool Yba.underlying4 _), (trodAll_cons_mk (shut_int Yba.underlying26 w0) (trodAll_cons_mk (shut_int Yba.underlying5 w1) (trodAll_cons_mk (shut_int Yba.underlying5 w2) (trodAll_cons_mk (shut_bool Yba.underlying4 _) (trodAll_cons_mk (shut_bool Yba.underlying4 _) (trodAll_cons_mk (shut_bool Yba.underlying4 _) (trodAll_cons_mk (shut_bool Yba.underlying4 _) (trodAll_cons_mk (Below.trod laidOut (by kernel_rfl) (of_decide_eq_true (by kernel_rfl)) h7 bel lt7) (trodAll_cons_mk (shut_int Yba.underlying5 w8) trodAll_mk0))))))))), rfl, bel.frame _, fun h => by cases h⟩

theorem over : Rows.lawS4296CAddRow.holds Yba.pinned (OpenSpec.ofChange Rows.lawS4296CAddSpec) :=
  OpenClaim.holds_of_wide 5 Yba.f5 rfl rfl rfl rfl rfl rfl rfl ⟨rfl, rfl, rfl, rfl, rfl⟩ rfl rfl rfl rfl rfl (by kernel_rfl) Yba.func5 (by kernel_rfl)
    (of_decide_eq_true (by kernel_rfl)) (by unfold Func.isWrapper; first | (rw [if_pos (by decide +kernel)]; kernel_rfl) | (rw [if_neg (by decide +kernel)]; exact ⟨rfl, rfl⟩))
    (fun os started H enc _ => lifted os started H enc)

/-- ████ THE STATEMENT ████ -/
theorem proved : Rows.LawS4296CAddSaid := over
end Go.Proofs.Ybulkcjyg.lawS4296CAdd
