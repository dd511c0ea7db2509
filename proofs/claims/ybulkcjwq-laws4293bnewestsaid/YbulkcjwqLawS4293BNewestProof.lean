/-
  The proof of 'Rows.LawS4293BNewestSaid', on the seat's given frame.
-/
import Derived.Test.YbulkcjwqRows
import Derived.Test.YbulkcjwqNewestB
import Derived.WalkKit
import Derived.ProofKit
import Derived.OpenShut
import Derived.ShutString
import Derived.ChangeOld
import Derived.Below
namespace Go.Proofs.Ybulkcjwq.lawS4293BNewest
open Go.ChangeShapes Go.WideShapes Go.ChangeAt Go.RowKit
open Go.ChangeMaps (open_string shut_string)
set_option linter.unusedVariables false

theorem own : ownKnob Yba.prog.godebug = none := by kernel_rfl
theorem laidOut : laidOutB Yba.prog = true := by kernel_rfl

set_option maxRecDepth 100000 in
theorem walk_wide (a0 a1 : Int) (a2 : Option Addr) (len2 cap2 : Nat) (w : World) (h : 1024 < a1) :
    Calls Yba.prog 4 #[.int .i32 a0, .int .u16 a1, .slice a2 len2 cap2] w fun e w' => e = .returned (.bool true) ∧ Below w.heap.size w w' := by
  go_enter Yba.func4, Yba.ntmps4
  go_wp2
  go_ret
  exact ⟨rfl, Below.refl _ _⟩

set_option maxRecDepth 100000 in
theorem walk_long (a0 a1 : Int) (a2 : Option Addr) (len2 cap2 : Nat) (w : World) (h : a1 ≤ 1024) (h2 : 1024 < len2) :
    Calls Yba.prog 4 #[.int .i32 a0, .int .u16 a1, .slice a2 len2 cap2] w fun e w' => e = .returned (.bool true) ∧ Below w.heap.size w w' := by
  go_enter Yba.func4, Yba.ntmps4
  go_wp2
  go_ret
  exact ⟨rfl, Below.refl _ _⟩

theorem walk (a0 : Int) (a1 : Int) (a2 : Option Addr) (len2 cap2 : Nat) (z2 : List Int) (w : World) (w0 : (Lit.int .i32 a0).wf = true) (w1 : (Lit.int .u16 a1).wf = true) (w2 : IsRow .u16 w a2 len2 cap2 z2) :
    Calls Yba.prog 4 #[.int .i32 a0, .int .u16 a1, .slice a2 len2 cap2] w fun e w' => e = .returned (.bool true) ∧ Below w.heap.size w w' := by
  have b0 := bounds_i32 w0
  have b1 := bounds_u16 w1
  by_cases h1 : 1024 < a1
  · exact walk_wide _ _ _ _ _ _ h1
  by_cases h2 : 1024 < len2
  · exact walk_long _ _ _ _ _ _ (by omega) h2
  obtain ⟨K, rfl⟩ := Int.eq_ofNat_of_zero_le b1.1
  have zb : ∀ i, 0 ≤ z2.getD i 0 ∧ z2.getD i 0 ≤ 65535 := by
    intro i
    rcases w2 with ⟨_, _, _, rfl⟩ | ⟨x, _, _, _, _, _, hw⟩
    · simp
    · by_cases hi : i < z2.length
      · have := bounds_u16 (hw (z2.getD i 0) (by simp [List.getD, hi]))
        exact this
      · simp [List.getD, List.getElem?_eq_none (Nat.le_of_not_lt hi)]
  refine walk_main a0 K a2 len2 cap2 w b0.1 b0.2 (by omega) (by omega) (fun i => z2.getD i 0) zb ?_
  intro i hi
  rcases w2 with ⟨_, rfl, _, rfl⟩ | ⟨x, rfl, hl, hm, hz, hc, hw⟩
  · omega
  · have h := hc i (by omega)
    obtain ⟨b, off, sp⟩ := x
    have hs : sp = none := by simpa [Addr.add] using World.cell?_spot (hc 0 (by omega))
    subst hs
    rw [Addr.add_mid] at h
    exact ⟨b, off, rfl, World.block_lt_of_cell? w _ h, h⟩

/-! ### THE ROW's STEP: WRITTEN OUT -/
set_option maxRecDepth 100000 in
theorem lifted (os : Os) (started : os.Started) (H : Type) (enc : TypeId × Value → H) :
    ReturnsInHanded {} Yba.checked os 4 .any (Rows.lawS4293BNewestSpec.pre6 enc Yba.prog Yba.f4 Rows.lawS4293BNewestRow.domain false) (Rows.lawS4293BNewestSpec.post enc Yba.prog Yba.f4 false true false false) := by
  refine returnsInHanded_of_change (C := Yba.checked) own started (by kernel_rfl) Yba.func4
    (ChangeSpec.witness6 (enc := enc) (C := Yba.checked) false ⟨#[], #[.int .i32 0, .int .u16 0, .slice none 0 0], []⟩ 8 (by kernel_rfl) (by kernel_rfl) (by kernel_rfl) (by kernel_rfl)) ?_
  intro W base args ds gs before hval0 hW hcnd _
  have hval : ∀ (j : Nat) t v, Yba.f4.params[j]? = some t → args[j]? = some v → Value.okWide Yba.prog W .any base t v := hval0
  have hW' := hW
  obtain ⟨p, q, hA0, hV, rfl, hfz, hnd⟩ := hW
  have hA : DataW.TrodAll enc Yba.prog W 0 (fun _ => true) true Yba.f4.params.toList args.toList ds p := hA0
  rw [Yba.params4] at hA hval
  obtain ⟨v0, vs0, d0, ds0, p0, q0, hargs, rfl, rfl, h0, r0⟩ := trodAll_cons hA
  obtain ⟨v1, vs1, d1, ds1, p1, q1, rfl, rfl, rfl, h1, r1⟩ := trodAll_cons r0
  obtain ⟨v2, vs2, d2, ds2, p2, q2, rfl, rfl, rfl, h2, r2⟩ := trodAll_cons r1
  obtain ⟨rfl, rfl, rfl⟩ := trodAll_nil r2
  obtain rfl : args = #[v0, v1, v2] := by cases args; simp_all
  obtain ⟨rfl, rfl⟩ := trodVars_none hV
  obtain ⟨a0, rfl, rfl, rfl, w0⟩ := open_int Yba.underlying21 (hval 0 21 v0 rfl rfl) h0
  obtain ⟨a1, rfl, rfl, rfl, w1⟩ := open_int Yba.underlying45 (hval 1 45 v1 rfl rfl) h1
  obtain ⟨a2, len2, cap2, rfl⟩ := okWide_slice Yba.underlying46 (hval 2 46 v2 rfl rfl)
  have k2 := h2
  have lt2 : ∀ x ∈ p2, x.block < W.heap.size := by obtain ⟨m, hm⟩ := k2; exact DataW.trod_lt m _ _ _ hm
  obtain ⟨z2, w2⟩ : ∃ zs, IsRow .u16 W a2 len2 cap2 zs := by
    obtain ⟨fuel, hf⟩ := h2
    rcases open_ints Yba.underlying46 Yba.underlying45 (by kernel_rfl) hf with ⟨hcs, _⟩ | ⟨x, l, c, zs, hcs, _, hl, hm, hz, _, hcell, hwz⟩
    · simp [Value.cells] at hcs
      obtain ⟨rfl, rfl, rfl⟩ := hcs
      exact ⟨[], .inl ⟨rfl, rfl, rfl, rfl⟩⟩
    · simp [Value.cells] at hcs
      obtain ⟨rfl, rfl, rfl⟩ := hcs
      exact ⟨zs, .inr ⟨_, rfl, hl, hm, by simpa using hz, hcell, hwz⟩⟩
  clear hA0 hval0
  refine (walk a0 a1 a2 len2 cap2 z2 W w0 w1 w2).mono fun e W' ⟨he, bel⟩ => ?_
  subst he
  exact ⟨_, rfl, _, _, _, [], _, [], hW', trodAll_mk1 (shut_bool Yba.underlying4 _), (trodAll_cons_mk (shut_int Yba.underlying21 w0) (trodAll_cons_mk (shut_int Yba.underlying45 w1) (trodAll_cons_mk (Below.trod laidOut (by kernel_rfl) (of_decide_eq_true (by kernel_rfl)) k2 bel lt2) trodAll_mk0))), rfl, bel.frame _, fun h => by cases h⟩

theorem over : Rows.lawS4293BNewestRow.holds Yba.pinned (OpenSpec.ofChange Rows.lawS4293BNewestSpec) :=
  OpenClaim.holds_of_wide 4 Yba.f4 rfl rfl rfl rfl rfl rfl rfl ⟨rfl, rfl, rfl, rfl, rfl⟩ rfl rfl rfl rfl rfl (by kernel_rfl) Yba.func4 (by kernel_rfl)
    (of_decide_eq_true (by kernel_rfl)) (by unfold Func.isWrapper; first | (rw [if_pos (by decide +kernel)]; kernel_rfl) | (rw [if_neg (by decide +kernel)]; exact ⟨rfl, rfl⟩))
    (fun os started H enc _ => lifted os started H enc)

/-- ████ THE STATEMENT ████ -/
theorem proved : Rows.LawS4293BNewestSaid := over
end Go.Proofs.Ybulkcjwq.lawS4293BNewest
