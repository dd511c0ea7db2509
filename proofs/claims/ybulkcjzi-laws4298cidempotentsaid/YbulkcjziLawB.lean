import Derived.Test.YbulkcjziLawA
namespace Go.Proofs.Ybulkcjzi.Base
open Go.RowKit
set_option linter.unusedVariables false

theorem orf_ne (r d : Int) : (orf r (orf d 2) == 0) = false := by
  rw [beq_eq_false_iff_ne]; unfold orf; split
  · split
    · decide
    · assumption
  · assumption
theorem orf_of_ne {R : Int} (x : Int) (h : (R == 0) = false) : orf R x = R := by unfold orf; rw [if_neg (by simpa using h)]
theorem sdf_ne (sd : Int) (sup : Bool) : (sdf sd sup == 0) = false := by
  rw [beq_eq_false_iff_ne]; unfold sdf; split
  · cases sup <;> decide
  · assumption
theorem sdf_of_ne {S : Int} (sup : Bool) (h : (S == 0) = false) : sdf S sup = S := by unfold sdf; rw [if_neg (by simpa using h)]

/-- Block A holds the resolved child; below N nothing has turned. -/
def Res (N A : Nat) (w w1 : World) (c : Array Value) : Prop := w1.heap[A]? = some (.cells c 45 (0, 0)) ∧ N ≤ A ∧ Below N w w1
theorem Res.alloc {N A : Nat} {w w1 : World} {c : Array Value} (h : Res N A w w1 c) (o : Obj) : Res N A w (w1.alloc o) c :=
  ⟨by rw [Below.heap_alloc _ _ _ (blk_lt h.1)]; exact h.1, h.2.1, h.2.2.alloc (by have := blk_lt h.1; have := h.2.1; omega) _⟩
theorem Res.below {N A : Nat} {w w1 w2 : World} {c : Array Value} (h : Res N A w w1 c) (hb : Below w1.heap.size w1 w2) : Res N A w w2 c :=
  ⟨by rw [hb.block _ (blk_lt h.1)]; exact h.1, h.2.1, h.2.2.trans (hb.mono (by have := blk_lt h.1; have := h.2.1; omega))⟩
theorem res_new {N : Nat} {w w1 : World} (c : Array Value) (h : Below N w w1) (hN : N ≤ w1.heap.size) : Res N w1.heap.size w (w1.alloc (.cells c 45)) c :=
  ⟨Go.Deep.blk_alloc_new _ _, hN, h.alloc hN _⟩

set_option maxRecDepth 100000 in
set_option maxHeartbeats 2000000 in
theorem idem_any (nm : ByteArray) (r d d2 sd st : Int) (sig sup sn : Bool) (w : World) :
    Calls Yba.prog 4 #[.string nm, .int .i64 r, .int .i64 d, .int .i64 d2, .int .i64 sd, .int .i64 st, .bool sig, .bool sup, .bool sn] w fun e w' => e = .returned (.bool true) ∧ Below w.heap.size w w' := by
  have r0 := orf_ne r d
  have s0 := sdf_ne sd sup
  obtain ⟨R, hR⟩ : ∃ R, R = orf r (orf d 2) := ⟨_, rfl⟩
  obtain ⟨S, hS⟩ : ∃ S, S = sdf sd sup := ⟨_, rfl⟩
  obtain ⟨G, hG⟩ : ∃ G, G = (sig || sup) := ⟨_, rfl⟩
  rw [← hR] at r0
  rw [← hS] at s0
  have hGs : sup = true → G = true := by rw [hG]; intro h; simp [h]
  have HGs : Hid (sup = true → G = true) := hGs
  have HGG : Hid ((G || sup) = G) := by show (G || sup) = G; rw [hG]; cases sig <;> cases sup <;> rfl
  have HR : Hid (R = orf r (orf d 2)) := hR
  have HS : Hid (S = sdf sd sup) := hS
  have HG : Hid (G = (sig || sup)) := hG
  clear hR hS hG hGs
  go_enter Yba.func4, Yba.ntmps4
  go_upto_region 4 with (first
    | (go_at_call 5; refine (mk_any nm r sd st sig sup sn _).mono ?_; rintro e w' ⟨rfl, rfl⟩)
    | (go_at_call 6; refine (resolve_any w.heap.size nm r d sd st sig sup sn _ ?_).mono ?_; (focus (simp [go_sem])); rw [← HR.out, ← HS.out, ← HG.out]; rintro e w1 ⟨rfl, hb⟩; have ha := aft_mk hb; clear hb))
  have hz : w.heap.size + 2 < w1.heap.size := blk_lt ha.2.1
  have hr1 := res_new #[.string nm, .nilFunc, .int .i64 R, .int .i64 S, .bool G, .int .i64 st, .bool sup, .bool sn] ha.2.2 (by omega)
  have hd1 : ∀ o, (w1.alloc o).cell? ⟨w.heap.size, 4, none⟩ = some (.int .i64 d) := fun o => cell_blk (ha.alloc o).1 rfl
  clear ha
  go_upto_region 6 with fail
  go_cut [52] (fun b wc => b = .bool false ∧ wc = w1.alloc (.cells #[.string nm, .nilFunc, .int .i64 R, .int .i64 S, .bool G, .int .i64 st, .bool sup, .bool sn] 45))
  case first =>
    cases sup
    · go_wp2
      go_meet
      case rel => exact ⟨rfl, rfl⟩
    · obtain rfl : G = true := HGs.out rfl
      go_wp2
      go_meet
      case rel => exact ⟨rfl, rfl⟩
  case rest =>
    obtain ⟨rfl, rfl⟩ := hcut
    clear HR HS HG HGs
    have hz1 : w.heap.size < w1.heap.size := by omega
    go_upto_region 9 with (first
      | (go_at_call 6; refine (resolve_any w.heap.size nm R d S st G sup sn _ (hd1 _)).mono ?_; rw [orf_of_ne _ r0, sdf_of_ne _ s0, HGG.out]; rintro e w2 ⟨rfl, hb⟩; have hr2 := hr1.below hb; clear hb hr1 hd1; obtain ⟨⟨q0, q1, q2, q3, q4, q5, q6, q7⟩, qf⟩ := eight hr2.1; have hz2 : w1.heap.size < w2.heap.size := blk_lt hr2.1))
    go_upto_region 12 with (first
      | (go_at_call 7; refine (eq_same nm R S st G sup sn _).mono ?_; rintro e w3 ⟨rfl, hb⟩; have hr3 := (hr2.alloc _).below hb; clear hb hr2 hz2 q0 q1 q2 q3 q4 q5 q6 q7 qf; obtain ⟨⟨q0, q1, q2, q3, q4, q5, q6, q7⟩, qf⟩ := eight hr3.1; have hz3 : w1.heap.size < w3.heap.size := blk_lt hr3.1))
    go_upto_region 13 with (first
      | (go_at_call 6; refine (resolve_any w3.heap.size nm R d2 S st G sup sn _ ?_).mono ?_; (focus (simp [go_sem])); rw [orf_of_ne _ r0, sdf_of_ne _ s0, HGG.out]; rintro e w4 ⟨rfl, hb⟩; have hr4 := (hr3.alloc _).below hb; clear hb hr3 hz3 q0 q1 q2 q3 q4 q5 q6 q7 qf; obtain ⟨⟨q0, q1, q2, q3, q4, q5, q6, q7⟩, qf⟩ := eight hr4.1; have hz4 : w1.heap.size < w4.heap.size := blk_lt hr4.1))
    go_wp2_with (first
      | (go_at_call 7; refine (eq_same nm R S st G sup sn _).mono ?_; rintro e w5 ⟨rfl, hb⟩; have hr5 := (hr4.alloc _).below hb; clear hb hr4))
    go_ret
    exact ⟨rfl, hr5.2.2⟩
end Go.Proofs.Ybulkcjzi.Base
