import Derived.Test.YbulkcjziResolve
import Derived.Deep.DeepCutAuto
namespace Go.Proofs.Ybulkcjzi.Base
open Go.RowKit
set_option linter.unusedVariables false

/-- What is known after the first call of resolve: block N the supervisor, block N + 2 the child. -/
def Aft (N : Nat) (w w1 : World) (cS cC : Array Value) : Prop :=
  w1.heap[N]? = some (.cells cS 41 (0, 0)) ∧ w1.heap[N + 2]? = some (.cells cC 45 (0, 0)) ∧ Below N w w1

theorem aft_mk {w w1 : World} {cS cM cC : Array Value} (hb : Below (((w.alloc (.cells cS 41)).alloc (.cells cM 45)).alloc (.cells cC 45)).heap.size (((w.alloc (.cells cS 41)).alloc (.cells cM 45)).alloc (.cells cC 45)) w1) : Aft w.heap.size w w1 cS cC := by
  refine ⟨?_, ?_, ?_⟩
  · rw [hb.block _ (by simp; omega), Below.heap_alloc _ _ _ (by simp; omega), Below.heap_alloc _ _ _ (by simp)]; exact Go.Deep.blk_alloc_new _ _
  · rw [hb.block _ (by simp)]
    have := Go.Deep.blk_alloc_new ((w.alloc (.cells cS 41)).alloc (.cells cM 45)) (.cells cC 45)
    simpa using this
  · exact ((((Below.refl _ _).alloc (Nat.le_refl _) _).alloc (by simp) _).alloc (by simp; omega) _).trans (hb.mono (by simp; omega))
theorem Aft.alloc {N : Nat} {w w1 : World} {cS cC : Array Value} (h : Aft N w w1 cS cC) (o : Obj) : Aft N w (w1.alloc o) cS cC :=
  ⟨by rw [Below.heap_alloc _ _ _ (blk_lt h.1)]; exact h.1, by rw [Below.heap_alloc _ _ _ (blk_lt h.2.1)]; exact h.2.1, h.2.2.alloc (by have := blk_lt h.1; omega) _⟩
theorem Aft.below {N : Nat} {w w1 w2 : World} {cS cC : Array Value} (h : Aft N w w1 cS cC) (hb : Below w1.heap.size w1 w2) : Aft N w w2 cS cC :=
  ⟨by rw [hb.block _ (blk_lt h.1)]; exact h.1, by rw [hb.block _ (blk_lt h.2.1)]; exact h.2.1, h.2.2.trans (hb.mono (by have := blk_lt h.1; omega))⟩
theorem cell_blk {w : World} {b i : Nat} {c : Array Value} {t : TypeId} {f : Nat × Nat} {v : Value} (h : w.heap[b]? = some (.cells c t f)) (hv : c[i]? = some v) : w.cell? ⟨b, i, none⟩ = some v := by simp [World.cell?, h, hv]

theorem end_below {N : Nat} {w w2 w3 : World} {o : Obj} (h : Below N w w2) (hN : N ≤ w2.heap.size) (hb : Below (w2.alloc o).drew.heap.size (w2.alloc o).drew w3) : Below N w w3 := (h.alloc hN o).drew.trans (hb.mono (by simp; omega))

theorem orf_nz {a b : Int} (h : (a != 0) = true) : orf a b = a := by unfold orf; rw [if_neg (by simpa using h)]

set_option maxRecDepth 100000 in
set_option maxHeartbeats 2000000 in
theorem law_any (nm : ByteArray) (r d sd st : Int) (sig sup sn : Bool) (w : World) :
    Calls Yba.prog 3 #[.string nm, .int .i64 r, .int .i64 d, .int .i64 sd, .int .i64 st, .bool sig, .bool sup, .bool sn] w fun e w' => e = .returned (.bool true) ∧ Below w.heap.size w w' := by
  have nf := neqFn
  obtain ⟨R, hR⟩ : ∃ R, R = orf r (orf d 2) := ⟨_, rfl⟩
  obtain ⟨S, hS⟩ : ∃ S, S = sdf sd sup := ⟨_, rfl⟩
  have HR : Hid (R = orf r (orf d 2)) := hR
  have HS : Hid (S = sdf sd sup) := hS
  obtain ⟨G, hG⟩ : ∃ G, G = (sig || sup) := ⟨_, rfl⟩
  have HG : Hid (G = (sig || sup)) := hG
  clear hR hS hG
  go_enter Yba.func3, Yba.ntmps3
  go_upto_if 37 with (first
    | (go_at_call 5; refine (mk_any nm r sd st sig sup sn _).mono ?_; rintro e w' ⟨rfl, rfl⟩)
    | (go_at_call 6; refine (resolve_any w.heap.size nm r d sd st sig sup sn _ ?_).mono ?_; (focus (simp [go_sem])); rw [← HR.out, ← HS.out, ← HG.out]; rintro e w1 ⟨rfl, hb⟩; have ha := aft_mk hb; clear hb; obtain ⟨⟨q0, q1, q2, q3, q4, q5, q6, q7⟩, qf⟩ := eight ha.2.1; have hz : w.heap.size + 2 < w1.heap.size := blk_lt ha.2.1))
  go_cut [] (fun wc => wc = (w1.alloc (.cells #[.string nm, .nilFunc, .int .i64 R, .int .i64 S, .bool G, .int .i64 st, .bool sup, .bool sn] 45)).alloc (.cells #[.string nm, .nilFunc, .int .i64 R, .int .i64 sd, .bool sig, .int .i64 st, .bool sup, .bool sn] 45))
  case first =>
    cases h1 : (r != 0)
    · cases h2 : (d != 0)
      · have e : R = 2 := by rw [HR.out, show r = 0 by simpa using h1, show d = 0 by simpa using h2]; rfl
        subst e
        go_wp2
        go_meet
        case rel => rfl
      · have e : R = d := by rw [HR.out, show r = 0 by simpa using h1, orf_nz h2]; rfl
        subst e
        go_wp2
        go_meet
        case rel => rfl
    · have e : R = r := by rw [HR.out, orf_nz h1]
      subst e
      go_wp2
      go_meet
      case rel => rfl
  case rest =>
    subst hcut
    clear HR
    go_upto_if 46 with fail
    go_cut [] (fun wc => wc = (w1.alloc (.cells #[.string nm, .nilFunc, .int .i64 R, .int .i64 S, .bool G, .int .i64 st, .bool sup, .bool sn] 45)).alloc (.cells #[.string nm, .nilFunc, .int .i64 R, .int .i64 S, .bool sig, .int .i64 st, .bool sup, .bool sn] 45))
    case first =>
      cases h1 : (sd != 0)
      · cases sup
        · have e : S = 5000000000 := by rw [HS.out, show sd = 0 by simpa using h1]; rfl
          subst e
          go_wp2
          go_meet
          case rel => rfl
        · have e : S = -1 := by rw [HS.out, show sd = 0 by simpa using h1]; rfl
          subst e
          go_wp2
          go_meet
          case rel => rfl
      · have e : S = sd := by rw [HS.out]; unfold sdf; rw [if_neg (by simpa using h1)]
        subst e
        go_wp2
        go_meet
        case rel => rfl
    case rest =>
      subst hcut
      clear HS
      go_upto_region 15 with fail
      go_cut [] (fun wc => wc = (w1.alloc (.cells #[.string nm, .nilFunc, .int .i64 R, .int .i64 S, .bool G, .int .i64 st, .bool sup, .bool sn] 45)).alloc (.cells #[.string nm, .nilFunc, .int .i64 R, .int .i64 S, .bool G, .int .i64 st, .bool sup, .bool sn] 45))
      case first =>
        cases sig
        · have e : G = sup := HG.out
          subst e
          go_wp2
          go_meet
          case rel => rfl
        · have e : G = true := HG.out
          subst e
          go_wp2
          go_meet
          case rel => rfl
      case rest =>
        subst hcut
        clear HG
        go_upto_region 22 with (first
          | (go_at_call 7; refine (eq_same nm R S st G sup sn _).mono ?_; rintro e w2 ⟨rfl, hb2⟩; have ha2 := ((ha.alloc _).alloc _).below hb2; have g1 : w2.cell? ⟨w1.heap.size, 1, none⟩ = some .nilFunc := (by rw [hb2.cell (p := ⟨w1.heap.size, 1, none⟩) (by simp; omega)]; simp [go_sem]); have g2 : w2.cell? ⟨w.heap.size, 0, none⟩ = some (.string ⟨#[115]⟩) := cell_blk ha2.1 rfl; have g3 : w2.cell? ⟨w.heap.size, 4, none⟩ = some (.int .i64 d) := cell_blk ha2.1 rfl; clear ha hb2 hz q0 q1 q2 q3 q4 q5 q6 q7 qf))
        clear g1 g2 g3
        obtain ⟨⟨q0, q1, q2, q3, q4, q5, q6, q7⟩, qf⟩ := eight ha2.2.1
        have hz : w.heap.size + 2 < w2.heap.size := blk_lt ha2.2.1
        go_region_with (first
          | (go_at_call 5; refine (mk_any nm r sd st sig sup sn _).mono ?_; rintro e w' ⟨rfl, rfl⟩)
          | (go_at_call 7; refine (eq_same nm r sd st sig sup sn _).mono ?_; rintro e w3 ⟨rfl, hb3⟩))
        all_goals
          go_wp2
          go_ret
          exact ⟨rfl, end_below ha2.2.2 (by omega) hb3⟩
end Go.Proofs.Ybulkcjzi.Base
