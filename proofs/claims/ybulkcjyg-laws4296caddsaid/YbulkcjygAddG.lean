import Derived.Test.YbulkcjygAddF
namespace Go.Proofs.Ybulkcjyg.Add
open Go.RowKit
set_option linter.unusedVariables false

/-- The whole of what the law has built. -/
structure St (B : Nat) (w : World) (T E S : Nat) (wt : Value) (en cr qu : Bool) (m k x g : Int) (np : Nat) (xp : List Value) (f : Nat → Nat) (xs : Nat → List Value) : Prop where
  t : ∃ vp, IsT w T wt vp ∧ w.ownsRow B 58 5 vp np xp
  s : ∃ V, IsS w S V g ∧ Rows w B V f xs
  e : ∃ cp qp, IsE w E en cp qp ∧ Crowd B w cr cp T m k x ∧ Queue B w qu qp
  hB : B ≤ w.heap.size
  BT : B ≤ T
  BS : B ≤ S
theorem St.trn {B B' : Nat} {w w' : World} {T E S : Nat} {wt : Value} {en cr qu : Bool} {m k x g : Int} {np : Nat} {xp : List Value} {f : Nat → Nat} {xs : Nat → List Value} (h : St B w T E S wt en cr qu m k x g np xp f xs) (ht : Trn B' [] w w') : St B w' T E S wt en cr qu m k x g np xp f xs := by
  obtain ⟨⟨vp, h1, h2⟩, ⟨V, h3, h4⟩, ⟨cp, qp, h5, h6, h7⟩, h8, h9, h10⟩ := h
  exact ⟨⟨vp, h1.trn ht (by simp), row_trn h2 ht (by simp)⟩, ⟨V, h3.trn ht (by simp), h4.trn ht (by simp)⟩, ⟨cp, qp, h5.trn ht (by simp), h6.trn ht (by simp) (by simp), h7.trn ht (by simp)⟩, Nat.le_trans h8 ht.le, h9, h10⟩
/-- The number of grants alone turns. -/
theorem St.count {B : Nat} {w : World} {T E S : Nat} {wt : Value} {en cr qu : Bool} {m k x g : Int} {np : Nat} {xp : List Value} {f : Nat → Nat} {xs : Nat → List Value} (h : St B w T E S wt en cr qu m k x g np xp f xs) (g' : Int) :
    St B (w.setCell ⟨S, 8, none⟩ (.int .u64 g')) T E S wt en cr qu m k x g' np xp f xs ∧ Trn B [88] w (w.setCell ⟨S, 8, none⟩ (.int .u64 g')) := by
  obtain ⟨⟨vp, h1, h2⟩, ⟨V, h3, h4⟩, ⟨cp, qp, h5, h6, h7⟩, h8, h9, h10⟩ := h
  have ht : Trn B [88] w (w.setCell ⟨S, 8, none⟩ (.int .u64 g')) := by
    obtain ⟨c, hc, _⟩ := h3
    refine Trn.of_turn ((Turn.refl (fun b => b = S) w).set S 8 _ rfl) h8 ?_
    rintro b rfl
    exact ⟨h10, fun o ho => by rw [hc] at ho; cases ho; simp [knd]⟩
  exact ⟨⟨⟨vp, h1.trn ht (by simp), row_trn h2 ht (by simp)⟩, ⟨V, h3.set8 g', h4.trn ht (by simp)⟩, ⟨cp, qp, h5.trn ht (by simp), h6.trn ht (by simp) (by simp), h7.trn ht (by simp)⟩, Nat.le_trans h8 ht.le, h9, h10⟩, ht⟩

/-- The locals of 'add' are laid and the count has gone up. -/
theorem add_laid {B : Nat} {w : World} {T E S : Nat} {wt : Value} {en cr qu : Bool} {m k x g : Int} {np : Nat} {xp : List Value} {f : Nat → Nat} {xs : Nat → List Value} (h : St B w T E S wt en cr qu m k x g np xp f xs) (g' : Int) (o1 o2 : Obj) :
    St B (((w.setCell ⟨S, 8, none⟩ (.int .u64 g')).alloc o1).alloc o2).drew T E S wt en cr qu m k x g' np xp f xs ∧ Trn B [88] w (((w.setCell ⟨S, 8, none⟩ (.int .u64 g')).alloc o1).alloc o2).drew := by
  have h2 := h.count g'
  have h1 : Trn B [] (w.setCell ⟨S, 8, none⟩ (.int .u64 g')) (((w.setCell ⟨S, 8, none⟩ (.int .u64 g')).alloc o1).alloc o2).drew := ((Trn.refl B [] _).alloc h2.1.hB o1 |>.alloc (by have := h2.1.hB; simp at this ⊢; omega) o2).drew
  exact ⟨h2.1.trn h1, h2.2.trans (h1.wide (by simp))⟩

set_option maxHeartbeats 3200000 in
theorem add_skip (B T E S : Nat) (wt : Value) (en cr qu : Bool) (m x g : Int) (np : Nat) (xp : List Value) (f : Nat → Nat) (xs : Nat → List Value) (w : World) (h : St B w T E S wt en cr qu m 3 x g np xp f xs) :
    Calls Yba.prog 8 #[.pointer (some ⟨S, 0, none⟩), .pointer (some ⟨E, 0, none⟩), .agg #[.pointer (some ⟨T, 0, none⟩), .int .u8 m, .int .u8 3]] w fun e w' => e = .returned (.tuple #[]) ∧
      St B w' T E S wt en cr qu m 3 x (IntKind.u64.wrap (g + 1)) np xp f xs ∧ Trn B [88, 56, 76, 1000, 42, 58] w w' := by
  obtain ⟨V, hS, hR⟩ := h.s
  have h8 := hS.c8
  have hf := hS.frz 8
  have hl := hS.lt
  go_enter Yba.func8, Yba.ntmps8
  go_wp2
  go_region
  all_goals go_wp2
  all_goals first | ((try simp only [Exit.inBlock, Exit.then]); refine bodyPost_ret (results_none rfl _ _ _) rfl ?_) | ((try simp only [Exit.inBlock, Exit.then]); refine bodyPost_end (results_none rfl _ _ _) rfl ?_)
  all_goals
    have hA := add_laid h (IntKind.u64.wrap (g + 1)) (.cells #[.pointer (some ⟨T, 0, none⟩), .int .u8 m, .int .u8 3] 54) (.cells #[.pointer (some ⟨T, 0, none⟩), .int .u8 m, .int .u8 3, .int .u64 g] 56)
    exact ⟨rfl, hA.1, hA.2.wide (by simp)⟩

/-- What the five cells of a parked grant are. -/
def pcells (E T : Nat) (m k start : Int) : List Value := [.pointer (some ⟨E, 0, none⟩), .pointer (some ⟨T, 0, none⟩), .int .u8 m, .int .u8 k, .int .u64 start]

set_option maxHeartbeats 3200000 in
theorem add_park (B T E S : Nat) (en cr qu : Bool) (m k x g : Int) (np : Nat) (xp : List Value) (f : Nat → Nat) (xs : Nat → List Value) (w : World) (h : St B w T E S (.pointer none) en cr qu m k x g np xp f xs) (hk : k ≠ 3) (hnp : np < 4) :
    Calls Yba.prog 8 #[.pointer (some ⟨S, 0, none⟩), .pointer (some ⟨E, 0, none⟩), .agg #[.pointer (some ⟨T, 0, none⟩), .int .u8 m, .int .u8 k]] w fun e w' => e = .returned (.tuple #[]) ∧
      St B w' T E S (.pointer none) en cr qu m k x (IntKind.u64.wrap (g + 1)) (np + 1) (xp ++ pcells E T m k g) f xs ∧ Trn B [88, 56, 76, 1000, 42, 58] w w' := by
  obtain ⟨V, hS, hR⟩ := h.s
  have h8 := hS.c8
  have hf := hS.frz 8
  have hl := hS.lt
  obtain ⟨vp, hT, hown⟩ := h.t
  have h4 := hT.c4
  have hTl := hT.lt
  have hTS : T ≠ S := by
    obtain ⟨c, hc, _⟩ := hT
    obtain ⟨d, hd, _⟩ := hS
    exact ne_type hc hd (by decide)
  have hST := Ne.symm hTS
  have hA := add_laid h (IntKind.u64.wrap (g + 1)) (.cells #[.pointer (some ⟨T, 0, none⟩), .int .u8 m, .int .u8 k] 54) (.cells #[.pointer (some ⟨T, 0, none⟩), .int .u8 m, .int .u8 k, .int .u64 g] 56)
  obtain ⟨vp, hT2, hown2⟩ := hA.1.t
  go_enter Yba.func8, Yba.ntmps8
  go_wp2
  go_region
  all_goals go_wp2_with (go_at_call 9; refine (park_any B T E m k g (.pointer none) vp np xp _ hA.1.hB hT2 hown2 hnp).mono ?_; rintro e w2 ⟨rfl, vp2, hp1, hp2, hp3⟩)
  all_goals first | ((try simp only [Exit.inBlock, Exit.then]); refine bodyPost_ret (results_none rfl _ _ _) rfl ?_) | ((try simp only [Exit.inBlock, Exit.then]); refine bodyPost_end (results_none rfl _ _ _) rfl ?_)
  all_goals
    refine ⟨rfl, ?_⟩
    obtain ⟨hA1, hA2⟩ := hA
    have ht : Trn B [42, 58] _ w2 := Trn.of_turn hp3 hA1.hB (by
      rintro b (rfl | hb)
      · obtain ⟨c, hc, _⟩ := hT2
        exact ⟨hA1.BT, fun o ho => by rw [hc] at ho; cases ho; simp [knd]⟩
      · have := row_knd hown2 hb
        exact ⟨this.1, fun o ho => by rw [this.2 o ho]; simp⟩)
    obtain ⟨_, ⟨V3, h3, h4⟩, ⟨cp, qp, h5, h6, h7⟩, h8, h9, h10⟩ := hA1
    exact ⟨⟨⟨vp2, hp1, hp2⟩, ⟨V3, h3.trn ht (by simp), h4.trn ht (by simp)⟩, ⟨cp, qp, h5.trn ht (by simp), h6.trn ht (by simp) (by simp), h7.trn ht (by simp)⟩, Nat.le_trans h8 ht.le, h9, h10⟩, (hA2.wide (by simp)).trans (ht.wide (by simp))⟩

set_option maxHeartbeats 3200000 in
theorem add_put (B T E S br : Nat) (en cr qu : Bool) (m k x g : Int) (np : Nat) (xp : List Value) (f : Nat → Nat) (xs : Nat → List Value) (typ : Nat) (w : World) (h : St B w T E S (.pointer (some ⟨br, 0, none⟩)) en cr qu m k x g np xp f xs) (hk : k ≠ 3)
    (hm0 : 0 ≤ m) (hm1 : m < 2) (hk0 : 0 ≤ k) (hk1 : k < 4) (htyp : k * 2 + m = typ) (hft : f typ < 5) :
    Calls Yba.prog 8 #[.pointer (some ⟨S, 0, none⟩), .pointer (some ⟨E, 0, none⟩), .agg #[.pointer (some ⟨T, 0, none⟩), .int .u8 m, .int .u8 k]] w fun e w' => e = .returned (.tuple #[]) ∧
      St B w' T E S (.pointer (some ⟨br, 0, none⟩)) en cr qu m k (bif plc cr en k then (f typ : Int) else x) (IntKind.u64.wrap (g + 1)) np xp (updN f typ (f typ + 1)) (updL xs typ (xs typ ++ gcells T m k g)) ∧ Trn B [88, 56, 76, 1000, 42, 58] w w' := by
  obtain ⟨V, hS, hR⟩ := h.s
  have h8 := hS.c8
  have hf := hS.frz 8
  have hl := hS.lt
  obtain ⟨vp, hT, hown⟩ := h.t
  have h4 := hT.c4
  have hTl := hT.lt
  have hTS : T ≠ S := by
    obtain ⟨c, hc, _⟩ := hT
    obtain ⟨d, hd, _⟩ := hS
    exact ne_type hc hd (by decide)
  have hST := Ne.symm hTS
  have hA := add_laid h (IntKind.u64.wrap (g + 1)) (.cells #[.pointer (some ⟨T, 0, none⟩), .int .u8 m, .int .u8 k] 54) (.cells #[.pointer (some ⟨T, 0, none⟩), .int .u8 m, .int .u8 k, .int .u64 g] 56)
  obtain ⟨V2, hS2, hR2⟩ := hA.1.s
  obtain ⟨cp, qp, hE2, hC2, hQ2⟩ := hA.1.e
  go_enter Yba.func8, Yba.ntmps8
  go_wp2
  go_region
  all_goals go_wp2_with (go_at_call 10; refine (put_any B S E T en cr qu cp qp m k x g (IntKind.u64.wrap (g + 1)) V2 f xs typ _ hA.1.hB hA.1.BS hm0 hm1 hk0 hk1 htyp hft hS2 hR2 hE2 hC2 hQ2).mono ?_; rintro e w2 ⟨rfl, hp1, hp2, hp3, hp4, ht⟩)
  all_goals first | ((try simp only [Exit.inBlock, Exit.then]); refine bodyPost_ret (results_none rfl _ _ _) rfl ?_) | ((try simp only [Exit.inBlock, Exit.then]); refine bodyPost_end (results_none rfl _ _ _) rfl ?_)
  all_goals
    refine ⟨rfl, ?_⟩
    obtain ⟨hA1, hA2⟩ := hA
    obtain ⟨⟨vp3, h1, h2⟩, _, _, h8, h9, h10⟩ := hA1
    exact ⟨⟨⟨vp3, h1.trn ht (by simp), row_trn h2 ht (by simp)⟩, hp1, ⟨cp, qp, hp2, hp3, hp4⟩, Nat.le_trans h8 ht.le, h9, h10⟩, (hA2.wide (by simp)).trans (ht.wide (by simp))⟩
end Go.Proofs.Ybulkcjyg.Add
