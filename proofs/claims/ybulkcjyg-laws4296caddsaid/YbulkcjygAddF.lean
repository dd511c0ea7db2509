import Derived.Test.YbulkcjygAddE
namespace Go.Proofs.Ybulkcjyg.Add
open Go.RowKit
set_option linter.unusedVariables false

theorem blk_new1 (u : World) (o1 : Obj) : (u.alloc o1).drew.heap[u.heap.size]? = some o1 := blk_new u o1
theorem turn1 (X : Nat → Prop) (u : World) (o1 : Obj) : Turn X u (u.alloc o1).drew := ((Turn.refl X u).alloc _).drew

theorem rows_push {w w1 : World} {B S : Nat} {V : Nat → Value} {f : Nat → Nat} {xs : Nat → List Value} {g : Int} {t : Nat} {vo : Option Addr} {vc gg cap : Nat} {xs' : List Value} {o : Obj} (hB : B ≤ w.heap.size) (hBS : B ≤ S) (hS1 : IsS w1 S V g) (hR : Rows w B V f xs) (ht8 : t < 8)
    (hv : V t = .slice vo (f t) vc) (hown1 : w1.ownsRow B 56 4 (.slice (some ⟨gg, 0, none⟩) (f t + 1) cap) (f t + 1) xs') (ht1 : Turn (fun b => (Value.slice vo (f t) vc).ownBlock = some b) w w1) (hat : (Value.slice vo (f t) vc).ownBlock = some gg ∨ gg = (w.alloc o).drew.heap.size) :
    (∃ V', IsS (w1.setCell ⟨S, t, none⟩ (.slice (some ⟨gg, 0, none⟩) (f t + 1) cap)) S V' g ∧ Rows (w1.setCell ⟨S, t, none⟩ (.slice (some ⟨gg, 0, none⟩) (f t + 1) cap)) B V' (updN f t (f t + 1)) (updL xs t xs')) ∧ Trn B [88, 56] w (w1.setCell ⟨S, t, none⟩ (.slice (some ⟨gg, 0, none⟩) (f t + 1) cap)) := by
  rw [← hv] at ht1 hat
  have hg := hR.grow ht8 hown1 ht1 (by
    rcases hat with h | h
    · exact .inl h
    · right; rw [h]; exact (turn1 (fun _ => False) w o).size)
  have hx : Trn B [88, 56] w w1 := Trn.of_turn ht1 hB (fun b hb => ⟨(row_knd (hR.1 t ht8) hb).1, fun o ho => by rw [(row_knd (hR.1 t ht8) hb).2 o ho]; simp⟩)
  refine ⟨⟨_, hS1.set ht8 _, hg.of (fun i b hi hb => ?_)⟩, hx.trans ?_⟩
  · obtain ⟨c, hc, _⟩ := hS1
    exact Below.heap_setCell _ _ _ _ (by intro e1; simp only at e1; subst e1; exact row_ne (hg.1 i hi) hc (by decide) hb.symm)
  · obtain ⟨c, hc, _⟩ := hS1
    refine Trn.of_turn ((Turn.refl (fun b => b = S) w1).set S t _ rfl) (Nat.le_trans hB ht1.size) ?_
    rintro b rfl
    exact ⟨hBS, fun o ho => by rw [hc] at ho; cases ho; simp [knd]⟩
theorem one_trn {B b : Nat} {w w' : World} {a : Addr} {m k : Int} {v : Value} (h : OneIn w b a m k v) (hb : B ≤ b) (hB : B ≤ w.heap.size) (ht : Turn (fun x => x = b) w w') : Trn B [1000] w w' := by
  refine Trn.of_turn ht hB ?_
  rintro x rfl
  refine ⟨hb, fun o ho => ?_⟩
  obtain ⟨y, z, hz⟩ := h
  rw [hz] at ho; cases ho; simp [knd]
/-- What the four cells of a grant are. -/
def gcells (T : Nat) (m k start : Int) : List Value := [.pointer (some ⟨T, 0, none⟩), .int .u8 m, .int .u8 k, .int .u64 start]

set_option maxHeartbeats 3200000 in
theorem put_any (B S E T : Nat) (en cr qu : Bool) (cp qp : Value) (m k x start g : Int) (V : Nat → Value) (f : Nat → Nat) (xs : Nat → List Value) (typ : Nat) (w : World) (hB : B ≤ w.heap.size) (hBS : B ≤ S)
    (hm0 : 0 ≤ m) (hm1 : m < 2) (hk0 : 0 ≤ k) (hk1 : k < 4) (htyp : k * 2 + m = typ) (hf : f typ < 5)
    (hS : IsS w S V g) (hR : Rows w B V f xs) (hE : IsE w E en cp qp) (hC : Crowd B w cr cp T m k x) (hQ : Queue B w qu qp) :
    Calls Yba.prog 10 #[.pointer (some ⟨S, 0, none⟩), .pointer (some ⟨E, 0, none⟩), .agg #[.pointer (some ⟨T, 0, none⟩), .int .u8 m, .int .u8 k, .int .u64 start]] w fun e w' => e = .returned (.tuple #[]) ∧
      (∃ V', IsS w' S V' g ∧ Rows w' B V' (updN f typ (f typ + 1)) (updL xs typ (xs typ ++ gcells T m k start))) ∧ IsE w' E en cp qp ∧ Crowd B w' cr cp T m k (bif plc cr en k then (f typ : Int) else x) ∧ Queue B w' qu qp ∧ Trn B [88, 56, 76, 1000] w w' := by
  have ht8 : typ < 8 := by omega
  have ht8i : (typ : Int) < 8 := by omega
  have hSl := hS.lt
  have hEl := hE.lt
  have hown := hR.1 typ ht8
  obtain ⟨vo, vc, hv⟩ := row_shape hown
  have hob : ∀ b, (Value.slice vo (f typ) vc).ownBlock = some b → b < w.heap.size := fun b hb => (hown.lt b (by rw [hv]; exact hb)).2
  obtain ⟨i, hi, hz0, hz1, hz2⟩ := i56
  go_enter Yba.func10, Yba.ntmps10
  go_upto_region 2 with (go_at_call 11; refine (typeOf_any m k hm0 hm1 hk0 hk1 _).mono ?_; rintro e w1 ⟨rfl, hb1⟩; rw [htyp])
  have hal : B ≤ (w.alloc (.cells #[.pointer (some ⟨T, 0, none⟩), .int .u8 m, .int .u8 k, .int .u64 start] 56)).heap.size := by simp; omega
  have htr1 : Trn B [] w w1 := Trn.of_below ((Trn.refl B [] w).alloc hB _) hal hb1
  have hg1 := blk_below hb1 (blk_new w (.cells #[.pointer (some ⟨T, 0, none⟩), .int .u8 m, .int .u8 k, .int .u64 start] 56))
  have hg1l := blk_lt hg1
  have hB1 : B ≤ w1.heap.size := by omega
  replace hS := hS.trn htr1 (by decide)
  replace hR := hR.trn htr1 (by decide)
  replace hE := hE.trn htr1 (by decide)
  replace hC := hC.trn htr1 (by decide) (by decide)
  replace hQ := hQ.trn htr1 (by decide)
  replace hown := hR.1 typ ht8
  have hSl := hS.lt
  have hEl := hE.lt
  have hgc0 := cell_blk (i := 0) hg1 rfl
  have hgc1 := cell_blk (i := 1) hg1 rfl
  have hgc2 := cell_blk (i := 2) hg1 rfl
  have hgc3 := cell_blk (i := 3) hg1 rfl
  clear hal hb1
  go_cut [] (fun wd => (∃ V', IsS wd S V' g ∧ Rows wd B V' (updN f typ (f typ + 1)) (updL xs typ (xs typ ++ gcells T m k start))) ∧ Trn B [88, 56] w1 wd ∧ wd.heap[w.heap.size]? = some (.cells #[.pointer (some ⟨T, 0, none⟩), .int .u8 m, .int .u8 k, .int .u64 start] 56 (0, 0)))
  case first =>
    have hci := hS.ci ht8
    have hfz := hS.frz typ
    rw [hv] at hown hci
    go_region_law (refine step_append_lies _ rfl (.tmp 18) (.tmp 20) 85 rfl B 56 i _ 4 24 Yba.underlying85 hi hz0 hz1 hz2 rfl (by decide) (.slice vo (f typ) vc) (f typ) (xs typ) (by simp [Act.eval]) (row_of hown ?_) ⟨w1.heap.size, 0, none⟩ 1 1 (gcells T m k start) (by simp [Act.eval]) rfl ?_ ?_ (by decide) ?_ ?_ ?_ _ rfl ?_; (focus (intro b hb; exact (turn1 (fun _ => False) w1 _).block b (hown.lt b hb).2 (fun h => h))); (focus exact World.news_of_block (cs := #[.pointer (some ⟨T, 0, none⟩), .int .u8 m, .int .u8 k, .int .u64 start]) (t := 56) (fr := (0, 0)) (blk_new1 _ _)); (focus (intro u hu; simp [gcells] at hu; rcases hu with rfl | rfl | rfl | rfl <;> rfl)); (focus (unfold maxLen; omega)); (focus omega); (focus exact Nat.le_trans hB1 (turn1 (fun _ => False) w1 _).size); intro gg cap w2 hown1 hgrow hat hlt1; have ht1 := (turn1 (fun b => (Value.slice vo (f typ) vc).ownBlock = some b) w1 _).grown hgrow (fun b hb => hb); have hS1 := hS.far hown (by decide) ht1; have hci' := hS1.ci ht8; have hfz' := hS1.frz typ; have hlt2 := hS1.lt)
    all_goals
      go_wp2
      go_meet
      obtain ⟨hp1, hp2⟩ := rows_push hB1 hBS hS1 hR ht8 hv (hown1 : _) ht1 hat
      exact ⟨hp1, hp2, (Below.heap_setCell _ _ _ _ (by simp only; omega)).trans (ht1.at hg1 (fun h => by have := hob _ h; omega))⟩
  case rest =>
    rename World => W2
    obtain ⟨⟨V', hS2, hR2⟩, htr2, hg2⟩ := hcut
    have hB2 : B ≤ W2.heap.size := Nat.le_trans hB1 htr2.le
    replace hE := hE.trn htr2 (by decide)
    replace hC := hC.trn htr2 (by decide) (by decide)
    replace hQ := hQ.trn htr2 (by decide)
    clear hS hR hown hSl hEl hgc0 hgc1 hgc2 hgc3 hg1 hg1l hv hob
    have hg2l := blk_lt hg2
    have hgc1 := cell_blk (i := 1) hg2 rfl
    have hgc2 := cell_blk (i := 2) hg2 rfl
    have hEl := hE.lt
    have hSl := hS2.lt
    cases hp : plc cr en k
    · go_upto_region 5 with (go_at_call 12; refine (placed_any B E T en cr cp qp m k x _ hE hC).mono ?_; rintro e w3 ⟨rfl, hb3⟩; rw [hp])
      have htr3 : Trn B [] W2 w3 := (Trn.refl B [] W2).of_below hB2 hb3
      have hB3 := Nat.le_trans hB2 htr3.le
      go_wp2_with (go_at_call 14; refine (found_any B E en qu cp qp _ hB3 (hE.trn htr3 (by decide)) (hQ.trn htr3 (by decide))).mono ?_; rintro e w4 ⟨rfl, hQ4, htr4⟩)
      go_end0
      have ht24 : Trn B [76] W2 w4 := (htr3.wide (by simp)).trans htr4
      exact ⟨rfl, ⟨V', hS2.trn ht24 (by decide), hR2.trn ht24 (by decide)⟩, hE.trn ht24 (by decide), (by rw [hp]; exact hC.trn ht24 (by decide) (by decide)), hQ4, ((htr1.wide (by simp)).trans (htr2.wide (by simp))).trans (ht24.wide (by simp))⟩
    · go_upto_region 4 with (go_at_call 12; refine (placed_any B E T en cr cp qp m k x _ hE hC).mono ?_; rintro e w3 ⟨rfl, hb3⟩; rw [hp])
      have htr3 : Trn B [] W2 w3 := (Trn.refl B [] W2).of_below hB2 hb3
      have hB3 := Nat.le_trans hB2 htr3.le
      rcases hC with ⟨rfl, _⟩ | ⟨rfl, bc, bm, c, rfl, hc1, hc2, hc3, hc4⟩
      · simp [plc] at hp
      have hg3 := htr3.at hg2 (by simp)
      have hg3l := blk_lt hg3
      have hd0 := cell_blk (i := 0) hg3 rfl
      have hd1 := cell_blk (i := 1) hg3 rfl
      have hd2 := cell_blk (i := 2) hg3 rfl
      have hS3 := hS2.trn htr3 (by decide)
      have hE3 := hE.trn htr3 (by decide)
      have hc13 := htr3.at hc1 (by simp)
      have hc43 := hc4.trn htr3 (by decide)
      have hc43d := hc4.trn htr3.drew (by decide)
      have hci3 := hS3.ci ht8
      obtain ⟨vo', vc', hv'⟩ := row_shape (hR2.1 typ ht8)
      rw [show updN f typ (f typ + 1) typ = f typ + 1 from by simp [updN]] at hv'
      rw [hv'] at hci3
      have hwr : IntKind.i64.wrap (f typ : Int) = (f typ : Int) := by rw [IntKind.wrap_i64]; omega
      have hE7 := hE3.c7
      have hE3l := hE3.lt
      have hS3l := hS3.lt
      have hbcl := blk_lt hc13
      go_region_with (go_at_call 13; refine (putS_any bc bm T m k x (f typ : Int) w3.drew c hc13 hc2 hc43d (by omega) (by omega)).mono ?_; rintro e w4 ⟨rfl, hone, hturn⟩)
      all_goals
        have htr4 := one_trn hc43d hc3 hB3 hturn
        have hB4 : B ≤ w4.heap.size := Nat.le_trans hB3 htr4.le
        have ht24 : Trn B [1000] W2 w4 := (htr3.drew.wide (by simp)).trans htr4
        go_wp2_with (go_at_call 14; refine (found_any B E en qu _ qp _ hB4 (hE.trn ht24 (by decide)) (hQ.trn ht24 (by decide))).mono ?_; rintro e w5 ⟨rfl, hQ5, htr5⟩)
        go_end0
        have ht25 : Trn B [76, 1000] W2 w5 := (ht24.wide (by simp)).trans (htr5.wide (by simp))
        refine ⟨rfl, ⟨V', hS2.trn ht25 (by decide), hR2.trn ht25 (by decide)⟩, hE.trn ht25 (by decide), ?_, hQ5, ((htr1.wide (by simp)).trans (htr2.wide (by simp))).trans (ht25.wide (by simp))⟩
        rw [hp]
        exact .inr ⟨rfl, bc, bm, c, rfl, ht25.at hc1 (by simp [knd]), hc2, hc3, hone.trn htr5 (by decide)⟩
end Go.Proofs.Ybulkcjyg.Add
