import Derived.Test.YbulkcjygAddH
namespace Go.Proofs.Ybulkcjyg.Add
open Go.RowKit
set_option linter.unusedVariables false

theorem blk_n1 (w : World) (a b : Obj) : ((w.alloc a).alloc b).heap[w.heap.size + 1]? = some b := by
  have := blk_new (w.alloc a) b
  rwa [show (w.alloc a).heap.size = w.heap.size + 1 from by simp] at this
theorem blk_n2 (w : World) (a b c : Obj) : (((w.alloc a).alloc b).alloc c).heap[w.heap.size + 1 + 1]? = some c := by
  have := blk_n1 (w.alloc a) b c
  rwa [show (w.alloc a).heap.size = w.heap.size + 1 from by simp] at this
structure Fx (B : Nat) (w wd : World) (P L : Nat) (pre : Array Value) (m k : Int) : Prop where
  pre : wd.heap[P]? = some (.cells pre 27 (0, 0))
  lock : wd.heap[L]? = some (.cells #[.int .u8 m, .int .u8 k] 31 (0, 0))
  bel : Below B w wd
theorem Fx.trn {B : Nat} {w wd wd' : World} {P L : Nat} {pre : Array Value} {m k : Int} {ts : List Nat} (h : Fx B w wd P L pre m k) (ht : Trn B ts wd wd') (h1 : 27 ∉ ts) (h2 : 31 ∉ ts) : Fx B w wd' P L pre m k :=
  ⟨ht.at h.pre h1, ht.at h.lock h2, h.bel.trans ht.below⟩
theorem below3 (w : World) (a b c : Obj) : Below w.heap.size w (((w.alloc a).alloc b).alloc c) := (((Below.refl _ _).alloc (Nat.le_refl _) _).alloc (by simp) _).alloc (by simp; omega) _
theorem fx3 (w : World) (pre : Array Value) (m k : Int) (c : Obj) : Fx w.heap.size w (((w.alloc (.cells pre 27)).alloc (.cells #[.int .u8 m, .int .u8 k] 31)).alloc c) w.heap.size (w.heap.size + 1) pre m k :=
  ⟨blk_past (blk_past (blk_new _ _) _) _, blk_past (blk_n1 _ _ _) _, below3 _ _ _ _⟩

theorem t_push {w w1 : World} {B T : Nat} {wt vp : Value} {np : Nat} {xp : List Value} {u : Value} (hB : B ≤ w.heap.size) (hBT : B ≤ T) (hT1 : IsT w1 T wt vp) (hown : w.ownsRow B 58 5 vp np xp) (ht : Turn (fun b => vp.ownBlock = some b) w w1) : Trn B [42, 58] w (w1.setCell ⟨T, 9, none⟩ u) := by
  have h1 : Trn B [42, 58] w w1 := Trn.of_turn ht hB (fun b hb => ⟨(row_knd hown hb).1, fun o ho => by rw [(row_knd hown hb).2 o ho]; simp⟩)
  refine h1.trans ?_
  obtain ⟨c, hc, _⟩ := hT1
  refine Trn.of_turn ((Turn.refl (fun b => b = T) w1).set T 9 _ rfl) (Nat.le_trans hB ht.size) ?_
  rintro b rfl
  exact ⟨hBT, fun o ho => by rw [hc] at ho; cases ho; simp [knd]⟩

theorem crowd_new {B Eb T bm : Nat} {wm : World} {en : Bool} {qp : Value} {m k : Int} (hE : IsE wm Eb en (.pointer none) qp) (hBE : B ≤ Eb) (hB : B ≤ wm.heap.size) (hbm : B ≤ bm) (hone : OneIn wm bm ⟨T, 0, none⟩ m k (.agg #[.int .i32 3, .int .i32 (-1)])) (c : Array Value) (hc : c[18]? = some (.map (some bm))) :
    IsE ((wm.setCell ⟨Eb, 7, none⟩ (.pointer (some ⟨wm.heap.size, 0, none⟩))).alloc (.cells c 84)) Eb en (.pointer (some ⟨wm.heap.size, 0, none⟩)) qp ∧ Crowd B ((wm.setCell ⟨Eb, 7, none⟩ (.pointer (some ⟨wm.heap.size, 0, none⟩))).alloc (.cells c 84)) true (.pointer (some ⟨wm.heap.size, 0, none⟩)) T m k (-1) ∧ Trn B [67] wm ((wm.setCell ⟨Eb, 7, none⟩ (.pointer (some ⟨wm.heap.size, 0, none⟩))).alloc (.cells c 84)) := by
  obtain ⟨d, hd, h2, h7, h8⟩ := hE
  have hsz : (wm.setCell ⟨Eb, 7, none⟩ (.pointer (some ⟨wm.heap.size, 0, none⟩))).heap.size = wm.heap.size := by simp [World.setCell]
  have hl7 := (Array.getElem?_eq_some_iff.1 h7).1
  have ht : Trn B [67] wm ((wm.setCell ⟨Eb, 7, none⟩ (.pointer (some ⟨wm.heap.size, 0, none⟩))).alloc (.cells c 84)) := by
    refine Trn.alloc (Trn.of_turn ((Turn.refl (fun b => b = Eb) wm).set Eb 7 _ rfl) hB ?_) (by omega) _
    rintro b rfl
    exact ⟨hBE, fun o ho => by rw [hd] at ho; cases ho; simp [knd]⟩
  refine ⟨⟨_, blk_past (blk_set hd 7 _) _, by simp [h2], by simp [hl7], by simp [h8]⟩, .inr ⟨rfl, wm.heap.size, bm, c, rfl, ?_, hc, hbm, hone.trn ht (by simp)⟩, ht⟩
  have := blk_new (wm.setCell ⟨Eb, 7, none⟩ (.pointer (some ⟨wm.heap.size, 0, none⟩))) (.cells c 84)
  rwa [hsz] at this

/-! ### The loop over the eight types -/
def fjq (F : Nat → Nat) (j q : Nat) : Nat → Nat := fun t => if t < j then F t else if t = j then q else 0
theorem fjq_at (F : Nat → Nat) (j q : Nat) : fjq F j q j = q := by simp [fjq]
theorem fjq_up (F : Nat → Nat) (j q : Nat) : updN (fjq F j q) j (q + 1) = fjq F j (q + 1) := by
  funext t
  simp only [updN, fjq]
  by_cases h : t = j
  · subst h; simp
  · simp [h]
theorem fjq_next (F : Nat → Nat) (j : Nat) : fjq F j (F j) = fjq F (j + 1) 0 := by
  funext t
  simp only [fjq]
  by_cases h : t < j
  · rw [if_pos h, if_pos (by omega)]
  · by_cases h2 : t = j
    · subst h2; rw [if_neg h, if_pos rfl, if_pos (by omega)]
    · rw [if_neg h, if_neg h2, if_neg (by omega)]; split <;> rfl
theorem gr_up (F : Nat → Nat) (j q : Nat) : updL (fun t => gr (fjq F j q t)) j (gr q ++ [.pointer none, .int .u8 0, .int .u8 0, .int .u64 q]) = fun t => gr (fjq F j (q + 1) t) := by
  funext t
  simp only [updL]
  by_cases h : t = j
  · subst h; rw [if_pos rfl, fjq_at]; rfl
  · rw [if_neg h, ← fjq_up]; simp [updN, h]
def Lens (w : World) (b : Nat) (f : Nat → Nat) : Prop := ∃ c : Array Value, w.heap[b]? = some (.cells c 89 (0, 0)) ∧ c.size = 8 ∧ ∀ i, i < 8 → c[i]? = some (.int .i64 (f i))
theorem Lens.trn {w w' : World} {B b : Nat} {f : Nat → Nat} {ts : List Nat} (h : Lens w b f) (ht : Trn B ts w w') (he : 89 ∉ ts) : Lens w' b f := by obtain ⟨c, hc, hr⟩ := h; exact ⟨c, ht.at hc he, hr⟩
theorem Lens.ci {w : World} {b : Nat} {f : Nat → Nat} (h : Lens w b f) {i : Nat} (hi : i < 8) : w.cell? ⟨b, i, none⟩ = some (.int .i64 (f i)) := by obtain ⟨c, hc, _, hr⟩ := h; exact cell_blk hc (hr i hi)
theorem Lens.frz {w : World} {b : Nat} {f : Nat → Nat} (h : Lens w b f) (i : Nat) : w.frozen? ⟨b, i, none⟩ = false := by obtain ⟨c, hc, _⟩ := h; exact frz_blk hc i
theorem Lens.lt {w : World} {b : Nat} {f : Nat → Nat} (h : Lens w b f) : b < w.heap.size := by obtain ⟨c, hc, _⟩ := h; exact blk_lt hc
structure Lp (B : Nat) (W wr : World) (S Ln : Nat) (start : Int) (F : Nat → Nat) (j q jl : Nat) : Prop where
  rows : ∃ V, IsS wr S V start ∧ Rows wr B V (fjq F j q) (fun t => gr (fjq F j q t))
  lens : Lens wr Ln (fjq F jl 0)
  trn : Trn B [88, 56, 89] W wr
theorem lp_start {B : Nat} {W : World} (hB : B ≤ W.heap.size) (start : Int) (F : Nat → Nat) :
    Lp B W ((W.alloc (.cells #[.slice none 0 0, .slice none 0 0, .slice none 0 0, .slice none 0 0, .slice none 0 0, .slice none 0 0, .slice none 0 0, .slice none 0 0, .int .u64 start] 88)).alloc (.cells #[.int .i64 0, .int .i64 0, .int .i64 0, .int .i64 0, .int .i64 0, .int .i64 0, .int .i64 0, .int .i64 0] 89)) W.heap.size (W.heap.size + 1) start F 0 0 0 := by
  have h0 : ∀ t, fjq F 0 0 t = 0 := fun t => by simp [fjq]
  refine ⟨⟨fun _ => .slice none 0 0, ⟨_, blk_past (blk_new _ _) _, rfl, fun i hi => ?_, rfl⟩, fun i hi => ?_, fun i j hi hj hij b hb => by simp [Value.ownBlock] at hb⟩, ⟨_, blk_n1 _ _ _, rfl, fun i hi => ?_⟩, ((Trn.refl _ _ _).alloc hB _).alloc (by simp; omega) _⟩
  · have : i = 0 ∨ i = 1 ∨ i = 2 ∨ i = 3 ∨ i = 4 ∨ i = 5 ∨ i = 6 ∨ i = 7 := by omega
    rcases this with rfl | rfl | rfl | rfl | rfl | rfl | rfl | rfl <;> rfl
  · simp only [h0]; exact World.ownsRow_nil _ _ _ _
  · rw [h0]
    have : i = 0 ∨ i = 1 ∨ i = 2 ∨ i = 3 ∨ i = 4 ∨ i = 5 ∨ i = 6 ∨ i = 7 := by omega
    rcases this with rfl | rfl | rfl | rfl | rfl | rfl | rfl | rfl <;> rfl
theorem lp_len {B : Nat} {W wr : World} {S Ln : Nat} {start : Int} {F : Nat → Nat} {j : Nat} (hj : j < 8) (hB : B ≤ wr.heap.size) (hL : B ≤ Ln) (h : Lp B W wr S Ln start F j 0 j) : Lp B W (wr.setCell ⟨Ln, j, none⟩ (.int .i64 (F j))) S Ln start F j 0 (j + 1) := by
  obtain ⟨⟨V, h1, h2⟩, ⟨c, hc, hs, hr⟩, ht⟩ := h
  have ht2 : Trn B [89] wr (wr.setCell ⟨Ln, j, none⟩ (.int .i64 (F j))) := by
    refine Trn.of_turn ((Turn.refl (fun b => b = Ln) wr).set Ln j _ rfl) hB ?_
    rintro b rfl
    exact ⟨hL, fun o ho => by rw [hc] at ho; cases ho; simp [knd]⟩
  refine ⟨⟨V, h1.trn ht2 (by simp), h2.trn ht2 (by simp)⟩, ⟨_, blk_set hc j _, by simp [hs], fun i hi => ?_⟩, ht.trans (ht2.wide (by simp))⟩
  by_cases e : i = j
  · subst e
    rw [Array.getElem?_setIfInBounds_self_of_lt (by omega)]
    simp [fjq]
  · rw [Array.getElem?_setIfInBounds_ne (by omega), hr i hi]
    have : fjq F j 0 i = fjq F (j + 1) 0 i := by
      simp only [fjq]
      by_cases h : i < j
      · rw [if_pos h, if_pos (by omega)]
      · rw [if_neg h, if_neg e, if_neg (by omega)]; split <;> rfl
    rw [this]
theorem lp_next {B : Nat} {W wr : World} {S Ln : Nat} {start : Int} {F : Nat → Nat} {j : Nat} (h : Lp B W wr S Ln start F j (F j) (j + 1)) : Lp B W wr S Ln start F (j + 1) 0 (j + 1) := by
  obtain ⟨⟨V, h1, h2⟩, h3, h4⟩ := h
  rw [fjq_next] at h2
  exact ⟨⟨V, h1, h2⟩, h3, h4⟩

theorem lp_push {B : Nat} {W w w1 : World} {S Ln : Nat} {V : Nat → Value} {start : Int} {F : Nat → Nat} {j q : Nat} {vo : Option Addr} {vc gg cap : Nat} {o : Obj} (hB : B ≤ w.heap.size) (hBS : B ≤ S) (hS1 : IsS w1 S V start) (hR : Rows w B V (fjq F j q) (fun t => gr (fjq F j q t))) (ht8 : j < 8)
    (hv : V j = .slice vo q vc) (hown1 : w1.ownsRow B 56 4 (.slice (some ⟨gg, 0, none⟩) (q + 1) cap) (q + 1) (gr q ++ [.pointer none, .int .u8 0, .int .u8 0, .int .u64 q])) (ht1 : Turn (fun b => (Value.slice vo q vc).ownBlock = some b) w w1) (hat : (Value.slice vo q vc).ownBlock = some gg ∨ gg = (w.alloc o).drew.heap.size)
    (h : Lp B W w S Ln start F j q (j + 1)) : Lp B W (w1.setCell ⟨S, j, none⟩ (.slice (some ⟨gg, 0, none⟩) (q + 1) cap)) S Ln start F j (q + 1) (j + 1) := by
  have hq := fjq_at F j q
  have hp := rows_push (f := fjq F j q) (xs := fun t => gr (fjq F j q t)) (t := j) (vo := vo) (vc := vc) (gg := gg) (cap := cap) (xs' := gr q ++ [.pointer none, .int .u8 0, .int .u8 0, .int .u64 q]) (o := o) hB hBS hS1 hR ht8 (by rw [hq]; exact hv) (by rw [hq]; exact hown1) (by rw [hq]; exact ht1) (by rw [hq]; exact hat)
  rw [hq, fjq_up, gr_up] at hp
  exact ⟨hp.1, h.lens.trn hp.2 (by simp), h.trn.trans (hp.2.wide (by simp))⟩

/-! ### What the checks read -/
def isLast (k : Int) (wb : Bool) (typ j : Nat) : Bool := isPut k wb && decide (j = typ)
theorem fA_at (k : Int) (wb : Bool) (G : Nat → Nat) (typ j : Nat) : fA k wb G typ j = bif isLast k wb typ j then G j + 1 else G j := by
  unfold fA isLast
  cases isPut k wb
  · rfl
  · by_cases h : j = typ
    · subst h; simp [updN]
    · simp [updN, h]
theorem xsA_at (k : Int) (wb : Bool) (xs : Nat → List Value) (typ j : Nat) (l : List Value) : xsA k wb xs typ l j = bif isLast k wb typ j then xs j ++ l else xs j := by
  unfold xsA isLast
  cases isPut k wb
  · rfl
  · by_cases h : j = typ
    · subst h; simp [updL]
    · simp [updL, h]
theorem st_row {B : Nat} {w : World} {T E S : Nat} {wt : Value} {en cr qu wb : Bool} {m k x g start : Int} {np typ : Nat} {xp : List Value} {G : Nat → Nat} (h : St B w T E S wt en cr qu m k x g np xp (fA k wb G typ) (xsA k wb (fun t => gr (G t)) typ (gcells T m k start))) {j : Nat} (hj : j < 8) :
    ∃ vo vc, w.cell? ⟨S, j, none⟩ = some (.slice vo (bif isLast k wb typ j then G j + 1 else G j) vc) ∧
      (∀ q, q < G j → ∃ b, vo = some ⟨b, 0, none⟩ ∧ b < w.heap.size ∧ w.cell? ⟨b, q * 4, none⟩ = some (.pointer none) ∧ w.cell? ⟨b, q * 4 + 3, none⟩ = some (.int .u64 q)) ∧
      (isLast k wb typ j = true → ∃ b, vo = some ⟨b, 0, none⟩ ∧ b < w.heap.size ∧ w.cell? ⟨b, G j * 4, none⟩ = some (.pointer (some ⟨T, 0, none⟩)) ∧ w.cell? ⟨b, G j * 4 + 1, none⟩ = some (.int .u8 m) ∧ w.cell? ⟨b, G j * 4 + 2, none⟩ = some (.int .u8 k) ∧ w.cell? ⟨b, G j * 4 + 3, none⟩ = some (.int .u64 start)) := by
  obtain ⟨V, hS, hR⟩ := h.s
  have hown := hR.1 j hj
  have hc := hS.ci hj
  rw [fA_at, xsA_at] at hown
  rcases hown.2 with ⟨hv, hn⟩ | ⟨b, cap, cur, hv, hb, hg, _⟩
  · rw [hv] at hc
    refine ⟨none, 0, by rw [hn]; exact hc, fun q hq => ?_, fun hl => ?_⟩
    · cases hl : isLast k wb typ j <;> rw [hl] at hn <;> simp at hn <;> omega
    · rw [hl] at hn; simp at hn
  · rw [hv] at hc hown
    refine ⟨some ⟨b, 0, none⟩, cap, hc, fun q hq => ⟨b, rfl, blk_lt hg, ?_, ?_⟩, fun hl => ⟨b, rfl, blk_lt hg, ?_, ?_, ?_, ?_⟩⟩
    · refine row_cell hown ?_
      have hl := gr_len (G j)
      cases isLast k wb typ j
      · exact (gr_at (G j) q hq).1
      · simp only [cond_true]; rw [List.getElem?_append_left (by omega)]; exact (gr_at (G j) q hq).1
    · refine row_cell hown ?_
      have hl := gr_len (G j)
      cases isLast k wb typ j
      · exact (gr_at (G j) q hq).2
      · simp only [cond_true]; rw [List.getElem?_append_left (by omega)]; exact (gr_at (G j) q hq).2
    all_goals
      refine row_cell hown ?_
      have hl2 := gr_len (G j)
      rw [hl]
      simp only [cond_true]
      rw [List.getElem?_append_right (by omega), hl2]
      simp [gcells]
theorem st_par {B : Nat} {w : World} {T E S : Nat} {wt : Value} {en cr qu wb : Bool} {m k x g start : Int} {np : Nat} {f : Nat → Nat} {xs : Nat → List Value} (h : St B w T E S wt en cr qu m k x g (nA k wb np) (xpA k wb (pk np) (pcells E T m k start)) f xs) :
    ∃ vo vc, w.cell? ⟨T, 9, none⟩ = some (.slice vo (nA k wb np) vc) ∧
      (∀ q, q < np → ∃ b, vo = some ⟨b, 0, none⟩ ∧ b < w.heap.size ∧ w.cell? ⟨b, q * 5, none⟩ = some (.pointer none) ∧ w.cell? ⟨b, q * 5 + 4, none⟩ = some (.int .u64 (100 + q))) ∧
      (isPark k wb = true → ∃ b, vo = some ⟨b, 0, none⟩ ∧ b < w.heap.size ∧ w.cell? ⟨b, np * 5, none⟩ = some (.pointer (some ⟨E, 0, none⟩)) ∧ w.cell? ⟨b, np * 5 + 1, none⟩ = some (.pointer (some ⟨T, 0, none⟩)) ∧ w.cell? ⟨b, np * 5 + 2, none⟩ = some (.int .u8 m) ∧ w.cell? ⟨b, np * 5 + 3, none⟩ = some (.int .u8 k) ∧ w.cell? ⟨b, np * 5 + 4, none⟩ = some (.int .u64 start)) := by
  obtain ⟨vp, hT, hown⟩ := h.t
  have hc := hT.c9
  have hl := pk_len np
  rcases hown.2 with ⟨hv, hn⟩ | ⟨b, cap, cur, hv, hb, hg, _⟩
  · rw [hv] at hc
    refine ⟨none, 0, by rw [hn]; exact hc, fun q hq => ?_, fun hl => ?_⟩
    · unfold nA at hn; cases hh : isPark k wb <;> rw [hh] at hn <;> simp at hn <;> omega
    · unfold nA at hn; rw [hl] at hn; simp at hn
  · rw [hv] at hc hown
    refine ⟨some ⟨b, 0, none⟩, cap, hc, fun q hq => ⟨b, rfl, blk_lt hg, ?_, ?_⟩, fun hp => ⟨b, rfl, blk_lt hg, ?_, ?_, ?_, ?_, ?_⟩⟩
    · refine row_cell hown ?_
      unfold xpA
      cases isPark k wb
      · exact (pk_at np q hq).1
      · simp only [cond_true]; rw [List.getElem?_append_left (by omega)]; exact (pk_at np q hq).1
    · refine row_cell hown ?_
      unfold xpA
      cases isPark k wb
      · exact (pk_at np q hq).2
      · simp only [cond_true]; rw [List.getElem?_append_left (by omega)]; exact (pk_at np q hq).2
    all_goals
      refine row_cell hown ?_
      unfold xpA
      rw [hp]
      simp only [cond_true]
      rw [List.getElem?_append_right (by omega), hl]
      simp [pcells]
theorem neq31 (m k : Int) (u : World) : (binOp .neq 31 (.agg #[.int .u8 m, .int .u8 k]) (.agg #[.int .u8 m, .int .u8 k])).run Yba.prog u = .ok (.bool false) u := by
  have h := eq31 9998 m k u
  simp only [binOp]
  simp [Op.equal, Op.maxDepth, h]
theorem neq32 (a : Addr) (u : World) : (binOp .neq 32 (.pointer (some a)) (.pointer (some a))).run Yba.prog u = .ok (.bool false) u := by
  have h := eqptr 13 Yba.underlying32 (by kernel_rfl) 9999 a u
  simp only [binOp]
  simp [Op.equal, Op.maxDepth, h]
theorem neq45 (a : Addr) (u : World) : (binOp .neq 45 (.pointer (some a)) (.pointer (some a))).run Yba.prog u = .ok (.bool false) u := by
  have h := eqptr 11 Yba.underlying45 (by kernel_rfl) 9999 a u
  simp only [binOp]
  simp [Op.equal, Op.maxDepth, h]
theorem ibeq (a b : Nat) : ((a : Int) == (b : Int)) = decide (a = b) := by
  by_cases h : a = b
  · subst h; simp
  · have h2 : ¬ (a : Int) = (b : Int) := by omega
    simp [h, h2]
end Go.Proofs.Ybulkcjyg.Add
