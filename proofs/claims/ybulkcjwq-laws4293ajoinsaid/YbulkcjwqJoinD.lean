import Derived.Test.YbulkcjwqJoinC
namespace Go.Proofs.Ybulkcjwq.Join
open Go.RowKit
set_option linter.unusedVariables false

/-- A struct that came in, as cells. -/
def accC (pr : Bool) (bal first : Int) (sa : Option Addr) (len cap : Nat) : Array Value := #[.bool pr, .int .u32 bal, .int .u64 first, .slice sa len cap]
theorem four {w : World} {b : Nat} {pr : Bool} {bal first : Int} {sa : Option Addr} {len cap : Nat} (h : w.heap[b]? = some (.cells (accC pr bal first sa len cap) 26 (0, 0))) :
    w.cell? ⟨b, 0, none⟩ = some (.bool pr) ∧ w.cell? ⟨b, 1, none⟩ = some (.int .u32 bal) ∧ w.cell? ⟨b, 2, none⟩ = some (.int .u64 first) ∧ w.cell? ⟨b, 3, none⟩ = some (.slice sa len cap) :=
  ⟨cell_blk h rfl, cell_blk h rfl, cell_blk h rfl, cell_blk h rfl⟩

/-- The pool's loop. -/
def Pl (M : Nat) (W0 : World) (j : Nat) (wr : World) : Prop :=
  wr.rowIs M 28 8 (fun t => if t < j then .pointer (some ⟨M + 1 + t, 0, none⟩) else .pointer none) ∧ wr.heap.size = M + 1 + j ∧ Below M W0 wr
theorem pl_start (W0 : World) : Pl W0.heap.size W0 0 (W0.alloc (.cells (madeCells #[.pointer none] 8) 28)) :=
  ⟨(World.rowIs_made W0 (.pointer none) 8 28).congr (fun i hi => by simp), by simp, (Below.refl _ _).alloc (Nat.le_refl _) _⟩
theorem pl_step {M : Nat} {W0 : World} {j : Nat} {wr : World} (o : Obj) (hj : j < 8) (h : Pl M W0 j wr) : Pl M W0 (j + 1) ((wr.alloc o).setCell ⟨M, j, none⟩ (.pointer (some ⟨M + 1 + j, 0, none⟩))) := by
  obtain ⟨h1, h2, h3⟩ := h
  refine ⟨((h1.alloc _).set j _).congr ?_, by simp [h2]; omega, (h3.alloc (by omega) _).setCell (Nat.le_refl _) _⟩
  intro i hi
  by_cases e : i = j
  · subst e; simp
  · simp only [e, if_false]
    by_cases e2 : i < j
    · rw [if_pos e2, if_pos (by omega)]
    · rw [if_neg e2, if_neg (by omega)]
def Tp (M : Nat) (i : Nat) : Addr := ⟨M + 1 + i, 0, none⟩

/-- All that the law needs of the world. -/
structure Env (N : Nat) (w : World) (cb co ct : Array Value) (sb so st : Option Addr) (lb lo lt : Nat) (zb zo zt : Nat → Int) (W : World) : Prop where
  b : W.heap[N]? = some (.cells cb 26 (0, 0))
  o : W.heap[N + 1]? = some (.cells co 26 (0, 0))
  t : W.heap[N + 1 + 1]? = some (.cells ct 26 (0, 0))
  pool : Pool W (N + 1 + 1 + 1) (Tp (N + 1 + 1 + 1))
  yb : Bytes W sb lb zb
  yo : Bytes W so lo zo
  yt : Bytes W st lt zt
  bel : Below N w W
theorem Env.below {N : Nat} {w : World} {cb co ct : Array Value} {sb so st : Option Addr} {lb lo lt : Nat} {zb zo zt : Nat → Int} {W W1 : World} (h : Env N w cb co ct sb so st lb lo lt zb zo zt W) (hb : Below W.heap.size W W1) : Env N w cb co ct sb so st lb lo lt zb zo zt W1 :=
  ⟨blk_below hb h.b, blk_below hb h.o, blk_below hb h.t, h.pool.below hb, h.yb.below hb, h.yo.below hb, h.yt.below hb, h.bel.trans (hb.mono (by have := blk_lt h.b; omega))⟩
theorem Env.lt {N : Nat} {w : World} {cb co ct : Array Value} {sb so st : Option Addr} {lb lo lt : Nat} {zb zo zt : Nat → Int} {W : World} (h : Env N w cb co ct sb so st lb lo lt zb zo zt W) : N + 1 + 1 + 1 < W.heap.size := h.pool.1

theorem env_start {w wr : World} {cb co ct : Array Value} {sb so st : Option Addr} {lb lo lt : Nat} {zb zo zt : Nat → Int}
    (h : Pl (w.heap.size + 1 + 1 + 1) (((w.alloc (.cells cb 26)).alloc (.cells co 26)).alloc (.cells ct 26)) 8 wr) (hb : Bytes w sb lb zb) (ho : Bytes w so lo zo) (ht : Bytes w st lt zt) :
    Env w.heap.size w cb co ct sb so st lb lo lt zb zo zt wr := by
  obtain ⟨h1, h2, h3⟩ := h
  have e : (((w.alloc (.cells cb 26)).alloc (.cells co 26)).alloc (.cells ct 26)).heap.size = w.heap.size + 1 + 1 + 1 := by simp
  rw [← e] at h3
  have hb0 : Below w.heap.size w wr := ((((Below.refl _ _).alloc (Nat.le_refl _) _).alloc (by simp) _).alloc (by simp; omega) _).trans (h3.mono (by simp; omega))
  refine ⟨blk_below h3 (blk_past (blk_past (blk_new _ _) _) _), blk_below h3 (blk_past (by have := blk_new (w.alloc (.cells cb 26)) (.cells co 26); simpa using this) _), blk_below h3 (by have := blk_new ((w.alloc (.cells cb 26)).alloc (.cells co 26)) (.cells ct 26); simpa using this), ⟨by omega, fun i hi => ?_⟩, hb.below hb0, ho.below hb0, ht.below hb0, hb0⟩
  have := h1.cell hi
  rw [this, if_pos hi]
  rfl

theorem wrap_u64 (x : Int) : IntKind.u64.wrap x = x % 18446744073709551616 := by rfl

theorem acc_sl {W : World} {p : Option Addr} {pr : Bool} {bal first : Int} {len : Nat} {f : Nat → Addr} (h : AccAt W p pr bal first len f) :
    ∃ sl, SlAt W W.heap.size sl (oL pr len) f ∧ ((pr = false ∧ p = none ∧ sl = none) ∨ (pr = true ∧ ∃ ba, p = some ⟨ba, 0, none⟩ ∧ W.cell? ⟨ba, 3, none⟩ = some (.slice sl len len))) := by
  rcases h with ⟨rfl, rfl⟩ | ⟨rfl, ba, bs, rfl, h3, h4, h5⟩
  · exact ⟨none, .inl ⟨rfl, rfl⟩, .inl ⟨rfl, rfl, rfl⟩⟩
  · exact ⟨some ⟨bs, 0, none⟩, .inr ⟨bs, rfl, h4, h5⟩, .inr ⟨rfl, ba, rfl, cell_blk h3 rfl⟩⟩
theorem SlAt.below {W W1 : World} {N : Nat} {sl : Option Addr} {len : Nat} {f : Nat → Addr} (h : SlAt W N sl len f) (hN : N ≤ W.heap.size) (hb : Below W.heap.size W W1) : SlAt W1 N sl len f := by
  rcases h with h | ⟨bs, e, hl, hc⟩
  · exact .inl h
  · exact .inr ⟨bs, e, hl, fun i hi => (hb.cell (p := ⟨bs, i, none⟩) (Nat.lt_of_lt_of_le hl hN)).trans (hc i hi)⟩

theorem join_lt {w : World} {B F OB TB : Int} {OL TL : Nat} {go gt : Nat → Addr} {e : Ending} {w' : World} (h : JoinPost w B F OB TB OL TL go gt e w') (hs : OB + TB < B) : e = .returned (.tuple #[.pointer none, .bool false]) ∧ Below w.heap.size w w' := by
  rcases h with ⟨_, h1, h2⟩ | ⟨h, _⟩
  · exact ⟨h1, h2⟩
  · exact absurd hs h
theorem join_ge {w : World} {B F OB TB : Int} {OL TL : Nat} {go gt : Nat → Addr} {e : Ending} {w' : World} (h : JoinPost w B F OB TB OL TL go gt e w') (hs : ¬ OB + TB < B) : ∃ A va cv vb, e = .returned (.tuple #[.pointer (some ⟨A, 0, none⟩), .bool true]) ∧ Jn w.heap.size w A (OB + TB - B) F OL TL go gt TL va cv vb w' := by
  rcases h with ⟨h, _⟩ | ⟨_, h⟩
  · exact absurd h hs
  · exact h

/-- The account that came out. -/
structure Fin (A : Nat) (D F : Int) (OL TL : Nat) (go gt : Nat → Addr) (va : Option Addr) (cv : Nat) (vb : Value) (W : World) : Prop where
  acc : W.heap[A]? = some (.cells #[.int .u64 D, .pointer none, .int .u64 F, .slice va (max OL TL) cv, vb] 40 (0, 0))
  snt : max OL TL = 0 ∨ ∃ g, va = some ⟨g, 0, none⟩ ∧ g < W.heap.size ∧ ∀ i, i < max OL TL → W.cell? ⟨g, i, none⟩ = some (.pointer (some (mixf OL go gt i)))
  bes : (min OL TL = 0 ∧ vb = .slice none 0 0) ∨ (0 < min OL TL ∧ ∃ bb, vb = .slice (some ⟨bb, 0, none⟩) (min OL TL) (min OL TL) ∧ bb < W.heap.size ∧ ∀ i, i < min OL TL → W.cell? ⟨bb, i, none⟩ = some (.pointer (some (gt i))))
theorem Fin.below {A : Nat} {D F : Int} {OL TL : Nat} {go gt : Nat → Addr} {va : Option Addr} {cv : Nat} {vb : Value} {W W1 : World} (h : Fin A D F OL TL go gt va cv vb W) (hb : Below W.heap.size W W1) : Fin A D F OL TL go gt va cv vb W1 := by
  refine ⟨blk_below hb h.acc, ?_, ?_⟩
  · rcases h.snt with h | ⟨g, h1, h2, h3⟩
    · exact .inl h
    · exact .inr ⟨g, h1, Nat.lt_of_lt_of_le h2 hb.size, fun i hi => (hb.cell (p := ⟨g, i, none⟩) h2).trans (h3 i hi)⟩
  · rcases h.bes with h | ⟨h0, g, h1, h2, h3⟩
    · exact .inl h
    · exact .inr ⟨h0, g, h1, Nat.lt_of_lt_of_le h2 hb.size, fun i hi => (hb.cell (p := ⟨g, i, none⟩) h2).trans (h3 i hi)⟩
theorem Fin.pos {A : Nat} {D F : Int} {OL TL : Nat} {go gt : Nat → Addr} {va : Option Addr} {cv : Nat} {vb : Value} {W : World} (h : Fin A D F OL TL go gt va cv vb W) (hp : 0 < max OL TL) : ∃ g, va = some ⟨g, 0, none⟩ ∧ ∀ i, i < max OL TL → W.cell? ⟨g, i, none⟩ = some (.pointer (some (mixf OL go gt i))) := by
  rcases h.snt with h | ⟨g, h1, _, h3⟩
  · omega
  · exact ⟨g, h1, h3⟩
theorem SlAt.pos {W : World} {N : Nat} {sl : Option Addr} {len : Nat} {f : Nat → Addr} (h : SlAt W N sl len f) (hp : 0 < len) : ∃ bs, sl = some ⟨bs, 0, none⟩ ∧ ∀ i, i < len → W.cell? ⟨bs, i, none⟩ = some (.pointer (some (f i))) := by
  rcases h with ⟨_, h⟩ | ⟨bs, h1, _, h3⟩
  · omega
  · exact ⟨bs, h1, h3⟩
theorem fin_of {N : Nat} {w : World} {A : Nat} {D F : Int} {OL TL : Nat} {go gt : Nat → Addr} {va : Option Addr} {cv : Nat} {vb : Value} {W : World} (h : Jn N w A D F OL TL go gt TL va cv vb W) : Fin A D F OL TL go gt va cv vb W := by
  refine ⟨h.acc, ?_, ?_⟩
  · have ho := h.own
    by_cases e : max OL TL = 0
    · exact .inl e
    · rcases ho.2 with ⟨_, g2⟩ | ⟨g, cap, cur, g1, g2, g3, g4, g5, g6, g7⟩
      · exact absurd g2 e
      · simp only [Value.slice.injEq] at g1
        obtain ⟨rfl, _, rfl⟩ := g1
        refine .inr ⟨g, rfl, blk_lt g3, fun i hi => ?_⟩
        rw [ho.cellAt i (by omega)]
        simp [ptrs, hi]
  · rcases h.bes with h1 | ⟨h0, bb, h1, h2, _, _⟩
    · exact .inl h1
    · refine .inr ⟨h0, bb, h1, h2.lt, fun i hi => ?_⟩
      rw [h2.cell hi, if_pos (by omega)]

set_option maxRecDepth 100000 in
set_option maxHeartbeats 2000000 in
theorem law_main (prb pro prt : Bool) (bb fb ob fo tb ft : Int) (sb so st : Option Addr) (lb lo lt kb ko kt : Nat) (zb zo zt : Nat → Int) (w : World)
    (hb0 : 0 ≤ bb) (hb1 : bb < 4294967296) (hf0 : 0 ≤ fb) (ho0 : 0 ≤ ob) (ho1 : ob < 4294967296) (ht0 : 0 ≤ tb) (ht1 : tb < 4294967296) (hlb : lb ≤ 1024) (hlo : lo ≤ 1024) (hlt : lt ≤ 1024)
    (yb : Bytes w sb lb zb) (yo : Bytes w so lo zo) (yt : Bytes w st lt zt) :
    Calls Yba.prog 3 #[.agg #[.bool prb, .int .u32 bb, .int .u64 fb, .slice sb lb kb], .agg #[.bool pro, .int .u32 ob, .int .u64 fo, .slice so lo ko], .agg #[.bool prt, .int .u32 tb, .int .u64 ft, .slice st lt kt]] w fun e w' => e = .returned (.bool true) ∧ Below w.heap.size w w' := by
  have hmk : ∀ w : World, (Instr.makeSlice 27 (.int .i64 8) (.int .i64 8)).run Yba.prog w = .ok (.slice (some ⟨w.heap.size, 0, none⟩) 8 8) (w.alloc (.cells (madeCells #[.pointer none] 8) 28)) :=
    fun w => run_make_row' (P := Yba.prog) 27 28 _ _ Yba.underlying27 info28 rfl .i64 .i64 8 (by omega) (by omega) w
  go_enter Yba.func3, Yba.ntmps3
  go_wp2
  go_loopw [8] (fun i wr => ∃ j : Nat, j ≤ 8 ∧ i = .int .i64 j ∧ Pl (w.heap.size + 1 + 1 + 1) (((w.alloc (.cells #[.bool prb, .int .u32 bb, .int .u64 fb, .slice sb lb kb] 26)).alloc (.cells #[.bool pro, .int .u32 ob, .int .u64 fo, .slice so lo ko] 26)).alloc (.cells #[.bool prt, .int .u32 tb, .int .u64 ft, .slice st lt kt] 26)) j wr) (fun i _ => 8 - (intOf i).toNat)
  case atStart =>
    refine ⟨0, by omega, rfl, ?_⟩
    have := pl_start (((w.alloc (.cells #[.bool prb, .int .u32 bb, .int .u64 fb, .slice sb lb kb] 26)).alloc (.cells #[.bool pro, .int .u32 ob, .int .u64 fo, .slice so lo ko] 26)).alloc (.cells #[.bool prt, .int .u32 tb, .int .u64 ft, .slice st lt kt] 26))
    simpa using this
  case round =>
    clear hmk
    obtain ⟨j, hj, rfl, hpl⟩ := hrel
    by_cases hl8 : j < 8
    · have hsz := hpl.2.1
      have hc0 : ∀ o, (wr.alloc o).cell? ⟨w.heap.size + 1 + 1 + 1, j, none⟩ = some (.pointer none) := fun o => by have := (hpl.1.alloc o).cell hl8; simpa using this
      have hf0 : ∀ o, (wr.alloc o).frozen? ⟨w.heap.size + 1 + 1 + 1, j, none⟩ = false := fun o => (hpl.1.alloc o).frozen j
      go_wp2
      go_roundw
      case rel => exact ⟨j + 1, by omega, by go_num, pl_step _ hl8 hpl⟩
      case measure => simp [intOf]; omega
    · obtain rfl : j = 8 := by omega
      have hen : Env w.heap.size w (accC prb bb fb sb lb kb) (accC pro ob fo so lo ko) (accC prt tb ft st lt kt) sb so st lb lo lt zb zo zt wr := env_start hpl yb yo yt
      clear hpl yb yo yt
      obtain ⟨q0, q1, q2, q3⟩ := four hen.b
      go_upto_region 9 with (go_at_call 5; refine (build_any prb bb fb sb lb kb _ zb _ _ hb0 hb1 hlb hen.yb hen.pool).mono ?_; rintro e w1 ⟨pb, rfl, ha1, hx1⟩; have he1 := hen.below hx1; clear hx1 hen q0 q1 q2 q3)
      obtain ⟨q0, q1, q2, q3⟩ := four he1.o
      go_upto_region 10 with (go_at_call 5; refine (build_any pro ob fo so lo ko _ zo _ _ ho0 ho1 hlo he1.yo he1.pool).mono ?_; rintro e w2 ⟨po, rfl, ha2, hx2⟩; have he2 := he1.below hx2; have ha12 := ha1.below hx2; clear hx2 he1 ha1 q0 q1 q2 q3)
      obtain ⟨q0, q1, q2, q3⟩ := four he2.t
      go_upto_region 12 with (go_at_call 5; refine (build_any prt tb ft st lt kt _ zt _ _ ht0 ht1 hlt he2.yt he2.pool).mono ?_; rintro e w3 ⟨pt, rfl, ha3, hx3⟩; have he3 := he2.below hx3; have ha13 := ha12.below hx3; have ha23 := ha2.below hx3; clear hx3 he2 ha12 ha2 q0 q1 q2 q3)
      obtain ⟨q0, q1, q2, q3⟩ := four he3.b
      obtain ⟨B, hBd⟩ : ∃ B, B = bB prb bb := ⟨_, rfl⟩
      obtain ⟨F, hFd⟩ : ∃ F, F = bF prb fb lb := ⟨_, rfl⟩
      have HB : Hid (B = bB prb bb) := hBd
      have HF : Hid (F = bF prb fb lb) := hFd
      clear hBd hFd
      have bB0 : 0 ≤ B := by rw [HB.out]; unfold bB; split <;> omega
      have bB1 : B < 4294967296 := by rw [HB.out]; unfold bB; split <;> omega
      go_upto_if 66 with fail
      go_cut [12, 13] (fun s12 s13 wd => s12 = .int .u64 B ∧ s13 = .int .u64 F ∧ w3 = wd)
      case first => as_aux_lemma =>
        cases prb
        · obtain rfl : B = 0 := HB.out
          obtain rfl : F = 0 := HF.out
          go_wp2
          go_meet
          case rel => exact ⟨rfl, rfl, rfl⟩
        · obtain rfl : B = bb := HB.out
          have eF : F = (fb + lb) % 18446744073709551616 := HF.out.trans (wrap_u64 _)
          subst eF
          go_wp2
          go_meet
          case rel => exact ⟨rfl, rfl, rfl⟩
      case rest =>
        obtain ⟨rfl, rfl, rfl⟩ := hcut
        clear q0 q1 q2 q3
        obtain ⟨osl, hosl, hoc⟩ := acc_sl ha23
        obtain ⟨tsl, htsl, htc⟩ := acc_sl ha3
        obtain ⟨OB, hOB⟩ : ∃ OB, OB = oB pro ob B := ⟨_, rfl⟩
        obtain ⟨OL, hOL⟩ : ∃ OL, OL = oL pro lo := ⟨_, rfl⟩
        obtain ⟨TB, hTB⟩ : ∃ TB, TB = oB prt tb B := ⟨_, rfl⟩
        obtain ⟨TL, hTL⟩ : ∃ TL, TL = oL prt lt := ⟨_, rfl⟩
        have bO0 : 0 ≤ OB := by rw [hOB]; unfold oB; split <;> omega
        have bO1 : OB < 4294967296 := by rw [hOB]; unfold oB; split <;> omega
        have bT0 : 0 ≤ TB := by rw [hTB]; unfold oB; split <;> omega
        have bT1 : TB < 4294967296 := by rw [hTB]; unfold oB; split <;> omega
        have lO1 : OL ≤ 1024 := by rw [hOL]; unfold oL; split <;> omega
        have lT1 : TL ≤ 1024 := by rw [hTL]; unfold oL; split <;> omega
        rw [← hOL] at hosl
        rw [← hTL] at htsl
        have HE : Hid (OB = oB pro ob B ∧ OL = oL pro lo ∧ TB = oB prt tb B ∧ TL = oL prt lt) := ⟨hOB, hOL, hTB, hTL⟩
        clear hOB hOL hTB hTL
        obtain ⟨q0, q1, q2, q3⟩ := four he3.o
        go_upto_if 79 with fail
        go_cut [14, 15] (fun s14 s15 wd => s14 = .int .u64 OB ∧ s15 = .slice osl OL OL ∧ w3 = wd)
        case first => as_aux_lemma =>
          obtain ⟨e1, e2, e3, e4⟩ := HE.out
          rcases hoc with ⟨rfl, rfl, rfl⟩ | ⟨rfl, ba, rfl, hba⟩
          · obtain rfl : OB = B := e1
            obtain rfl : OL = 0 := e2
            clear e3 e4
            go_wp2
            go_meet
            case rel => exact ⟨rfl, rfl, rfl⟩
          · obtain rfl : OB = ob := e1
            obtain rfl : OL = lo := e2
            clear e3 e4
            go_wp2
            go_meet
            case rel => exact ⟨rfl, rfl, rfl⟩
        case rest =>
          obtain ⟨rfl, rfl, rfl⟩ := hcut
          clear q0 q1 q2 q3 hoc
          obtain ⟨q0, q1, q2, q3⟩ := four he3.t
          go_upto_if 89 with fail
          go_cut [16, 17] (fun s16 s17 wd => s16 = .int .u64 TB ∧ s17 = .slice tsl TL TL ∧ w3 = wd)
          case first => as_aux_lemma =>
            obtain ⟨e1, e2, e3, e4⟩ := HE.out
            rcases htc with ⟨rfl, rfl, rfl⟩ | ⟨rfl, ba, rfl, hba⟩
            · obtain rfl : TB = B := e3
              obtain rfl : TL = 0 := e4
              clear e1 e2
              go_wp2
              go_meet
              case rel => exact ⟨rfl, rfl, rfl⟩
            · obtain rfl : TB = tb := e3
              obtain rfl : TL = lt := e4
              clear e1 e2
              go_wp2
              go_meet
              case rel => exact ⟨rfl, rfl, rfl⟩
          case rest =>
            obtain ⟨rfl, rfl, rfl⟩ := hcut
            clear q0 q1 q2 q3 htc
            obtain ⟨e1, e2, e3, e4⟩ := HE.out
            have hjoin := join_any pb po pt prb pro prt bb fb ob fo tb ft lb lo lt (txOf (Tp (w.heap.size + 1 + 1 + 1)) zb) (txOf (Tp (w.heap.size + 1 + 1 + 1)) zo) (txOf (Tp (w.heap.size + 1 + 1 + 1)) zt) w3 hb0 hb1 hf0 ho0 ho1 ht0 ht1 hlb hlo hlt ha13 ha23 ha3
            rw [← HB.out, ← HF.out, ← e1, ← e2, ← e3, ← e4] at hjoin
            have HJ : Hid (Calls Yba.prog 6 #[.pointer pb, .pointer po, .pointer pt] w3 fun e w' => JoinPost w3 B F OB TB OL TL (txOf (Tp (w.heap.size + 1 + 1 + 1)) zo) (txOf (Tp (w.heap.size + 1 + 1 + 1)) zt) e w') := hjoin
            clear hjoin e1 e2 e3 e4 HB HF HE
            by_cases hs : OB + TB < B
            · as_aux_lemma =>
              go_upto_region 28 with (first
                | (go_at_call 6; refine (HJ.out).mono ?_; intro e w4 hjp; obtain ⟨rfl, hx4⟩ := join_lt hjp hs; have he4 := he3.below hx4; have ha14 := ha13.below hx4; have ha24 := ha23.below hx4; have ha34 := ha3.below hx4; clear hx4 he3 ha13 ha23 ha3 hjp HJ; obtain ⟨qb0, qb1, qb2, qb3⟩ := four he4.b)
                | (go_at_call_of 7 pb; refine (same_any pb prb bb fb sb lb kb _ zb _ _ hb0 hb1 hlb he4.yb he4.pool ha14).mono ?_; rintro e w5 ⟨rfl, hx5⟩; have he5 := he4.below hx5; have ha25 := ha24.below hx5; have ha35 := ha34.below hx5; clear hx5 he4 ha14 ha24 ha34 qb0 qb1 qb2 qb3; obtain ⟨qo0, qo1, qo2, qo3⟩ := four he5.o)
                | (go_at_call_of 7 po; refine (same_any po pro ob fo so lo ko _ zo _ _ ho0 ho1 hlo he5.yo he5.pool ha25).mono ?_; rintro e w6 ⟨rfl, hx6⟩; have he6 := he5.below hx6; have ha36 := ha35.below hx6; clear hx6 he5 ha25 ha35 qo0 qo1 qo2 qo3; obtain ⟨qt0, qt1, qt2, qt3⟩ := four he6.t)
                | (go_at_call_of 7 pt; refine (same_any pt prt tb ft st lt kt _ zt _ _ ht0 ht1 hlt he6.yt he6.pool ha36).mono ?_; rintro e w7 ⟨rfl, hx7⟩; have he7 := he6.below hx7; clear hx7 he6 ha36 qt0 qt1 qt2 qt3))
              go_wp2
              go_ret
              exact ⟨rfl, he7.bel⟩
            · as_aux_lemma =>
              have hs' : B ≤ OB + TB := by omega
              have hosl3 : SlAt w3 w3.heap.size osl OL _ := hosl
              have htsl3 : SlAt w3 w3.heap.size tsl TL _ := htsl
              clear hosl htsl
              go_upto_region 28 with (first
                | (go_at_call 6; refine (HJ.out).mono ?_; intro e w4 hjp; obtain ⟨A, va, cv, vb, rfl, hjn⟩ := join_ge hjp hs; have hx4 := hjn.bel; have hfin4 := fin_of hjn; have he4 := he3.below hx4; have ha14 := ha13.below hx4; have ha24 := ha23.below hx4; have ha34 := ha3.below hx4; have hosl4 := hosl3.below (Nat.le_refl _) hx4; have htsl4 := htsl3.below (Nat.le_refl _) hx4; have hsz4 := hx4.size; clear hx4 he3 ha13 ha23 ha3 hjp HJ hjn hosl3 htsl3; obtain ⟨qb0, qb1, qb2, qb3⟩ := four he4.b)
                | (go_at_call_of 7 pb; refine (same_any pb prb bb fb sb lb kb _ zb _ _ hb0 hb1 hlb he4.yb he4.pool ha14).mono ?_; rintro e w5 ⟨rfl, hx5⟩; have he5 := he4.below hx5; have ha25 := ha24.below hx5; have ha35 := ha34.below hx5; have hfin5 := hfin4.below hx5; have hosl5 := hosl4.below hsz4 hx5; have htsl5 := htsl4.below hsz4 hx5; have hsz5 := Nat.le_trans hsz4 hx5.size; clear hx5 he4 ha14 ha24 ha34 qb0 qb1 qb2 qb3 hfin4 hosl4 htsl4; obtain ⟨qo0, qo1, qo2, qo3⟩ := four he5.o)
                | (go_at_call_of 7 po; refine (same_any po pro ob fo so lo ko _ zo _ _ ho0 ho1 hlo he5.yo he5.pool ha25).mono ?_; rintro e w6 ⟨rfl, hx6⟩; have he6 := he5.below hx6; have ha36 := ha35.below hx6; have hfin6 := hfin5.below hx6; have hosl6 := hosl5.below hsz5 hx6; have htsl6 := htsl5.below hsz5 hx6; have hsz6 := Nat.le_trans hsz5 hx6.size; clear hx6 he5 ha25 ha35 qo0 qo1 qo2 qo3 hfin5 hosl5 htsl5; obtain ⟨qt0, qt1, qt2, qt3⟩ := four he6.t)
                | (go_at_call_of 7 pt; refine (same_any pt prt tb ft st lt kt _ zt _ _ ht0 ht1 hlt he6.yt he6.pool ha36).mono ?_; rintro e w7 ⟨rfl, hx7⟩; have he7 := he6.below hx7; have hfin7 := hfin6.below hx7; have hosl7 := hosl6.below hsz6 hx7; have htsl7 := htsl6.below hsz6 hx7; clear hx7 he6 ha36 qt0 qt1 qt2 qt3 hfin6 hosl6 htsl6))
              have c0 : w7.cell? ⟨A, 0, none⟩ = some (.int .u64 (OB + TB - B)) := cell_blk hfin7.acc rfl
              have c1 : w7.cell? ⟨A, 1, none⟩ = some (.pointer none) := cell_blk hfin7.acc rfl
              have c2 : w7.cell? ⟨A, 2, none⟩ = some (.int .u64 F) := cell_blk hfin7.acc rfl
              have c3 : w7.cell? ⟨A, 3, none⟩ = some (.slice va (max OL TL) cv) := cell_blk hfin7.acc rfl
              have c4 : w7.cell? ⟨A, 4, none⟩ = some vb := cell_blk hfin7.acc rfl
              have hbel7 := he7.bel
              clear hsz4 hsz5 hsz6 he7
              go_upto_if 171 with fail
              go_cut [21] (fun s21 wd => s21 = .int .i64 ((max OL TL : Nat) : Int) ∧ w7 = wd)
              case first => as_aux_lemma =>
                by_cases hm : OL < TL
                · have em : max OL TL = TL := by omega
                  go_wp2
                  go_meet
                  case rel => exact ⟨by rw [em], rfl⟩
                · have em : max OL TL = OL := by omega
                  go_wp2
                  go_meet
                  case rel => exact ⟨by rw [em], rfl⟩
              case rest => as_aux_lemma =>
                obtain ⟨rfl, rfl⟩ := hcut
                obtain ⟨n, hn⟩ : ∃ n, n = max OL TL := ⟨_, rfl⟩
                rw [← hn] at c3 ⊢
                have hn1 : n ≤ 1024 := by omega
                have Hn : Hid (n = max OL TL) := hn
                clear hn
                clear c0 c1 c2
                go_wp2
                go_loop [22] (fun i => ∃ k : Nat, k ≤ n ∧ i = .int .i64 k) (fun i => n - (intOf i).toNat)
                case atStart => exact ⟨0, Nat.zero_le _, rfl⟩
                case round => as_aux_lemma =>
                  obtain ⟨k, hk, rfl⟩ := hrel
                  by_cases hkn : k < n
                  · obtain ⟨g, hva, hg2⟩ := hfin7.pos (by have := Hn.out; omega)
                    rw [hva] at c3
                    have d1 := hg2 k (by have := Hn.out; omega)
                    by_cases hkO : k < OL
                    · obtain ⟨bs, rfl, hcs⟩ := hosl7.pos (by omega)
                      have d2 := hcs k hkO
                      unfold mixf at d1
                      rw [if_pos hkO] at d1
                      have hne := neq28 (txOf (Tp (w.heap.size + 1 + 1 + 1)) zo k)
                      clear hg2 hcs
                      go_wp2
                      go_round
                      case rel => exact ⟨k + 1, by omega, by go_num⟩
                      case measure => simp [intOf]; omega
                    · have hkT : k < TL := by have := Hn.out; omega
                      obtain ⟨bs, rfl, hcs⟩ := htsl7.pos (by omega)
                      have d2 := hcs k hkT
                      unfold mixf at d1
                      rw [if_neg hkO] at d1
                      have hne := neq28 (txOf (Tp (w.heap.size + 1 + 1 + 1)) zt k)
                      clear hg2 hcs
                      go_wp2
                      go_round
                      case rel => exact ⟨k + 1, by omega, by go_num⟩
                      case measure => simp [intOf]; omega
                  · clear c3
                    go_upto_if 212 with fail
                    go_cut [24] (fun s24 wd => s24 = .int .i64 ((min OL TL : Nat) : Int) ∧ w7 = wd)
                    case first => as_aux_lemma =>
                      by_cases hm : TL < OL
                      · have em : min OL TL = TL := by omega
                        go_wp2
                        go_meet
                        case rel => exact ⟨by rw [em], rfl⟩
                      · have em : min OL TL = OL := by omega
                        go_wp2
                        go_meet
                        case rel => exact ⟨by rw [em], rfl⟩
                    case rest => as_aux_lemma =>
                      obtain ⟨rfl, rfl⟩ := hcut
                      obtain ⟨m, hm⟩ : ∃ m, m = min OL TL := ⟨_, rfl⟩
                      have hbes := hfin7.bes
                      rw [← hm] at hbes ⊢
                      have hm1 : m ≤ 1024 := by omega
                      have hmT : m ≤ TL := by omega
                      clear hm Hn hfin7 hosl7
                      rcases hbes with ⟨rfl, rfl⟩ | ⟨hm0, bb', rfl, hbb, hbc⟩
                      · have hen := eql27 none 0 0
                        go_wp2
                        go_ret
                        exact ⟨rfl, hbel7⟩
                      · go_wp2
                        go_loopw [25] (fun i wq => ∃ t : Nat, t ≤ m ∧ i = .int .i64 t ∧ ∃ x, wq = w7.drewN x) (fun i _ => m - (intOf i).toNat)
                        case atStart => exact ⟨0, Nat.zero_le _, rfl, 0, rfl⟩
                        case round =>
                          obtain ⟨t, ht, rfl, x, rfl⟩ := hrel
                          by_cases htm : t < m
                          · obtain ⟨bs, rfl, hcs⟩ := htsl7.pos (by omega)
                            have d1 := hbc t htm
                            have d2 := hcs t (by omega)
                            have e1 : (t : Int) < (m : Int) := by omega
                            have e2 : (t : Int) < (TL : Int) := by omega
                            have hne := neq28 (txOf (Tp (w.heap.size + 1 + 1 + 1)) zt t)
                            clear hcs hbc
                            go_wp2
                            go_quiet (fail)
                            go_wp2
                            go_roundw
                            case rel => exact ⟨t + 1, by omega, by go_num, _, rfl⟩
                            case measure => simp [intOf]; omega
                          · go_wp2
                            go_ret
                            exact ⟨rfl, hbel7.trans (below_drewN _ _ _)⟩
end Go.Proofs.Ybulkcjwq.Join
