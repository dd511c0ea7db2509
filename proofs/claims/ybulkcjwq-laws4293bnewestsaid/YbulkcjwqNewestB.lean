import Derived.Test.YbulkcjwqNewestA
import Derived.Deep.MidRow
import Derived.LaidEqlPtr
import Derived.Laws.Pointers
namespace Go.Proofs.Ybulkcjwq.lawS4293BNewest
open Go.RowKit
set_option linter.unusedVariables false

/-- WHAT THE WALK IS TOLD OF A SLICE OF INTEGERS THAT CAME IN. -/
def IsRow (k : IntKind) (w : World) (a : Option Addr) (len cap : Nat) (zs : List Int) : Prop :=
  (a = none ∧ len = 0 ∧ cap = 0 ∧ zs = []) ∨
  ∃ x, a = some x ∧ len ≤ cap ∧ cap ≤ maxLen ∧ zs.length = cap ∧ (∀ i, i < zs.length → w.cell? (x.add i) = some (.int k (zs.getD i 0))) ∧ ∀ n ∈ zs, (Lit.int k n).wf = true

theorem info55 : (Yba.prog.info? 55).map (fun i => (i.zero, i.size, i.bytes)) = some (some (.agg #[.int .i64 0, .pointer none, .pointer none, .int .i64 0, .int .u8 0, .bool false, .pointer none]), 7, 48) := by kernel_rfl
theorem run_make55 (n : Nat) (hn : n ≤ 1024) (w : World) :
    (Instr.makeSlice 51 (.int .i64 (n : Int)) (.int .i64 (n : Int))).run Yba.prog w = .ok (.slice (some ⟨w.heap.size, 0, none⟩) n n)
      (w.alloc (.cells (madeCells #[.int .i64 0, .pointer none, .pointer none, .int .i64 0, .int .u8 0, .bool false, .pointer none] (n * 7)) 55)) := by
  obtain ⟨i, hi, hzz⟩ := Option.map_eq_some_iff.1 info55
  simp only [Prod.mk.injEq] at hzz
  obtain ⟨hz, hs, hb⟩ := hzz
  have := run_make (P := Yba.prog) w 51 55 i _ Yba.underlying51 hi hz .i64 .i64 n n (by omega) (Int.le_refl _) (by rw [hb]; omega) (by omega)
  rw [hs, Int.toNat_natCast] at this
  exact this

theorem size55 : (Yba.prog.info? 55).map (·.size) = some 7 := by kernel_rfl
theorem one55 (x : Int) : (#[.int .i64 x, .pointer none, .pointer none, .int .i64 0, .int .u8 0, .bool false, .pointer none] : Array Value).all (·.oneCell') = true := by simp [Value.oneCell']
theorem info48 : (Yba.prog.info? 48).map (fun i => (i.zero, i.size, i.bytes)) = some (some (.pointer none), 1, 8) := by kernel_rfl

theorem wpList_build {P : Program} {ops : Array Oper} {rest : List Oper} {o : Oper} {a : Act} {w : World} {Q : Exit → Act → World → Prop} (hgd : o.guard = none) (t : TypeId) (parts : Array (Nat × Operand)) (ho : o.op = .build t parts)
    (vals : Array (Nat × Value)) (hv : parts.map (fun (i, x) => (i, a.eval x)) = vals) (cells : Array Value) (hrun : (Instr.build t vals).run P w = .ok (.agg cells) w)
    (h : wpList P ops Q rest (a.put o.dst (.agg cells)) w) : wpList P ops Q (o :: rest) a w :=
  wpList_plain hgd fun K hK => by
    unfold Oper.wp execOp
    simp only [ho, hv, Sem.run_bind, hrun, Result.andThen_ok]
    exact hK _ _ h
theorem build79 (a b : Option Addr) (n c m d : Nat) : ∃ cells : Array Value, (∀ w, (Instr.build 79 #[(8, .slice a n c), (21, .slice b m d)]).run Yba.prog w = .ok (.agg cells) w) ∧ cells[8]? = some (.slice a n c) ∧ cells[21]? = some (.slice b m d) := by
  have h : (Yba.prog.built 79 [(8, .slice a n c), (21, .slice b m d)]).isSome = true := by kernel_rfl
  have h8 : (Yba.prog.built 79 [(8, .slice a n c), (21, .slice b m d)]).bind (fun x => x[8]?) = some (.slice a n c) := by kernel_rfl
  have h21 : (Yba.prog.built 79 [(8, .slice a n c), (21, .slice b m d)]).bind (fun x => x[21]?) = some (.slice b m d) := by kernel_rfl
  obtain ⟨cells, hc⟩ := Option.isSome_iff_exists.1 h
  rw [hc] at h8 h21
  exact ⟨cells, fun w => run_build w 79 _ _ hc, h8, h21⟩

/-- AFTER j ROUNDS OF THE FIRST LOOP. -/
def Ch (N : Nat) (w : World) (a0 : Int) (n j : Nat) (wr : World) : Prop :=
  wr.rowIs N 48 n (fun t => if t < j then .pointer (some ⟨N + 1 + t, 0, none⟩) else .pointer none) ∧
  (∀ t, t < j → wr.cell? ⟨N + 1 + t, 2, none⟩ = some (.int .i64 (a0 + t))) ∧ wr.heap.size = N + 1 + j ∧ Below N w wr

theorem ch_start (w : World) (a0 : Int) (n : Nat) : Ch w.heap.size w a0 n 0 (w.alloc (.cells (madeCells #[.pointer none] n) 48)) :=
  ⟨(World.rowIs_made w (.pointer none) n 48).congr (fun i hi => by simp), fun t ht => by omega, by simp, (Below.refl _ _).alloc (Nat.le_refl _) _⟩

theorem ch_step (N : Nat) (w : World) (a0 : Int) (n j : Nat) (wr : World) (cs : Array Value) (hcs : cs[2]? = some (.int .i64 (a0 + j))) (hj : j < n) (h : Ch N w a0 n j wr) :
    Ch N w a0 n (j + 1) ((wr.alloc (.cells cs 50)).setCell ⟨N, j, none⟩ (.pointer (some ⟨N + 1 + j, 0, none⟩))) := by
  obtain ⟨h1, h2, h3, h4⟩ := h
  refine ⟨((h1.alloc _).set j _).congr ?_, ?_, by simp [h3]; omega, (h4.alloc (by omega) _).setCell (Nat.le_refl _) _⟩
  · intro i hi
    by_cases e : i = j
    · subst e; simp
    · simp only [e, if_false]
      by_cases e2 : i < j
      · rw [if_pos e2, if_pos (by omega)]
      · rw [if_neg e2, if_neg (by omega)]
  · intro t ht
    rw [World.cell?_of_block (w := wr.alloc (.cells cs 50)) (Below.heap_setCell _ _ _ _ (by show N + 1 + t ≠ N; omega))]
    by_cases e : t = j
    · subst e
      rw [World.cell?_alloc_at _ _ _ _ h3.symm]
      exact hcs
    · rw [World.cell?_of_block (w := wr) (Below.heap_alloc _ _ _ (by show N + 1 + t < _; omega))]
      exact h2 t (by omega)

/-- AFTER j ROUNDS OF THE SECOND LOOP. -/
def Bm (N : Nat) (w : World) (a0 : Int) (n len : Nat) (z : Nat → Int) (j : Nat) (wr : World) : Prop :=
  (∀ t, t < n → wr.cell? ⟨N, t, none⟩ = some (.pointer (some ⟨N + 1 + t, 0, none⟩))) ∧
  (∀ t, t < n → wr.cell? ⟨N + 1 + t, 2, none⟩ = some (.int .i64 (a0 + t))) ∧
  (wr.there (N + 1 + n) 0 (len * 7) ∧ ∀ t, t < j → wr.cell? ⟨N + 1 + n, t * 7, none⟩ = some (.int .i64 (a0 + z t % n))) ∧ wr.heap.size = N + 1 + n + 1 ∧ Below N w wr

theorem bm_start (N : Nat) (w : World) (a0 : Int) (n len : Nat) (z : Nat → Int) (wr : World) (h : Ch N w a0 n n wr) :
    Bm N w a0 n len z 0 (wr.alloc (.cells (madeCells #[.int .i64 0, .pointer none, .pointer none, .int .i64 0, .int .u8 0, .bool false, .pointer none] (len * 7)) 55)) := by
  obtain ⟨h1, h2, h3, h4⟩ := h
  refine ⟨fun t ht => ?_, fun t ht => ?_, ?_, by simp [h3], h4.alloc (by omega) _⟩
  · rw [World.cell?_alloc_past _ _ _ (by omega), h1.cell ht, if_pos ht]
  · rw [World.cell?_alloc_past _ _ _ (by omega)]; exact h2 t ht
  · refine ⟨fun i hi => ?_, fun t ht => by omega⟩
    rw [Nat.zero_add, World.cell?_alloc_at _ _ _ _ h3.symm]
    refine ⟨by simp [madeCells, hi], ?_⟩
    rw [← h3]
    exact World.frozen?_alloc_at _ _ _ _ rfl

theorem below_setCells {B b : Nat} {a : World} (hb : B ≤ b) : ∀ (vs : List Value) (o : Nat) (w : World), Below B a w → Below B a (w.setCells b o vs)
  | [], _, _, h => h
  | v :: r, o, w, h => below_setCells hb r (o + 1) _ (h.setCell (p := ⟨b, o, none⟩) hb v)
theorem size_setCells (b : Nat) : ∀ (vs : List Value) (o : Nat) (w : World), (w.setCells b o vs).heap.size = w.heap.size
  | [], _, _ => rfl
  | v :: r, o, w => by rw [World.setCells, size_setCells b r]; simp [World.setCell]

theorem bm_step (N : Nat) (w : World) (a0 : Int) (n len : Nat) (z : Nat → Int) (j : Nat) (wr : World) (v : Value) (vs : List Value) (hv : v = .int .i64 (a0 + z j % n)) (hvs : vs.length = 6) (hj : j < len) (h : Bm N w a0 n len z j wr) :
    Bm N w a0 n len z (j + 1) (wr.setCells (N + 1 + n) (j * 7) (v :: vs)) := by
  obtain ⟨h1, h2, ⟨h3, h4⟩, h5, h6⟩ := h
  refine ⟨fun t ht => ?_, fun t ht => ?_, ⟨World.there_setCells h3 _ _ _, fun t ht => ?_⟩, by rw [size_setCells]; exact h5, below_setCells (by omega) _ _ _ h6⟩
  · rw [World.cell?_setCells_out _ _ _ _ _ (fun e _ => by simp at e; omega)]; exact h1 t ht
  · rw [World.cell?_setCells_out _ _ _ _ _ (fun e _ => by simp at e; omega)]; exact h2 t ht
  · by_cases e : t = j
    · subst e
      have := World.cell?_setCells_in (N + 1 + n) (v :: vs) (t * 7) wr (fun i hi => by have := (h3 (t * 7 + i) (by simp at hi; omega)).1; rwa [Nat.zero_add] at this) 0 (by simp)
      exact this.trans (by rw [hv]; rfl)
    · rw [World.cell?_setCells_out _ _ _ _ _ (fun _ _ => by left; show t * 7 < j * 7; omega)]; exact h4 t (by omega)

theorem eql48 (a : Addr) (w : World) : (binOp .eql 48 (.pointer (some a)) (.pointer (some a))).run Yba.prog w = .ok (.bool true) w := by
  obtain ⟨i, hi, _⟩ := Option.map_eq_some_iff.1 (show (Yba.prog.info? 50).map (fun i => i.size) = some 6 by kernel_rfl)
  exact run_eql_ptr_same w a Yba.underlying48 hi
theorem neq48 (a : Addr) (w : World) : (binOp .neq 48 (.pointer (some a)) (.pointer (some a))).run Yba.prog w = .ok (.bool false) w := by
  obtain ⟨i, hi, _⟩ := Option.map_eq_some_iff.1 (show (Yba.prog.info? 50).map (fun i => i.size) = some 6 by kernel_rfl)
  have h : ∀ d : Nat, (Op.equalIn (d + 1) 48 (.pointer (some a)) (.pointer (some a))).run Yba.prog w = .ok true w := fun d => by
    simp [Op.equalIn, run_underlying Yba.underlying48, sizeOf, typeInfo, hi, run_sameAddr_same]
  simp only [binOp]
  simp [Op.equal, Op.maxDepth, h 9999]

theorem below_drewN (B : Nat) (w : World) : ∀ n, Below B w (w.drewN n)
  | 0 => Below.refl _ _
  | n + 1 => (below_drewN B w n).drew

def wantOf (N d t : Nat) : Option Addr := if d < t then some ⟨N + 1 + d, 0, none⟩ else none

/-- WHEN THE NODE STANDS. -/
def St (N : Nat) (w : World) (a0 : Int) (n len : Nat) (z : Nat → Int) (W : World) : Prop :=
  (∀ t, t < n → W.cell? ⟨N, t, none⟩ = some (.pointer (some ⟨N + 1 + t, 0, none⟩))) ∧
  (∀ t, t < n → W.cell? ⟨N + 1 + t, 2, none⟩ = some (.int .i64 (a0 + t))) ∧
  (∀ t, t < len → W.cell? ⟨N + 1 + n, t * 7, none⟩ = some (.int .i64 (a0 + z t % n))) ∧
  W.cell? ⟨N + 1 + n + 1, 8, none⟩ = some (.slice (some ⟨N, 0, none⟩) n n) ∧
  W.cell? ⟨N + 1 + n + 1, 21, none⟩ = some (.slice (some ⟨N + 1 + n, 0, none⟩) len len) ∧ Below N w W

theorem st_of {N : Nat} {w : World} {a0 : Int} {n len : Nat} {z : Nat → Int} {wr : World} (h : Bm N w a0 n len z len wr) (nc : Array Value)
    (n8 : nc[8]? = some (.slice (some ⟨N, 0, none⟩) n n)) (n21 : nc[21]? = some (.slice (some ⟨N + 1 + n, 0, none⟩) len len)) : St N w a0 n len z (wr.alloc (.cells nc 79)) := by
  obtain ⟨h1, h2, ⟨h3, h4⟩, h5, h6⟩ := h
  refine ⟨fun t ht => ?_, fun t ht => ?_, fun t ht => ?_, ?_, ?_, h6.alloc (by omega) _⟩
  · rw [World.cell?_alloc_past _ _ _ (by omega)]; exact h1 t ht
  · rw [World.cell?_alloc_past _ _ _ (by omega)]; exact h2 t ht
  · rw [World.cell?_alloc_past _ _ _ (by omega)]; exact h4 t ht
  · rw [World.cell?_alloc_at _ _ _ _ h5.symm]; exact n8
  · rw [World.cell?_alloc_at _ _ _ _ h5.symm]; exact n21

def gotOf (N n len : Nat) (z : Nat → Int) : Option Addr := if len = 0 then none else some ⟨N + 1 + (z (len - 1) % n).toNat, 0, none⟩

theorem merged_st {N : Nat} {w : World} {a0 : Int} {n len : Nat} {z : Nat → Int} {W : World} (h : St N w a0 n len z W) (hb1 : -2147483648 ≤ a0) (hb2 : a0 ≤ 2147483647) (hn : 0 < n) (hn' : n ≤ 1025) (hl : len ≤ 1024) :
    Calls Yba.prog 8 #[.pointer (some ⟨N + 1 + n + 1, 0, none⟩)] W fun e w' => e = .returned (.pointer (gotOf N n len z)) ∧ ∃ m, w' = W.drewN m := by
  obtain ⟨h1, h2, h3, h4, h5, h6⟩ := h
  by_cases e : len = 0
  · subst e
    refine (merged_none _ _ _ W h5).mono ?_
    rintro e w' ⟨rfl, rfl⟩
    exact ⟨rfl, 0, rfl⟩
  · obtain ⟨m, rfl⟩ : ∃ m, len = m + 1 := ⟨len - 1, by omega⟩
    have z3 : 0 ≤ z m % (n : Int) := Int.emod_nonneg _ (by omega)
    have z4 : z m % (n : Int) < n := Int.emod_lt_of_pos _ (by omega)
    have e4 : (((z m % (n : Int)).toNat : Nat) : Int) = z m % (n : Int) := by omega
    have hh0 := h2 0 hn
    simp only [Nat.add_zero, Int.natCast_zero, Int.add_zero] at hh0
    refine (merged_some _ _ _ _ n (z m % (n : Int)).toNat m a0 _ W hb1 hb2 hn' (by omega) (by omega) h4 (h1 0 hn) hh0 (h1 _ (by omega)) h5 (by rw [e4]; exact h3 m (by omega))).mono ?_
    rintro e w' ⟨rfl, k, rfl⟩
    exact ⟨by simp [gotOf], k, rfl⟩

set_option maxRecDepth 100000 in
set_option maxHeartbeats 1000000 in
theorem walk_main (a0 : Int) (K : Nat) (a2 : Option Addr) (len2 cap2 : Nat) (w : World) (hb1 : -2147483648 ≤ a0) (hb2 : a0 ≤ 2147483647) (hK : K ≤ 1024) (hl : len2 ≤ 1024)
   (z : Nat → Int) (hz : ∀ i, 0 ≤ z i ∧ z i ≤ 65535)
   (hc : ∀ i, i < len2 → ∃ b off, a2 = some ⟨b, off, none⟩ ∧ b < w.heap.size ∧ w.cell? ⟨b, off + i, none⟩ = some (.int .u16 (z i))) :
    Calls Yba.prog 4 #[.int .i32 a0, .int .u16 (K : Int), .slice a2 len2 cap2] w fun e w' => e = .returned (.bool true) ∧ Below w.heap.size w w' := by
  have hmk := run_make_row' (P := Yba.prog) 47 48 _ _ Yba.underlying47 info48 rfl .i64 .i64 (K + 1) (by omega) (by omega)
  rw [show ((K + 1 : Nat) : Int) = (K : Int) + 1 from by omega] at hmk
  go_enter Yba.func4, Yba.ntmps4
  go_wp2
  go_loopw [9] (fun i wr => ∃ j : Nat, j ≤ K + 1 ∧ i = .int .i64 j ∧ Ch w.heap.size w a0 (K + 1) j wr) (fun i _ => K + 1 - (intOf i).toNat)
  case atStart => exact ⟨0, Nat.zero_le _, rfl, ch_start _ _ _⟩
  case round =>
    obtain ⟨j, hj, rfl, hch⟩ := hrel
    by_cases hlt : j < K + 1
    · have hc0 : ∀ o, (wr.alloc o).cell? ⟨w.heap.size, j, none⟩ = some (.pointer none) := fun o => by have := ((hch.1).alloc o).cell hlt; simpa using this
      have hf0 : ∀ o, (wr.alloc o).frozen? ⟨w.heap.size, j, none⟩ = false := fun o => ((hch.1).alloc o).frozen j
      have hsz := hch.2.2.1
      go_wp2
      go_roundw
      case rel => exact ⟨j + 1, by omega, by go_num, ch_step _ _ _ _ _ _ _ (by simp) hlt hch⟩
      case measure => simp [intOf]; omega
    · obtain rfl : j = K + 1 := by omega
      clear hmk
      have hsz := hch.2.2.1
      have hmk := run_make55 len2 hl
      go_wp2
      go_loopw [11] (fun i wq => ∃ j : Nat, j ≤ len2 ∧ i = .int .i64 j ∧ Bm w.heap.size w a0 (K + 1) len2 z j wq) (fun i _ => len2 - (intOf i).toNat)
      case atStart => exact ⟨0, Nat.zero_le _, rfl, bm_start _ _ _ _ _ _ _ hch⟩
      case round =>
        obtain ⟨j, hj, rfl, hbm⟩ := hrel
        by_cases hlt : j < len2
        · obtain ⟨b, off, rfl, hbw, hcz⟩ := hc j hlt
          have hcz' : wr.cell? ⟨b, off + j, none⟩ = some (.int .u16 (z j)) := (hbm.2.2.2.2.cell (p := ⟨b, off + j, none⟩) hbw).trans hcz
          clear hcz hsz hmk
          have hth : wr.there (w.heap.size + 1 + (K + 1)) (j * 7) 7 := fun o ho => by have := hbm.2.2.1.1 (j * 7 + o) (by omega); rwa [Nat.zero_add] at this
          obtain ⟨z1, z2⟩ := hz j
          have hM : Hid (wr.there (w.heap.size + 1 + (K + 1)) (j * 7) 7) := hth
          clear hth
          have z3 : 0 ≤ z j % ((K : Int) + 1) := Int.emod_nonneg _ (by omega)
          have z4 : z j % ((K : Int) + 1) < (K : Int) + 1 := Int.emod_lt_of_pos _ (by omega)
          go_wp2_with (refine wpList_store_mid ?_ 55 (.tmp 66) (.tmp 65) ?_ (w.heap.size + 1 + (K + 1)) (j * 7) #[.int .i64 (a0 + z j % ((K : Int) + 1)), .pointer none, .pointer none, .int .i64 0, .int .u8 0, .bool false, .pointer none] ?_ ?_ ?_ size55 (one55 _) ?_; rfl; rfl; rfl; rfl; exact hM.out)
          go_roundw
          case rel =>
            (repeat apply Exists.intro)
            exact ⟨⟨j + 1, by omega, by go_num, bm_step _ _ _ _ _ _ _ _ _ _ (by simp) rfl hlt hbm⟩, rfl⟩
          case measure => simp [intOf]; omega
        · obtain rfl : j = len2 := by omega
          clear hmk hsz hch
          obtain ⟨nc, hbd, n8, n21⟩ := build79 (some ⟨w.heap.size, 0, none⟩) (some ⟨w.heap.size + 1 + (K + 1), 0, none⟩) (K + 1) (K + 1) j j
          have HB := hbd wr
          have hsz2 : wr.heap.size = w.heap.size + 1 + (K + 1) + 1 := hbm.2.2.2.1
          have HB' : Hid (Sem.run Yba.prog (Instr.build 79 #[(8, .slice (some ⟨w.heap.size, 0, none⟩) (K + 1) (K + 1)), (21, .slice (some ⟨w.heap.size + 1 + (K + 1), 0, none⟩) j j)]) wr = .ok (.agg nc) wr) := HB
          clear HB hbd
          go_wp2_with (refine wpList_build ?_ 79 #[(8, .tmp 67), (21, .tmp 68)] ?_ #[(8, .slice (some ⟨w.heap.size, 0, none⟩) (K + 1) (K + 1)), (21, .slice (some ⟨w.heap.size + 1 + (K + 1), 0, none⟩) j j)] ?_ nc ?_ ?_; rfl; rfl; (simp [Act.eval]); exact HB'.out)
          have hst := st_of hbm nc n8 n21
          clear hbm HB' n8 n21 hlt hsz2
          generalize wr.alloc (Obj.cells nc 79) = W at hst ⊢
          refine (merged_st hst hb1 hb2 (by omega) (by omega) hl).mono ?_
          rintro e w' ⟨rfl, dn, rfl⟩
          obtain ⟨s1, s2, s3, s4, s5, s6⟩ := hst
          have s4' : (W.drewN dn).cell? ⟨w.heap.size + 1 + (K + 1) + 1, 8, none⟩ = some (.slice (some ⟨w.heap.size, 0, none⟩) (K + 1) (K + 1)) := by simpa using s4
          have s5' : (W.drewN dn).cell? ⟨w.heap.size + 1 + (K + 1) + 1, 21, none⟩ = some (.slice (some ⟨w.heap.size + 1 + (K + 1), 0, none⟩) j j) := by simpa using s5
          clear s5
          go_wp2_with fail
          clear s4' s5'
          go_loopw [14] (fun i wq => ∃ t : Nat, t ≤ K + 1 ∧ i = .int .i64 t ∧ ∃ m, wq = W.drewN m) (fun i _ => K + 1 - (intOf i).toNat)
          case atStart => exact ⟨0, Nat.zero_le _, rfl, dn, rfl⟩
          case round =>
            obtain ⟨t, ht, rfl, m, rfl⟩ := hrel
            by_cases hlt : t < K + 1
            · have c1 := s1 t hlt
              have c2 := s2 t hlt
              have e1 : (t : Int) < (K : Int) + 1 := by omega
              have hne := neq48 ⟨w.heap.size + 1 + t, 0, none⟩
              go_wp2
              go_quiet (fail)
              go_wp2
              go_roundw
              case rel => exact ⟨t + 1, by omega, by go_num, _, rfl⟩
              case measure => simp [intOf]; omega
            · obtain rfl : t = K + 1 := by omega
              have hend : Below w.heap.size w (W.drewN m) := s6.trans (below_drewN _ _ _)
              clear s6
              by_cases e0 : j = 0
              · subst e0
                have hg : gotOf w.heap.size (K + 1) 0 z = none := rfl
                go_wp2
                go_ret
                exact ⟨rfl, hend⟩
              · obtain ⟨l, rfl⟩ : ∃ l, j = l + 1 := ⟨j - 1, by omega⟩
                obtain ⟨b, off, rfl, hbw, hcz⟩ := hc l (by omega)
                have hcz' : (W.drewN m).cell? ⟨b, off + l, none⟩ = some (.int .u16 (z l)) := (hend.cell (p := ⟨b, off + l, none⟩) hbw).trans hcz
                clear hcz
                obtain ⟨z1, z2⟩ := hz l
                have z3 : 0 ≤ z l % ((K : Int) + 1) := Int.emod_nonneg _ (by omega)
                have z4 : z l % ((K : Int) + 1) < (K : Int) + 1 := Int.emod_lt_of_pos _ (by omega)
                have hg : gotOf w.heap.size (K + 1) (l + 1) z = some ⟨w.heap.size + 1 + (z l % ((K : Int) + 1)).toNat, 0, none⟩ := by simp [gotOf]
                have e5 : (l : Int) < (l : Int) + 1 := by omega
                have e6 : (l : Int) + 1 - 1 = l := by omega
                have e7 : ((l : Int) + 1 == 0) = false := beq_eq_false_iff_ne.2 (by omega)
                go_wp2
                generalize z l % ((K : Int) + 1) = q at *
                obtain ⟨d, rfl⟩ := Int.eq_ofNat_of_zero_le z3
                rw [Int.toNat_natCast] at hg
                clear hcz' e5 e6 e7
                go_loop [16, 17] (fun want i => ∃ t : Nat, t ≤ K + 1 ∧ i = .int .i64 t ∧ want = .pointer (wantOf w.heap.size d t)) (fun _ i => K + 1 - (intOf i).toNat)
                case atStart => exact ⟨0, Nat.zero_le _, rfl, rfl⟩
                case round =>
                  obtain ⟨t, ht, rfl, rfl⟩ := hrel
                  by_cases hlt : t < K + 1
                  · have c1 := s1 t hlt
                    have c2 := s2 t hlt
                    by_cases etd : t = d
                    · subst etd
                      have c3 : wantOf w.heap.size t (t + 1) = some ⟨w.heap.size + 1 + t, 0, none⟩ := by simp [wantOf]
                      go_wp2
                      go_round
                      case rel => exact ⟨t + 1, by omega, by go_num, by rw [c3]⟩
                      case measure => simp [intOf]; omega
                    · have c3 : Hid (wantOf w.heap.size d (t + 1) = wantOf w.heap.size d t) := by
                        show wantOf w.heap.size d (t + 1) = wantOf w.heap.size d t
                        unfold wantOf
                        by_cases h : d < t
                        · rw [if_pos h, if_pos (by omega)]
                        · rw [if_neg h, if_neg (by omega)]
                      have c4 : (a0 + (t : Int) == a0 + (d : Int)) = false := beq_eq_false_iff_ne.2 (by omega)
                      go_wp2
                      go_round
                      case rel => exact ⟨t + 1, by omega, by go_num, by rw [c3.out]⟩
                      case measure => simp [intOf]; omega
                  · obtain rfl : t = K + 1 := by omega
                    have c3 : wantOf w.heap.size d (K + 1) = some ⟨w.heap.size + 1 + d, 0, none⟩ := by simp [wantOf]; omega
                    have heq := eql48 ⟨w.heap.size + 1 + d, 0, none⟩
                    go_wp2
                    go_ret
                    exact ⟨rfl, hend⟩
end Go.Proofs.Ybulkcjwq.lawS4293BNewest
