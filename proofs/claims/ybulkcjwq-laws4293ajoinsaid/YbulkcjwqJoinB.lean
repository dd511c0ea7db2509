import Derived.Test.YbulkcjwqJoinA
namespace Go.Proofs.Ybulkcjwq.Join
open Go.RowKit
set_option linter.unusedVariables false

/-- AN ACCOUNT THAT LIES BEHIND A POINTER (or none). -/
def AccAt (w : World) (p : Option Addr) (pr : Bool) (bal first : Int) (len : Nat) (f : Nat → Addr) : Prop :=
  (pr = false ∧ p = none) ∨ (pr = true ∧ ∃ ba bs, p = some ⟨ba, 0, none⟩ ∧ w.heap[ba]? = some (.cells #[.int .u64 bal, .pointer none, .int .u64 first, .slice (some ⟨bs, 0, none⟩) len len, .slice none 0 0] 40 (0, 0)) ∧ bs < w.heap.size ∧ ∀ i, i < len → w.cell? ⟨bs, i, none⟩ = some (.pointer (some (f i))))

theorem AccAt.below {w w1 : World} {p : Option Addr} {pr : Bool} {bal first : Int} {len : Nat} {f : Nat → Addr} (h : AccAt w p pr bal first len f) (hb : Below w.heap.size w w1) : AccAt w1 p pr bal first len f := by
  rcases h with h | ⟨h1, ba, bs, h2, h3, h4, h5⟩
  · exact .inl h
  · exact .inr ⟨h1, ba, bs, h2, blk_below hb h3, Nat.lt_of_lt_of_le h4 hb.size, fun i hi => by rw [hb.cell (p := ⟨bs, i, none⟩) h4]; exact h5 i hi⟩

/-- WHAT IS KNOWN OF THE BYTES THAT CAME IN. -/
def Bytes (w : World) (sa : Option Addr) (len : Nat) (z : Nat → Int) : Prop :=
  (∀ i, 0 ≤ z i ∧ z i ≤ 255) ∧ ∀ i, i < len → ∃ b off, sa = some ⟨b, off, none⟩ ∧ b < w.heap.size ∧ w.cell? ⟨b, off + i, none⟩ = some (.int .u8 (z i))
theorem Bytes.below {w w1 : World} {sa : Option Addr} {len : Nat} {z : Nat → Int} (h : Bytes w sa len z) (hb : Below w.heap.size w w1) : Bytes w1 sa len z :=
  ⟨h.1, fun i hi => by obtain ⟨b, off, e, hl, hc⟩ := h.2 i hi; exact ⟨b, off, e, Nat.lt_of_lt_of_le hl hb.size, by rw [hb.cell (p := ⟨b, off + i, none⟩) hl]; exact hc⟩⟩
/-- THE POOL. -/
def Pool (w : World) (bp : Nat) (T : Nat → Addr) : Prop := bp < w.heap.size ∧ ∀ i, i < 8 → w.cell? ⟨bp, i, none⟩ = some (.pointer (some (T i)))
theorem Pool.below {w w1 : World} {bp : Nat} {T : Nat → Addr} (h : Pool w bp T) (hb : Below w.heap.size w w1) : Pool w1 bp T :=
  ⟨Nat.lt_of_lt_of_le h.1 hb.size, fun i hi => by rw [hb.cell (p := ⟨bp, i, none⟩) h.1]; exact h.2 i hi⟩
def txOf (T : Nat → Addr) (z : Nat → Int) (i : Nat) : Addr := T (z i % 8).toNat

theorem build33 (x : Int) (w : World) : (Instr.build 33 #[(1, .int .u64 x)]).run Yba.prog w = .ok (.agg #[.int .u64 x, .pointer none]) w := run_build w 33 _ _ (by kernel_rfl)

/-- The loop of the builder. -/
def Bl (N : Nat) (w : World) (pr : Bool) (bal first : Int) (sa : Option Addr) (len cap : Nat) (f : Nat → Addr) (j : Nat) (wr : World) : Prop :=
  wr.rowIs (N + 1) 28 len (fun t => if t < j then .pointer (some (f t)) else .pointer none) ∧ wr.heap[N]? = some (.cells #[.bool pr, .int .u32 bal, .int .u64 first, .slice sa len cap] 26 (0, 0)) ∧ wr.heap.size = N + 2 ∧ Below N w wr

theorem bl_start (w : World) (pr : Bool) (bal first : Int) (sa : Option Addr) (len cap : Nat) (f : Nat → Addr) :
    Bl w.heap.size w pr bal first sa len cap f 0 ((w.alloc (.cells #[.bool pr, .int .u32 bal, .int .u64 first, .slice sa len cap] 26)).alloc (.cells (madeCells #[.pointer none] len) 28)) := by
  refine ⟨?_, blk_past (blk_new _ _) _, by simp, ((Below.refl _ _).alloc (Nat.le_refl _) _).alloc (by simp) _⟩
  have := World.rowIs_made (w.alloc (.cells #[.bool pr, .int .u32 bal, .int .u64 first, .slice sa len cap] 26)) (.pointer none) len 28
  rw [show (w.alloc (.cells #[.bool pr, .int .u32 bal, .int .u64 first, .slice sa len cap] 26)).heap.size = w.heap.size + 1 by simp] at this
  exact this.congr (fun i hi => by simp)

theorem bl_step {N : Nat} {w : World} {pr : Bool} {bal first : Int} {sa : Option Addr} {len cap : Nat} {f : Nat → Addr} {j : Nat} {wr : World} (hj : j < len) (h : Bl N w pr bal first sa len cap f j wr) :
    Bl N w pr bal first sa len cap f (j + 1) (wr.setCell ⟨N + 1, j, none⟩ (.pointer (some (f j)))) := by
  obtain ⟨h1, h2, h3, h4⟩ := h
  refine ⟨(h1.set j _).congr ?_, blk_other h2 (by simp) _, by simp [h3], h4.setCell (by simp) _⟩
  intro i hi
  by_cases e : i = j
  · subst e; simp
  · simp only [e, if_false]
    by_cases e2 : i < j
    · rw [if_pos e2, if_pos (by omega)]
    · rw [if_neg e2, if_neg (by omega)]

theorem bl_done {w : World} {bal first : Int} {sa : Option Addr} {len cap : Nat} {f : Nat → Addr} {wr : World} (h : Bl w.heap.size w true bal first sa len cap f len wr) :
    AccAt (wr.alloc (.cells #[.int .u64 bal, .pointer none, .int .u64 first, .slice (some ⟨w.heap.size + 1, 0, none⟩) len len, .slice none 0 0] 40)) (some ⟨w.heap.size + 2, 0, none⟩) true bal first len f ∧ Below w.heap.size w (wr.alloc (.cells #[.int .u64 bal, .pointer none, .int .u64 first, .slice (some ⟨w.heap.size + 1, 0, none⟩) len len, .slice none 0 0] 40)) := by
  obtain ⟨h1, h2, h3, h4⟩ := h
  refine ⟨.inr ⟨rfl, w.heap.size + 2, w.heap.size + 1, rfl, ?_, by simp; omega, fun i hi => ?_⟩, h4.alloc (by omega) _⟩
  · rw [← h3]; exact blk_new _ _
  · have := (h1.alloc (.cells #[.int .u64 bal, .pointer none, .int .u64 first, .slice (some ⟨w.heap.size + 1, 0, none⟩) len len, .slice none 0 0] 40)).cell hi
    rw [this, if_pos hi]

set_option maxRecDepth 100000 in
set_option maxHeartbeats 1000000 in
theorem build_yes (bal first : Int) (sa : Option Addr) (len cap bp : Nat) (z : Nat → Int) (T : Nat → Addr) (w : World) (hb0 : 0 ≤ bal) (hb1 : bal < 4294967296) (hl : len ≤ 1024) (hz : Bytes w sa len z) (hp : Pool w bp T) :
    Calls Yba.prog 5 #[.agg #[.bool true, .int .u32 bal, .int .u64 first, .slice sa len cap], .slice (some ⟨bp, 0, none⟩) 8 8] w fun e w' => ∃ p, e = .returned (.pointer p) ∧ AccAt w' p true bal first len (txOf T z) ∧ Below w.heap.size w w' := by
  have hmk := run_make_row' (P := Yba.prog) 27 28 _ _ Yba.underlying27 info28 rfl .i64 .i64 len (by omega) (by omega)
  go_enter Yba.func5, Yba.ntmps5
  go_wp2
  go_loopw [18] (fun i wr => ∃ j : Nat, j ≤ len ∧ i = .int .i64 j ∧ Bl w.heap.size w true bal first sa len cap (txOf T z) j wr) (fun i _ => len - (intOf i).toNat)
  case atStart => exact ⟨0, Nat.zero_le _, rfl, bl_start _ _ _ _ _ _ _ _⟩
  case round =>
    clear hmk
    obtain ⟨j, hj, rfl, hbl⟩ := hrel
    by_cases hlt : j < len
    · obtain ⟨b, off, rfl, hbw, hcz⟩ := hz.2 j hlt
      obtain ⟨z1, z2⟩ := hz.1 j
      have hcz' : wr.cell? ⟨b, off + j, none⟩ = some (.int .u8 (z j)) := (hbl.2.2.2.cell (p := ⟨b, off + j, none⟩) hbw).trans hcz
      have m1 : 0 ≤ z j % 8 := Int.emod_nonneg _ (by omega)
      have m2 : z j % 8 < 8 := Int.emod_lt_of_pos _ (by omega)
      have hpc : wr.cell? ⟨bp, (z j % 8).toNat, none⟩ = some (.pointer (some (txOf T z j))) := (hbl.2.2.2.cell (p := ⟨bp, (z j % 8).toNat, none⟩) hp.1).trans (hp.2 _ (by omega))
      have hc0 : wr.cell? ⟨w.heap.size + 1, j, none⟩ = some (.pointer none) := by have := hbl.1.cell hlt; simpa using this
      have hf0 := hbl.1.frozen j
      clear hcz
      go_wp2
      go_roundw
      case rel => exact ⟨j + 1, by omega, by go_num, bl_step hlt hbl⟩
      case measure => simp [intOf]; omega
    · obtain rfl : j = len := by omega
      have hA := hbl.2.1
      have a1 := cell_blk (i := 1) hA rfl
      have a2 := cell_blk (i := 2) hA rfl
      have hsz := hbl.2.2.1
      clear hA
      have hb33 := build33 bal
      go_wp2
      go_ret
      exact ⟨_, rfl, bl_done hbl⟩

set_option maxHeartbeats 400000 in
theorem build_no (bal first : Int) (sa : Option Addr) (len cap : Nat) (pool : Value) (f : Nat → Addr) (w : World) :
    Calls Yba.prog 5 #[.agg #[.bool false, .int .u32 bal, .int .u64 first, .slice sa len cap], pool] w fun e w' => ∃ p, e = .returned (.pointer p) ∧ AccAt w' p false bal first len f ∧ Below w.heap.size w w' := by
  go_enter Yba.func5, Yba.ntmps5
  go_wp2
  go_ret
  exact ⟨none, rfl, .inl ⟨rfl, rfl⟩, (Below.refl _ _).alloc (Nat.le_refl _) _⟩

theorem build_any (pr : Bool) (bal first : Int) (sa : Option Addr) (len cap bp : Nat) (z : Nat → Int) (T : Nat → Addr) (w : World) (hb0 : 0 ≤ bal) (hb1 : bal < 4294967296) (hl : len ≤ 1024) (hz : Bytes w sa len z) (hp : Pool w bp T) :
    Calls Yba.prog 5 #[.agg #[.bool pr, .int .u32 bal, .int .u64 first, .slice sa len cap], .slice (some ⟨bp, 0, none⟩) 8 8] w fun e w' => ∃ p, e = .returned (.pointer p) ∧ AccAt w' p pr bal first len (txOf T z) ∧ Below w.heap.size w w' := by
  cases pr
  · exact build_no _ _ _ _ _ _ _ _
  · exact build_yes bal first sa len cap bp z T w hb0 hb1 hl hz hp

/-! ### zzs4293asame -/
set_option maxHeartbeats 400000 in
theorem same_no (bal first : Int) (sa : Option Addr) (len cap : Nat) (pool : Value) (w : World) :
    Calls Yba.prog 7 #[.pointer none, .agg #[.bool false, .int .u32 bal, .int .u64 first, .slice sa len cap], pool] w fun e w' => e = .returned (.bool true) ∧ Below w.heap.size w w' := by
  go_enter Yba.func7, Yba.ntmps7
  go_wp2
  go_ret
  exact ⟨rfl, (Below.refl _ _).alloc (Nat.le_refl _) _⟩

theorem neq28 (a : Addr) (w : World) : (binOp .neq 28 (.pointer (some a)) (.pointer (some a))).run Yba.prog w = .ok (.bool false) w := by
  obtain ⟨i, hi, _⟩ := Option.map_eq_some_iff.1 (show (Yba.prog.info? 36).map (fun i => i.size) = some 8 by kernel_rfl)
  have h : ∀ d : Nat, (Op.equalIn (d + 1) 28 (.pointer (some a)) (.pointer (some a))).run Yba.prog w = .ok true w := fun d => by
    simp [Op.equalIn, run_underlying Yba.underlying28, sizeOf, typeInfo, hi, run_sameAddr_same]
  simp only [binOp]
  simp [Op.equal, Op.maxDepth, h 9999]

set_option maxRecDepth 100000 in
set_option maxHeartbeats 1000000 in
theorem same_yes (ba bs : Nat) (bal first : Int) (sa : Option Addr) (len cap bp : Nat) (z : Nat → Int) (T : Nat → Addr) (w : World) (hb0 : 0 ≤ bal) (hb1 : bal < 4294967296) (hl : len ≤ 1024) (hz : Bytes w sa len z) (hp : Pool w bp T)
    (h3 : w.heap[ba]? = some (.cells #[.int .u64 bal, .pointer none, .int .u64 first, .slice (some ⟨bs, 0, none⟩) len len, .slice none 0 0] 40 (0, 0))) (h4 : bs < w.heap.size) (h5 : ∀ i, i < len → w.cell? ⟨bs, i, none⟩ = some (.pointer (some (txOf T z i)))) :
    Calls Yba.prog 7 #[.pointer (some ⟨ba, 0, none⟩), .agg #[.bool true, .int .u32 bal, .int .u64 first, .slice sa len cap], .slice (some ⟨bp, 0, none⟩) 8 8] w fun e w' => e = .returned (.bool true) ∧ Below w.heap.size w w' := by
  obtain ⟨W, hW⟩ : ∃ W, W = w.alloc (.cells #[.bool true, .int .u32 bal, .int .u64 first, .slice sa len cap] 26) := ⟨_, rfl⟩
  have hB : Below w.heap.size w W := by rw [hW]; exact (Below.refl _ _).alloc (Nat.le_refl _) _
  have hN : W.heap[w.heap.size]? = some (.cells #[.bool true, .int .u32 bal, .int .u64 first, .slice sa len cap] 26 (0, 0)) := by rw [hW]; exact blk_new _ _
  have k0 : W.cell? ⟨ba, 0, none⟩ = some (.int .u64 bal) := cell_blk (blk_below hB h3) rfl
  have k1 : W.cell? ⟨ba, 1, none⟩ = some (.pointer none) := cell_blk (blk_below hB h3) rfl
  have k2 : W.cell? ⟨ba, 2, none⟩ = some (.int .u64 first) := cell_blk (blk_below hB h3) rfl
  have k3 : W.cell? ⟨ba, 3, none⟩ = some (.slice (some ⟨bs, 0, none⟩) len len) := cell_blk (blk_below hB h3) rfl
  have k4 : W.cell? ⟨ba, 4, none⟩ = some (.slice none 0 0) := cell_blk (blk_below hB h3) rfl
  have n1 : W.cell? ⟨w.heap.size, 1, none⟩ = some (.int .u32 bal) := cell_blk hN rfl
  have n2 : W.cell? ⟨w.heap.size, 2, none⟩ = some (.int .u64 first) := cell_blk hN rfl
  have n3 : W.cell? ⟨w.heap.size, 3, none⟩ = some (.slice sa len cap) := cell_blk hN rfl
  have hn27 := neq27 none 0 0
  have HW : Hid (W = w.alloc (.cells #[.bool true, .int .u32 bal, .int .u64 first, .slice sa len cap] 26)) := hW
  clear hW hN h3
  go_enter Yba.func7, Yba.ntmps7
  go_wp2
  rw [← HW.out]
  go_quiet (fail)
  go_wp2
  go_quiet (fail)
  go_wp2
  clear hn27 k0 k1 k2 k4 n1 n2
  go_loopw [59] (fun i wq => ∃ t : Nat, t ≤ len ∧ i = .int .i64 t ∧ ∃ m, wq = W.drewN m) (fun i _ => len - (intOf i).toNat)
  case atStart => exact ⟨0, Nat.zero_le _, rfl, _, rfl⟩
  case round =>
    obtain ⟨t, ht, rfl, m, rfl⟩ := hrel
    by_cases hlt : t < len
    · obtain ⟨b, off, rfl, hbw, hcz⟩ := hz.2 t hlt
      obtain ⟨z1, z2⟩ := hz.1 t
      have q1 : W.cell? ⟨b, off + t, none⟩ = some (.int .u8 (z t)) := (hB.cell (p := ⟨b, off + t, none⟩) hbw).trans hcz
      have m1 : 0 ≤ z t % 8 := Int.emod_nonneg _ (by omega)
      have m2 : z t % 8 < 8 := Int.emod_lt_of_pos _ (by omega)
      have q2 : W.cell? ⟨bp, (z t % 8).toNat, none⟩ = some (.pointer (some (txOf T z t))) := (hB.cell (p := ⟨bp, (z t % 8).toNat, none⟩) hp.1).trans (hp.2 _ (by omega))
      have q3 : W.cell? ⟨bs, t, none⟩ = some (.pointer (some (txOf T z t))) := (hB.cell (p := ⟨bs, t, none⟩) h4).trans (h5 t hlt)
      have e1 : (t : Int) < (len : Int) := by omega
      have hne := neq28 (txOf T z t)
      clear hcz
      go_wp2
      go_quiet (fail)
      go_wp2
      go_roundw
      case rel => exact ⟨t + 1, by omega, by go_num, _, rfl⟩
      case measure => simp [intOf]; omega
    · go_wp2
      go_ret
      exact ⟨rfl, hB.trans (below_drewN _ _ _)⟩

theorem same_any (p : Option Addr) (pr : Bool) (bal first : Int) (sa : Option Addr) (len cap bp : Nat) (z : Nat → Int) (T : Nat → Addr) (w : World) (hb0 : 0 ≤ bal) (hb1 : bal < 4294967296) (hl : len ≤ 1024) (hz : Bytes w sa len z) (hp : Pool w bp T) (ha : AccAt w p pr bal first len (txOf T z)) :
    Calls Yba.prog 7 #[.pointer p, .agg #[.bool pr, .int .u32 bal, .int .u64 first, .slice sa len cap], .slice (some ⟨bp, 0, none⟩) 8 8] w fun e w' => e = .returned (.bool true) ∧ Below w.heap.size w w' := by
  rcases ha with ⟨rfl, rfl⟩ | ⟨rfl, ba, bs, rfl, h3, h4, h5⟩
  · exact same_no _ _ _ _ _ _ _
  · exact same_yes ba bs bal first sa len cap bp z T w hb0 hb1 hl hz hp h3 h4 h5
end Go.Proofs.Ybulkcjwq.Join
