import Derived.Test.YbulkcjwqJoinB
import Derived.Deep.DeepCutAuto
namespace Go.Proofs.Ybulkcjwq.Join
open Go.RowKit
set_option linter.unusedVariables false

theorem bcell {W w1 : World} (hb : Below W.heap.size W w1) : (∀ b o, b < W.heap.size → w1.cell? ⟨b, o, none⟩ = W.cell? ⟨b, o, none⟩) ∧ (∀ b o, b < W.heap.size → w1.frozen? ⟨b, o, none⟩ = W.frozen? ⟨b, o, none⟩) :=
  ⟨fun b o h => hb.cell (p := ⟨b, o, none⟩) h, fun b o h => hb.frozen (p := ⟨b, o, none⟩) h⟩

theorem own_set_other {w : World} {base n : Nat} {v : Value} {xs : List Value} (h : w.ownsRow base 28 1 v n xs) {b : Nat} (hne : v.ownBlock ≠ some b) (i : Nat) (u : Value) : (w.setCell ⟨b, i, none⟩ u).ownsRow base 28 1 v n xs := by
  refine ⟨h.1, ?_⟩
  rcases h.2 with h1 | ⟨g, cap, cur, h1, h2, h3, r⟩
  · exact .inl h1
  · refine .inr ⟨g, cap, cur, h1, h2, blk_other h3 ?_ _, r⟩
    intro e
    apply hne
    rw [h1]
    simp only at e
    subst e; rfl

theorem own_set_acc {w : World} {base n : Nat} {v : Value} {xs : List Value} (h : w.ownsRow base 28 1 v n xs) {b : Nat} {c : Array Value} (hb : w.heap[b]? = some (.cells c 40 (0, 0))) (i : Nat) (u : Value) : (w.setCell ⟨b, i, none⟩ u).ownsRow base 28 1 v n xs := by
  refine ⟨h.1, ?_⟩
  rcases h.2 with h1 | ⟨g, cap, cur, h1, h2, h3, r⟩
  · exact .inl h1
  · refine .inr ⟨g, cap, cur, h1, h2, blk_other h3 ?_ _, r⟩
    intro e
    simp only at e
    subst e
    rw [h3] at hb; simp at hb

/-- clone, one contract. -/
theorem own_shape {w : World} {base n : Nat} {v : Value} {xs : List Value} (h : w.ownsRow base 28 1 v n xs) : ∃ va cv, v = .slice va n cv := by
  rcases h.2 with ⟨h1, h2⟩ | ⟨g, cap, cur, h1, _⟩
  · subst h2; exact ⟨none, 0, h1⟩
  · exact ⟨_, _, h1⟩
theorem own_base {w : World} {base base' n : Nat} {v : Value} {xs : List Value} (h : w.ownsRow base 28 1 v n xs) (hb : base' ≤ base) : w.ownsRow base' 28 1 v n xs := by
  refine ⟨h.1, ?_⟩
  rcases h.2 with h1 | ⟨g, cap, cur, h1, h2, r⟩
  · exact .inl h1
  · exact .inr ⟨g, cap, cur, h1, Nat.le_trans hb h2, r⟩

/-- The slice of an account, as it is read. -/
def SlAt (w : World) (N : Nat) (sa : Option Addr) (len : Nat) (f : Nat → Addr) : Prop :=
  (sa = none ∧ len = 0) ∨ ∃ bs, sa = some ⟨bs, 0, none⟩ ∧ bs < N ∧ ∀ i, i < len → w.cell? ⟨bs, i, none⟩ = some (.pointer (some (f i)))

theorem clone_any (sa : Option Addr) (n N : Nat) (f : Nat → Addr) (hn : n ≤ 1024) (w : World) (h : SlAt w N sa n f) :
    Calls Yba.prog 12 #[.slice sa n n] w fun e w' => ∃ va cv, e = .returned (.slice va n cv) ∧ w'.ownsRow w.heap.size 28 1 (.slice va n cv) n (ptrs f n) ∧ Below w.heap.size w w' := by
  rcases h with ⟨rfl, rfl⟩ | ⟨bs, rfl, _, hc⟩
  · refine (clone_nil w).mono ?_
    rintro e w' ⟨rfl, rfl⟩
    exact ⟨none, 0, rfl, World.ownsRow_nil _ _ _ _, Below.refl _ _⟩
  · refine (clone_some bs n f hn w hc).mono ?_
    rintro e w' ⟨v, rfl, ho, hb⟩
    obtain ⟨va, cv, rfl⟩ := own_shape ho
    exact ⟨va, cv, rfl, ho, hb⟩

/-- The base account, in the block that the call made first. -/
def BaseAt (N : Nat) (w wc : World) (B F : Int) : Prop := wc.heap[N]? = some (.cells #[.int .u64 B, .pointer none, .int .u64 F, .slice none 0 0, .slice none 0 0] 40 (0, 0)) ∧ Below N w wc

/-- ours (theirs) as the function reads it. -/
def Eff (N : Nat) (W : World) (q : Nat) (bal : Int) (sa : Option Addr) (len : Nat) (f : Nat → Addr) : Prop :=
  (W.cell? ⟨q, 0, none⟩ = some (.int .u64 bal) ∧ W.cell? ⟨q, 1, none⟩ = some (.pointer none) ∧ W.cell? ⟨q, 3, none⟩ = some (.slice sa len len)) ∧ q < W.heap.size ∧ (0 < len → q < N) ∧ SlAt W N sa len f

theorem Eff.below {N : Nat} {W W1 : World} {q : Nat} {bal : Int} {sa : Option Addr} {len : Nat} {f : Nat → Addr} (h : Eff N W q bal sa len f) (hN : N ≤ W.heap.size) (hb : Below W.heap.size W W1) : Eff N W1 q bal sa len f := by
  obtain ⟨⟨h1, h2, h3⟩, h4, h5, h6⟩ := h
  refine ⟨⟨(hb.cell (p := ⟨q, 0, none⟩) h4).trans h1, (hb.cell (p := ⟨q, 1, none⟩) h4).trans h2, (hb.cell (p := ⟨q, 3, none⟩) h4).trans h3⟩, Nat.lt_of_lt_of_le h4 hb.size, h5, ?_⟩
  rcases h6 with h | ⟨bs, e, hl, hc⟩
  · exact .inl h
  · exact .inr ⟨bs, e, hl, fun i hi => (hb.cell (p := ⟨bs, i, none⟩) (Nat.lt_of_lt_of_le hl hN)).trans (hc i hi)⟩

def oB (pr : Bool) (x y : Int) : Int := if pr then x else y
def oL (pr : Bool) (l : Nat) : Nat := if pr then l else 0
/-- From what came in to what the function reads. -/
theorem eff_of {N : Nat} {w wc : World} {B F : Int} (hN : N = w.heap.size) (hbase : BaseAt N w wc B F) {p : Option Addr} {pr : Bool} {bal first : Int} {len : Nat} {f : Nat → Addr} (h : AccAt w p pr bal first len f) :
    ∃ q sa, ((p = none ∧ q = N) ∨ p = some ⟨q, 0, none⟩) ∧ Eff N wc q (oB pr bal B) sa (oL pr len) f := by
  rcases h with ⟨rfl, rfl⟩ | ⟨rfl, ba, bs, rfl, h3, h4, h5⟩
  · refine ⟨N, none, .inl ⟨rfl, rfl⟩, ⟨cell_blk hbase.1 rfl, cell_blk hbase.1 rfl, cell_blk hbase.1 rfl⟩, blk_lt hbase.1, by simp [oL], .inl ⟨rfl, by simp [oL]⟩⟩
  · subst hN
    have hb := blk_below hbase.2 h3
    refine ⟨ba, some ⟨bs, 0, none⟩, .inr rfl, ⟨cell_blk hb rfl, cell_blk hb rfl, cell_blk hb rfl⟩, blk_lt hb, fun _ => blk_lt h3, .inr ⟨bs, rfl, h4, fun i hi => (hbase.2.cell (p := ⟨bs, i, none⟩) h4).trans (h5 i hi)⟩⟩

theorem heap_drewN (w : World) : ∀ n, (w.drewN n).heap = w.heap
  | 0 => rfl
  | n + 1 => heap_drewN w n
theorem base_set {N : Nat} {w W : World} {z0 z1 z2 z3 z4 : Value} (hb : Below N w W) (h : W.heap[N]? = some (.cells #[z0, z1, z2, z3, z4] 40 (0, 0))) (B F : Int) :
    BaseAt N w (((((W.setCell ⟨N, 0, none⟩ (.int .u64 B)).setCell ⟨N, 1, none⟩ (.pointer none)).setCell ⟨N, 2, none⟩ (.int .u64 F)).setCell ⟨N, 3, none⟩ (.slice none 0 0)).setCell ⟨N, 4, none⟩ (.slice none 0 0)) B F := by
  refine ⟨?_, ((((hb.setCell (Nat.le_refl _) _).setCell (Nat.le_refl _) _).setCell (Nat.le_refl _) _).setCell (Nat.le_refl _) _).setCell (Nat.le_refl _) _⟩
  rw [blk_set (blk_set (blk_set (blk_set (blk_set h 0 _) 1 _) 2 _) 3 _) 4 _]
  simp

def bB (pr : Bool) (bal : Int) : Int := if pr then bal else 0
def bF (pr : Bool) (first : Int) (len : Nat) : Int := if pr then IntKind.u64.wrap (first + len) else 0

theorem acc_new {W3 w4 : World} {N n cv : Nat} {va : Option Addr} {xs : List Value} {v0 v1 v2 v4 : Value} (hown : w4.ownsRow W3.drew.heap.size 28 1 (.slice va n cv) n xs) (hb : Below W3.drew.heap.size W3.drew w4) (hN : N ≤ W3.heap.size) :
    ∃ A va' cv', Value.pointer (some ⟨w4.heap.size, 0, none⟩) = .pointer (some ⟨A, 0, none⟩) ∧ (w4.alloc (.cells #[v0, v1, v2, .slice va n cv, v4] 40)).heap[A]? = some (.cells #[v0, v1, v2, .slice va' n cv', v4] 40 (0, 0)) ∧
      (w4.alloc (.cells #[v0, v1, v2, .slice va n cv, v4] 40)).ownsRow N 28 1 (.slice va' n cv') n xs ∧ Below W3.heap.size W3 (w4.alloc (.cells #[v0, v1, v2, .slice va n cv, v4] 40)) ∧ W3.heap.size ≤ A :=
  ⟨_, va, cv, rfl, blk_new _ _, own_base (hown.alloc _) hN, ((Below.refl _ W3).drew.trans hb).alloc hb.size _, hb.size⟩

def mixf (OL : Nat) (go gt : Nat → Addr) (i : Nat) : Addr := if i < OL then go i else gt i
theorem ptrs_congr {f g : Nat → Addr} {n : Nat} (h : ∀ i, i < n → f i = g i) : ptrs f n = ptrs g n := by
  unfold ptrs
  apply List.map_congr_left
  intro i hi
  rw [h i (by simpa using hi)]
theorem ptrs_succ (f : Nat → Addr) (n : Nat) : ptrs f n ++ [.pointer (some (f n))] = ptrs f (n + 1) := by simp [ptrs, List.range_succ]

/-- After k rounds of the loop over theirs.sent. -/
structure Jn (N : Nat) (w : World) (A : Nat) (D F : Int) (OL TL : Nat) (go gt : Nat → Addr) (k : Nat) (va : Option Addr) (cv : Nat) (vb : Value) (wr : World) : Prop where
  acc : wr.heap[A]? = some (.cells #[.int .u64 D, .pointer none, .int .u64 F, .slice va (max OL k) cv, vb] 40 (0, 0))
  own : wr.ownsRow N 28 1 (.slice va (max OL k) cv) (max OL k) (ptrs (mixf OL go gt) (max OL k))
  bes : (min OL k = 0 ∧ vb = .slice none 0 0) ∨ (0 < min OL k ∧ ∃ bb, vb = .slice (some ⟨bb, 0, none⟩) (min OL TL) (min OL TL) ∧ wr.rowIs bb 28 (min OL TL) (fun i => if i < k then .pointer (some (gt i)) else .pointer none) ∧ (Value.slice va (max OL k) cv).ownBlock ≠ some bb ∧ N ≤ bb)
  bel : Below N w wr
  big : N ≤ A
theorem Jn.nil {N : Nat} {w : World} {A : Nat} {D F : Int} {OL TL : Nat} {go gt : Nat → Addr} {k : Nat} {va : Option Addr} {cv : Nat} {vb : Value} {wr : World} (h : Jn N w A D F OL TL go gt k va cv vb wr) (hk : min OL k = 0) : vb = .slice none 0 0 := by
  rcases h.bes with ⟨_, h⟩ | ⟨h, _⟩
  · exact h
  · omega
theorem Jn.shape {N : Nat} {w : World} {A : Nat} {D F : Int} {OL TL : Nat} {go gt : Nat → Addr} {k : Nat} {va : Option Addr} {cv : Nat} {vb : Value} {wr : World} (h : Jn N w A D F OL TL go gt k va cv vb wr) : ∃ x n c, vb = .slice x n c := by
  rcases h.bes with ⟨_, h⟩ | ⟨_, bb, h, _⟩
  · exact ⟨_, _, _, h⟩
  · exact ⟨_, _, _, h⟩
theorem Jn.some' {N : Nat} {w : World} {A : Nat} {D F : Int} {OL TL : Nat} {go gt : Nat → Addr} {k : Nat} {va : Option Addr} {cv : Nat} {vb : Value} {wr : World} (h : Jn N w A D F OL TL go gt k va cv vb wr) (hk : 0 < min OL k) :
    ∃ bb, vb = .slice (some ⟨bb, 0, none⟩) (min OL TL) (min OL TL) ∧ wr.rowIs bb 28 (min OL TL) (fun i => if i < k then .pointer (some (gt i)) else .pointer none) ∧ (Value.slice va (max OL k) cv).ownBlock ≠ some bb ∧ N ≤ bb := by
  rcases h.bes with ⟨h, _⟩ | ⟨_, h⟩
  · omega
  · exact h
theorem jn_start {N : Nat} {w : World} {A : Nat} {D F : Int} {OL TL : Nat} {go gt : Nat → Addr} {va : Option Addr} {cv : Nat} {wr : World} (hA : wr.heap[A]? = some (.cells #[.int .u64 D, .pointer none, .int .u64 F, .slice va OL cv, .slice none 0 0] 40 (0, 0)))
    (ho : wr.ownsRow N 28 1 (.slice va OL cv) OL (ptrs go OL)) (hb : Below N w wr) (hN : N ≤ A) : Jn N w A D F OL TL go gt 0 va cv (.slice none 0 0) wr := by
  have e : max OL 0 = OL := by omega
  refine ⟨by rw [e]; exact hA, ?_, .inl ⟨by omega, rfl⟩, hb, hN⟩
  rw [e, ptrs_congr (g := go) (fun i hi => by unfold mixf; rw [if_pos hi])]
  exact ho

theorem acc_set {wr : World} {A : Nat} {v0 v1 v2 v3 v4 : Value} (h : wr.heap[A]? = some (.cells #[v0, v1, v2, v3, v4] 40 (0, 0))) {b : Nat} {c : Array Value} {t : TypeId} (hb : wr.heap[b]? = some (.cells c t (0, 0))) (ht : t ≠ 40) : A ≠ b := by
  intro e; subst e; rw [h] at hb; simp at hb; exact ht hb.2.symm

/-- In round k < OL, when acc.beside stands. -/
structure JnB (N : Nat) (w : World) (A : Nat) (D F : Int) (OL TL : Nat) (go gt : Nat → Addr) (k : Nat) (va : Option Addr) (cv : Nat) (bb : Nat) (wr : World) : Prop where
  acc : wr.heap[A]? = some (.cells #[.int .u64 D, .pointer none, .int .u64 F, .slice va OL cv, .slice (some ⟨bb, 0, none⟩) (min OL TL) (min OL TL)] 40 (0, 0))
  own : wr.ownsRow N 28 1 (.slice va OL cv) OL (ptrs (mixf OL go gt) OL)
  row : wr.rowIs bb 28 (min OL TL) (fun i => if i < k then .pointer (some (gt i)) else .pointer none)
  ne : (Value.slice va OL cv).ownBlock ≠ some bb
  bbN : N ≤ bb
  bel : Below N w wr
  big : N ≤ A

theorem JnB.drew {N : Nat} {w : World} {A : Nat} {D F : Int} {OL TL : Nat} {go gt : Nat → Addr} {k : Nat} {va : Option Addr} {cv bb : Nat} {wr : World} (h : JnB N w A D F OL TL go gt k va cv bb wr) : JnB N w A D F OL TL go gt k va cv bb wr.drew :=
  ⟨h.acc, h.own, h.row, h.ne, h.bbN, h.bel.drew, h.big⟩
theorem jnb_of {N : Nat} {w : World} {A : Nat} {D F : Int} {OL TL : Nat} {go gt : Nat → Addr} {k : Nat} {va : Option Addr} {cv : Nat} {vb : Value} {wr : World} (hkO : k < OL) (hk0 : 0 < k) (h : Jn N w A D F OL TL go gt k va cv vb wr) :
    ∃ bb, vb = .slice (some ⟨bb, 0, none⟩) (min OL TL) (min OL TL) ∧ JnB N w A D F OL TL go gt k va cv bb wr := by
  obtain ⟨bb, rfl, h1, h2, h3⟩ := h.some' (by omega)
  have e : max OL k = OL := by omega
  have ha := h.acc; have ho := h.own
  rw [e] at ha ho h2
  exact ⟨bb, rfl, ha, ho, h1, h2, h3, h.bel, h.big⟩

/-- Round 0: acc.beside is made. -/
theorem jnb_new {N : Nat} {w : World} {A : Nat} {D F : Int} {OL TL : Nat} {go gt : Nat → Addr} {va : Option Addr} {cv m : Nat} {wr : World} (hm : m = min OL TL) (hO : 0 < OL) (h : Jn N w A D F OL TL go gt 0 va cv (.slice none 0 0) wr) :
    JnB N w A D F OL TL go gt 0 va cv wr.heap.size ((wr.setCell ⟨A, 4, none⟩ (.slice (some ⟨wr.heap.size, 0, none⟩) m m)).alloc (.cells (madeCells #[.pointer none] m) 28)) := by
  subst hm
  have e : max OL 0 = OL := by omega
  have ha := h.acc; have ho := h.own
  rw [e] at ha ho
  have hA := blk_lt ha
  have hNs : N ≤ wr.heap.size := by have := h.big; omega
  have h1 := blk_past (blk_set ha 4 (.slice (some ⟨wr.heap.size, 0, none⟩) (min OL TL) (min OL TL))) (.cells (madeCells #[.pointer none] (min OL TL)) 28)
  simp only [List.setIfInBounds_toArray, List.set_cons_succ, List.set_cons_zero] at h1
  have hown : ∀ g, (Value.slice va OL cv).ownBlock = some g → g < wr.heap.size := fun g hg => (ho.lt g hg).2
  refine ⟨h1, (own_set_acc ho ha _ _).alloc _, ?_, ?_, hNs, (h.bel.setCell h.big _).alloc (by simp; omega) _, h.big⟩
  · have := World.rowIs_made (wr.setCell ⟨A, 4, none⟩ (.slice (some ⟨wr.heap.size, 0, none⟩) (min OL TL) (min OL TL))) (.pointer none) (min OL TL) 28
    rw [show (wr.setCell ⟨A, 4, none⟩ (.slice (some ⟨wr.heap.size, 0, none⟩) (min OL TL) (min OL TL))).heap.size = wr.heap.size by simp [World.setCell]] at this
    exact this.congr (fun i hi => by simp)
  · intro e1; have := hown _ e1; omega

/-- Round k < OL: theirs' element is put beside. -/
theorem jn_b {N : Nat} {w : World} {A : Nat} {D F : Int} {OL TL : Nat} {go gt : Nat → Addr} {k : Nat} {va : Option Addr} {cv bb : Nat} {wr : World} (hkO : k < OL) (hkT : k < TL)
    (h : JnB N w A D F OL TL go gt k va cv bb wr) :
    Jn N w A D F OL TL go gt (k + 1) va cv (.slice (some ⟨bb, 0, none⟩) (min OL TL) (min OL TL)) (wr.setCell ⟨bb, k, none⟩ (.pointer (some (gt k)))) := by
  have e : max OL (k + 1) = OL := by omega
  obtain ⟨c, hc, _⟩ := id h.row
  have hAb : A ≠ bb := acc_set h.acc hc (by decide)
  refine ⟨?_, ?_, .inr ⟨by omega, bb, rfl, (h.row.set k _).congr ?_, by rw [e]; exact h.ne, h.bbN⟩, h.bel.setCell h.bbN _, h.big⟩
  · rw [e]; exact blk_other h.acc hAb _
  · rw [e]; exact own_set_other h.own h.ne _ _
  · intro i hi
    by_cases e1 : i = k
    · subst e1; simp
    · simp only [e1, if_false]
      by_cases e2 : i < k
      · rw [if_pos e2, if_pos (by omega)]
      · rw [if_neg e2, if_neg (by omega)]

theorem one_ptr (w : World) (a : Addr) : ∀ (j : Nat) (u : Value), [Value.pointer (some a)][j]? = some u → (w.alloc (.cells #[.pointer (some a)] 28)).cell? ((⟨w.heap.size, 0, none⟩ : Addr).add j) = some u := by
  intro j u h
  rw [Addr.add_mid, World.cell?_alloc_at _ _ _ _ rfl]
  match j, h with
  | 0, h => simpa using h
theorem one_ptr1 (a : Addr) : ∀ u ∈ [Value.pointer (some a)], u.oneCell' = true := by
  intro u hu; simp at hu; subst hu; rfl

theorem acc_grown {N : Nat} {w : World} {A : Nat} {D F : Int} {OL TL : Nat} {go gt : Nat → Addr} {k : Nat} {va : Option Addr} {cv : Nat} {vb : Value} {wr w1 : World} {o : Obj} (h : Jn N w A D F OL TL go gt k va cv vb wr) (hm : max OL k = k) (hg : (wr.alloc o).grownBy w1 (Value.slice va k cv).ownBlock) :
    w1.heap[A]? = some (.cells #[.int .u64 D, .pointer none, .int .u64 F, .slice va k cv, vb] 40 (0, 0)) := by
  have ha := h.acc; have ho := h.own
  rw [hm] at ha ho
  have hp := blk_past ha o
  rw [hg.block A (blk_lt hp) ?_]
  · exact hp
  · intro e
    rcases ho.2 with ⟨h1, _⟩ | ⟨g, cap, cur, h1, h2, h3, _⟩
    · rw [h1] at e; simp [Value.ownBlock] at e
    · rw [h1] at e; simp [Value.ownBlock] at e; subst e; rw [ha] at h3; simp at h3

/-- Round k, OL ≤ k: theirs' element is appended. -/
theorem jn_c {N : Nat} {w : World} {A : Nat} {D F : Int} {OL TL : Nat} {go gt : Nat → Addr} {k : Nat} {va va2 : Option Addr} {cv cv2 : Nat} {vb : Value} {wr w1 : World} {o : Obj} (hkO : OL ≤ k) (hkT : k < TL)
    (h : Jn N w A D F OL TL go gt k va cv vb wr) (hac : w1.heap[A]? = some (.cells #[.int .u64 D, .pointer none, .int .u64 F, .slice va k cv, vb] 40 (0, 0)))
    (ho : w1.ownsRow N 28 1 (.slice va2 (k + 1) cv2) (k + 1) (ptrs (mixf OL go gt) k ++ [.pointer (some (gt k))])) (hg : (wr.alloc o).grownBy w1 (Value.slice va k cv).ownBlock) :
    Jn N w A D F OL TL go gt (k + 1) va2 cv2 vb (w1.setCell ⟨A, 3, none⟩ (.slice va2 (k + 1) cv2)) := by
  have e : max OL (k + 1) = k + 1 := by omega
  have e0 : max OL k = k := by omega
  have hNs : N ≤ wr.heap.size := by have := blk_lt h.acc; have := h.big; omega
  have ha := blk_set hac 3 (.slice va2 (k + 1) cv2)
  simp only [List.setIfInBounds_toArray, List.set_cons_succ, List.set_cons_zero] at ha
  have hb1 : Below N w w1 := (h.bel.alloc hNs o).grown hg (by simp; omega) (fun g hg' => by have := (h.own.lt g (by rw [e0]; exact hg')).1; omega)
  have hmx : gt k = mixf OL go gt k := by unfold mixf; rw [if_neg (by omega)]
  refine ⟨by rw [e]; exact ha, ?_, ?_, hb1.setCell h.big _, h.big⟩
  · rw [e, ← ptrs_succ, ← hmx]; exact own_set_acc ho hac _ _
  · rcases h.bes with ⟨h1, h2⟩ | ⟨h1, bb, h2, h3, h4, h5⟩
    · exact .inl ⟨by omega, h2⟩
    · refine .inr ⟨by omega, bb, h2, ?_, ?_, h5⟩
      · obtain ⟨c, hc, hcs, hci⟩ := id h3
        have hAb : A ≠ bb := acc_set h.acc hc (by decide)
        have hrow : w1.rowIs bb 28 (min OL TL) (fun i => if i < k then .pointer (some (gt i)) else .pointer none) := by
          refine (h3.alloc o).of_block (hg.block bb (h3.alloc o).lt ?_)
          rw [e0] at h4; exact fun e => h4 e.symm
        refine (hrow.setOther (by exact fun e => hAb e.symm) _).congr ?_
        intro i hi
        rw [if_pos (by omega), if_pos (by omega)]
      · rw [e]
        obtain ⟨c, hc, hcs, hci⟩ := id h3
        have hbk : w1.heap[bb]? = some (.cells c 28 (0, 0)) := by
          rw [hg.block bb (h3.alloc o).lt (by rw [e0] at h4; exact fun e => h4 e.symm), Below.heap_alloc _ _ _ h3.lt]; exact hc
        intro e2
        rcases ho.2 with ⟨g1, g2⟩ | ⟨g, cap, cur, g1, g2, g3, g4, g5, g6, g7⟩
        · omega
        · simp only [Value.slice.injEq] at g1
          obtain ⟨rfl, _, rfl⟩ := g1
          simp [Value.ownBlock] at e2
          subst e2
          rw [hbk] at g3
          simp at g3
          subst g3
          omega

/-- WHAT joinAccount ANSWERS. -/
def JoinPost (w : World) (B F OB TB : Int) (OL TL : Nat) (go gt : Nat → Addr) (e : Ending) (w' : World) : Prop :=
  (OB + TB < B ∧ e = .returned (.tuple #[.pointer none, .bool false]) ∧ Below w.heap.size w w') ∨
  (¬ OB + TB < B ∧ ∃ A va cv vb, e = .returned (.tuple #[.pointer (some ⟨A, 0, none⟩), .bool true]) ∧ Jn w.heap.size w A (OB + TB - B) F OL TL go gt TL va cv vb w')

theorem sum_late {W1 w' : World} {v : Array Value} (hb : Below W1.drew.heap.size W1.drew w') :
    ∃ c, Value.pointer (some ⟨w'.heap.size, 0, none⟩) = .pointer (some ⟨c, 0, none⟩) ∧ (w'.alloc (.cells v 33)).heap[c]? = some (.cells v 33 (0, 0)) ∧ Below W1.heap.size W1 (w'.alloc (.cells v 33)) :=
  ⟨_, rfl, blk_new _ _, ((Below.refl _ W1).drew.trans hb).alloc hb.size _⟩
theorem sum_early {W1 w' : World} {z0 z1 v0 v1 : Value} (hb : Below (W1.alloc (.cells #[z0, z1] 33)).drew.heap.size (W1.alloc (.cells #[z0, z1] 33)).drew w') :
    ∃ c, Value.pointer (some ⟨W1.heap.size, 0, none⟩) = .pointer (some ⟨c, 0, none⟩) ∧ ((w'.setCell ⟨W1.heap.size, 0, none⟩ v0).setCell ⟨W1.heap.size, 1, none⟩ v1).heap[c]? = some (.cells #[v0, v1] 33 (0, 0)) ∧ Below W1.heap.size W1 ((w'.setCell ⟨W1.heap.size, 0, none⟩ v0).setCell ⟨W1.heap.size, 1, none⟩ v1) := by
  have h : w'.heap[W1.heap.size]? = some (.cells #[z0, z1] 33 (0, 0)) := blk_below hb (blk_new _ _)
  refine ⟨_, rfl, ?_, ?_⟩
  · rw [blk_set (blk_set h 0 _) 1 _]; simp
  · exact (((((Below.refl _ W1).alloc (Nat.le_refl _) _).drew).trans (hb.mono (by simp))).setCell (Nat.le_refl _) _).setCell (Nat.le_refl _) _

set_option maxRecDepth 100000 in
set_option maxHeartbeats 2000000 in
theorem join_any (pb po pt : Option Addr) (prb pro prt : Bool) (bb fb ob fo tb ft : Int) (lb lo lt : Nat) (gb go gt : Nat → Addr) (w : World)
    (hb0 : 0 ≤ bb) (hb1 : bb < 4294967296) (hf0 : 0 ≤ fb) (ho0 : 0 ≤ ob) (ho1 : ob < 4294967296) (ht0 : 0 ≤ tb) (ht1 : tb < 4294967296) (hlb : lb ≤ 1024) (hlo : lo ≤ 1024) (hlt : lt ≤ 1024)
    (hB : AccAt w pb prb bb fb lb gb) (hO : AccAt w po pro ob fo lo go) (hT : AccAt w pt prt tb ft lt gt) :
    Calls Yba.prog 6 #[.pointer pb, .pointer po, .pointer pt] w fun e w' => JoinPost w (bB prb bb) (bF prb fb lb) (oB pro ob (bB prb bb)) (oB prt tb (bB prb bb)) (oL pro lo) (oL prt lt) go gt e w' := by
  obtain ⟨B, hBd⟩ : ∃ B, B = bB prb bb := ⟨_, rfl⟩
  obtain ⟨F, hFd⟩ : ∃ F, F = bF prb fb lb := ⟨_, rfl⟩
  have HB : Hid (B = bB prb bb) := hBd
  have HF : Hid (F = bF prb fb lb) := hFd
  clear hBd hFd
  obtain ⟨i28, hi28, hz0, hz1, hz2⟩ := info_parts info28
  go_enter Yba.func6, Yba.ntmps6
  go_upto_if 16 with fail
  go_cut [] (fun wc => BaseAt w.heap.size w wc B F)
  case first =>
    rcases hB with ⟨rfl, rfl⟩ | ⟨rfl, ba, bs, rfl, h3, h4, h5⟩
    · obtain rfl : B = 0 := HB.out
      obtain rfl : F = 0 := HF.out
      go_wp2
      go_meet
      case rel => exact ⟨blk_new _ _, (Below.refl _ _).alloc (Nat.le_refl _) _⟩
    · obtain rfl : B = bb := HB.out
      have eF : F = IntKind.u64.wrap (fb + lb) := HF.out
      subst eF
      have k0 : ∀ o, (w.alloc o).cell? ⟨ba, 0, none⟩ = some (.int .u64 B) := fun o => cell_blk (blk_past h3 _) rfl
      have k1 : ∀ o, (w.alloc o).cell? ⟨ba, 1, none⟩ = some (.pointer none) := fun o => cell_blk (blk_past h3 _) rfl
      have k2 : ∀ o, (w.alloc o).cell? ⟨ba, 2, none⟩ = some (.int .u64 fb) := fun o => cell_blk (blk_past h3 _) rfl
      have k3 : ∀ o, (w.alloc o).cell? ⟨ba, 3, none⟩ = some (.slice (some ⟨bs, 0, none⟩) lb lb) := fun o => cell_blk (blk_past h3 _) rfl
      go_wp2
      go_region_with (go_at_call 9; refine (next_any ba fb (some ⟨bs, 0, none⟩) lb _ hf0 hlb ?_ ?_).mono ?_; (focus (simp [k2])); (focus (simp [k3])); rintro e w' ⟨rfl, m, rfl⟩)
      all_goals
        go_wp2
        go_meet
        case rel => exact base_set (((Below.refl _ _).alloc (Nat.le_refl _) _).trans (below_drewN _ _ _)) (by rw [heap_drewN]; exact blk_new _ _) _ _
  case rest =>
    rename World => W1
    have hbase := hcut
    clear hcut
    obtain ⟨q1, so, hq1, he1⟩ := eff_of rfl hbase hO
    obtain ⟨q2, st, hq2, he2⟩ := eff_of rfl hbase hT
    obtain ⟨OB, hOB⟩ : ∃ OB, OB = oB pro ob B := ⟨_, rfl⟩
    obtain ⟨OL, hOL⟩ : ∃ OL, OL = oL pro lo := ⟨_, rfl⟩
    obtain ⟨TB, hTB⟩ : ∃ TB, TB = oB prt tb B := ⟨_, rfl⟩
    obtain ⟨TL, hTL⟩ : ∃ TL, TL = oL prt lt := ⟨_, rfl⟩
    have bB0 : 0 ≤ B := by rw [HB.out]; unfold bB; split <;> omega
    have bB1 : B < 4294967296 := by rw [HB.out]; unfold bB; split <;> omega
    have bO0 : 0 ≤ OB := by rw [hOB]; unfold oB; split <;> omega
    have bO1 : OB < 4294967296 := by rw [hOB]; unfold oB; split <;> omega
    have bT0 : 0 ≤ TB := by rw [hTB]; unfold oB; split <;> omega
    have bT1 : TB < 4294967296 := by rw [hTB]; unfold oB; split <;> omega
    have lO1 : OL ≤ 1024 := by rw [hOL]; unfold oL; split <;> omega
    have lT1 : TL ≤ 1024 := by rw [hTL]; unfold oL; split <;> omega
    rw [← hOB, ← hOL] at he1
    rw [← hTB, ← hTL] at he2
    clear hO hT hB hb0 hb1 hf0 ho0 ho1 ht0 ht1 hlb hlo hlt
    have HE : Hid (OB = oB pro ob B ∧ OL = oL pro lo ∧ TB = oB prt tb B ∧ TL = oL prt lt) := ⟨hOB, hOL, hTB, hTL⟩
    clear hOB hOL hTB hTL
    go_upto_if 25 with fail
    go_cut [1] (fun s1 wd => s1 = .pointer (some ⟨q1, 0, none⟩) ∧ W1 = wd)
    case first =>
      rcases hq1 with ⟨rfl, rfl⟩ | rfl
      · go_wp2
        go_meet
        case rel => exact ⟨rfl, rfl⟩
      · go_wp2
        go_meet
        case rel => exact ⟨rfl, rfl⟩
    case rest =>
      obtain ⟨rfl, rfl⟩ := hcut
      clear hq1
      go_upto_if 27 with fail
      go_cut [2] (fun s2 wd => s2 = .pointer (some ⟨q2, 0, none⟩) ∧ W1 = wd)
      case first =>
        rcases hq2 with ⟨rfl, rfl⟩ | rfl
        · go_wp2
          go_meet
          case rel => exact ⟨rfl, rfl⟩
        · go_wp2
          go_meet
          case rel => exact ⟨rfl, rfl⟩
      case rest =>
        obtain ⟨rfl, rfl⟩ := hcut
        clear hq2
        have hN1 : w.heap.size < W1.heap.size := blk_lt hbase.1
        obtain ⟨⟨a0, a1, a3⟩, aq, al, asl⟩ := he1
        obtain ⟨⟨b0, b1, b3⟩, bq, bl, bsl⟩ := he2
        go_upto_region 8 with fail
        go_cut [9] (fun s9 wd => ∃ c, s9 = .pointer (some ⟨c, 0, none⟩) ∧ wd.heap[c]? = some (.cells #[.int .u64 (OB + TB), .pointer none] 33 (0, 0)) ∧ Below W1.heap.size W1 wd)
        case first =>
          go_region_with (go_at_call 10; refine (add_any OB TB bO0 bT0 (by omega) _).mono ?_; rintro e w' ⟨rfl, hb⟩; obtain ⟨hc, hf⟩ := bcell hb)
          all_goals
            go_wp2
            go_meet
            case rel => first | exact sum_late hb | exact sum_early hb
        case rest =>
          rename World => W2
          obtain ⟨c9, rfl, h9, hb2⟩ := hcut
          have hN2 : W1.heap.size ≤ W2.heap.size := hb2.size
          have hbase2 := blk_below hb2 hbase.1
          have hbelow2 : Below w.heap.size w W2 := hbase.2.trans (hb2.mono (by omega))
          obtain ⟨⟨c90, c91⟩, _⟩ := two h9
          have d0 : W2.cell? ⟨w.heap.size, 0, none⟩ = some (.int .u64 B) := cell_blk hbase2 rfl
          have d1 : W2.cell? ⟨w.heap.size, 1, none⟩ = some (.pointer none) := cell_blk hbase2 rfl
          have he1 : Eff w.heap.size W2 q1 OB so OL go := Eff.below ⟨⟨a0, a1, a3⟩, aq, al, asl⟩ (by omega) hb2
          have he2 : Eff w.heap.size W2 q2 TB st TL gt := Eff.below ⟨⟨b0, b1, b3⟩, bq, bl, bsl⟩ (by omega) hb2
          clear a0 a1 a3 aq al asl b0 b1 b3 bq bl bsl h9 hb2 hbase hN1 hN2
          by_cases hlt : OB + TB < B
          · go_wp2_with (go_at_call 11; refine (sub_lt (OB + TB) B hlt _).mono ?_; rintro e w' ⟨rfl, hb3⟩)
            go_ret2
            obtain ⟨e1, e2, e3, e4⟩ := HE.out
            rw [← HB.out, ← HF.out, ← e1, ← e2, ← e3, ← e4]
            exact .inl ⟨hlt, rfl, (hbelow2.trans (hb3.mono (by have := blk_lt hbase2; omega))).alloc (by have := blk_lt hbase2; have := hb3.size; omega) _⟩
          · go_upto_region 12 with (go_at_call 11; refine (sub_ge (OB + TB) B (by omega) bB0 (by omega) _).mono ?_; rintro e w' ⟨rfl, hb3⟩)
            obtain ⟨W3, hW3⟩ : ∃ W3, W3 = w'.alloc (.cells #[.int .u64 (OB + TB - B), .pointer none] 33) := ⟨_, rfl⟩
            have hsz2 : w.heap.size < W2.heap.size := blk_lt hbase2
            have hb23 : Below W2.heap.size W2 W3 := by rw [hW3]; exact hb3.alloc hb3.size _
            have hbase3 := blk_below hb23 hbase2
            have hbelow3 : Below w.heap.size w W3 := hbelow2.trans (hb23.mono (by omega))
            have he13 := he1.below (by omega) hb23
            have he23 := he2.below (by omega) hb23
            have hd3 : W3.heap[w'.heap.size]? = some (.cells #[.int .u64 (OB + TB - B), .pointer none] 33 (0, 0)) := by rw [hW3]; exact blk_new _ _
            obtain ⟨⟨x0, x1⟩, _⟩ := two hd3
            have y2 : W3.cell? ⟨w.heap.size, 2, none⟩ = some (.int .u64 F) := cell_blk hbase3 rfl
            have a3 := he13.1.2.2
            have hw' : w'.heap.size < W3.heap.size := blk_lt hd3
            have hN3 : w.heap.size < W3.heap.size := blk_lt hbase3
            have hq1 : q1 < W3.heap.size := he13.2.1
            have hsl := he13.2.2.2
            clear hbase2 hbelow2 he1 he2 c90 c91 d0 d1 hb3 hb23 hsz2 hd3
            rw [← hW3]
            clear hW3
            go_cut [12] (fun s12 wd => ∃ A va cv, s12 = .pointer (some ⟨A, 0, none⟩) ∧ wd.heap[A]? = some (.cells #[.int .u64 (OB + TB - B), .pointer none, .int .u64 F, .slice va OL cv, .slice none 0 0] 40 (0, 0)) ∧ wd.ownsRow w.heap.size 28 1 (.slice va OL cv) OL (ptrs go OL) ∧ Below W3.heap.size W3 wd ∧ W3.heap.size ≤ A)
            case first =>
              go_region_with (go_at_call 12; refine (clone_any so OL w.heap.size go lO1 _ ?_).mono ?_; (focus exact hsl); rintro e w4 ⟨va, cv, rfl, hown, hb4⟩; have g0 : w4.cell? ⟨w'.heap.size, 0, none⟩ = some (.int .u64 (OB + TB - B)) := (hb4.cell (p := ⟨w'.heap.size, 0, none⟩) hw').trans x0; have g1 : w4.cell? ⟨w'.heap.size, 1, none⟩ = some (.pointer none) := (hb4.cell (p := ⟨w'.heap.size, 1, none⟩) hw').trans x1; have g2 : w4.cell? ⟨w.heap.size, 2, none⟩ = some (.int .u64 F) := (hb4.cell (p := ⟨w.heap.size, 2, none⟩) hN3).trans y2)
              all_goals
                go_wp2
                go_meet
                case rel => exact acc_new hown hb4 (by omega)
            case rest =>
              rename World => W4
              obtain ⟨A, va, cv, rfl, hA, hown, hb4, hA3⟩ := hcut
              have he14 := he13.below (by omega) hb4
              have he24 := he23.below (by omega) hb4
              have hbelow4 : Below w.heap.size w W4 := hbelow3.trans (hb4.mono (by omega))
              have b3 := he24.1.2.2
              have hj0 : Jn w.heap.size w A (OB + TB - B) F OL TL go gt 0 va cv (.slice none 0 0) W4 := jn_start hA hown hbelow4 (by omega)
              have hq1N := he14.2.2.1
              have hq2N := he24.2.2.1
              have a34 := he14.1.2.2
              have hslt := he24.2.2.2
              clear he13 he23 he14 hbelow3 x0 x1 y2 a3 hw' hN3 hq1 hsl hA hown hb4 hA3
              go_wp2
              go_loopw [61] (fun i wr => ∃ k : Nat, k ≤ TL ∧ i = .int .i64 k ∧ ∃ va cv vb, Jn w.heap.size w A (OB + TB - B) F OL TL go gt k va cv vb wr) (fun i _ => TL - (intOf i).toNat)
              case atStart => exact ⟨0, Nat.zero_le _, rfl, va, cv, _, hj0⟩
              case round =>
                obtain ⟨k, hk, rfl, va', cv', vb, hj⟩ := hrel
                clear hj0
                by_cases hlt' : k < TL
                · have hq2 := hq2N (by omega)
                  have t3 : wr.cell? ⟨q2, 3, none⟩ = some (.slice st TL TL) := ((hj.bel.cell (p := ⟨q2, 3, none⟩) hq2).trans (hbelow4.cell (p := ⟨q2, 3, none⟩) hq2).symm).trans b3
                  obtain ⟨bs, rfl, hbs, hcs⟩ : ∃ bs, st = some ⟨bs, 0, none⟩ ∧ bs < w.heap.size ∧ ∀ i, i < TL → W4.cell? ⟨bs, i, none⟩ = some (.pointer (some (gt i))) := by
                    rcases hslt with ⟨_, h⟩ | h
                    · omega
                    · exact h
                  have tk : wr.cell? ⟨bs, k, none⟩ = some (.pointer (some (gt k))) := ((hj.bel.cell (p := ⟨bs, k, none⟩) hbs).trans (hbelow4.cell (p := ⟨bs, k, none⟩) hbs).symm).trans (hcs k hlt')
                  have ac3 : wr.cell? ⟨A, 3, none⟩ = some (.slice va' (max OL k) cv') := cell_blk hj.acc rfl
                  have ac4 : wr.cell? ⟨A, 4, none⟩ = some vb := cell_blk hj.acc rfl
                  have acf := frz_blk hj.acc
                  by_cases hkO : k < OL
                  · have hmax : max OL k = OL := by omega
                    rw [hmax] at ac3
                    have hq1 := hq1N (by omega)
                    have o3 : wr.cell? ⟨q1, 3, none⟩ = some (.slice so OL OL) := ((hj.bel.cell (p := ⟨q1, 3, none⟩) hq1).trans (hbelow4.cell (p := ⟨q1, 3, none⟩) hq1).symm).trans a34
                    have hAw : A < wr.heap.size := blk_lt hj.acc
                    obtain ⟨xb, nb, cb, hvb⟩ := hj.shape
                    have hev := eql27 xb nb cb
                    rw [hvb] at ac4 hj
                    clear hvb
                    go_upto_if 87 with fail
                    go_cut [] (fun wd => ∃ bb, JnB w.heap.size w A (OB + TB - B) F OL TL go gt k va' cv' bb wd)
                    case first =>
                      by_cases hk0 : k = 0
                      · subst hk0
                        have hnl := hj.nil (by omega)
                        simp only [Value.slice.injEq] at hnl
                        obtain ⟨rfl, rfl, rfl⟩ := hnl
                        by_cases hTO : TL < OL
                        · have hmk := run_make_row' (P := Yba.prog) 27 28 _ _ Yba.underlying27 info28 rfl .i64 .i64 TL (by omega) (by omega)
                          go_wp2
                          go_region
                          all_goals
                            go_wp2
                            go_meet
                            case rel => exact ⟨_, (jnb_new (m := TL) (by omega) hkO hj).drew⟩
                        · have hmk := run_make_row' (P := Yba.prog) 27 28 _ _ Yba.underlying27 info28 rfl .i64 .i64 OL (by omega) (by omega)
                          go_wp2
                          go_region
                          all_goals
                            go_wp2
                            go_meet
                            case rel => exact ⟨_, (jnb_new (m := OL) (by omega) hkO hj).drew⟩
                      · obtain ⟨bb, hbe, hjb⟩ := jnb_of hkO (by omega) hj
                        simp only [Value.slice.injEq] at hbe
                        obtain ⟨rfl, rfl, rfl⟩ := hbe
                        go_wp2
                        go_meet
                        case rel => exact ⟨_, hjb⟩
                    case rest =>
                      rename World => Wb
                      obtain ⟨bb, hjb⟩ := hcut
                      have bc4 : Wb.cell? ⟨A, 4, none⟩ = some (.slice (some ⟨bb, 0, none⟩) (min OL TL) (min OL TL)) := cell_blk hjb.acc rfl
                      have r1 : Wb.cell? ⟨bb, k, none⟩ = some (.pointer none) := by have := hjb.row.cell (i := k) (by omega); simpa using this
                      have r2 := hjb.row.frozen k
                      have r3 : k < min OL TL := by omega
                      clear hj ac3 ac4 acf t3 o3 hev
                      go_wp2
                      go_roundw
                      case rel => exact ⟨k + 1, by omega, by go_num, va', cv', _, jn_b hkO hlt' hjb⟩
                      case measure => simp [intOf]; omega
                  · have hmax : max OL k = k := by omega
                    have hown := hj.own
                    rw [hmax] at ac3 hown
                    have hN4 : w.heap.size ≤ wr.heap.size := by have := blk_lt hj.acc; have := hj.big; omega
                    have HJ : Hid (Jn w.heap.size w A (OB + TB - B) F OL TL go gt k va' cv' vb wr) := hj
                    clear hj
                    go_wp2_with (at_builtin; refine wpList_append_own _ ?_ (.tmp 77) (.tmp 79) 27 ?_ w.heap.size 28 i28 (.pointer none) 1 8 Yba.underlying27 hi28 hz0 hz1 hz2 rfl (by decide) (.slice va' k cv') k (ptrs (mixf OL go gt) k) ?_ ?_ ⟨wr.heap.size, 0, none⟩ 1 1 [.pointer (some (gt k))] ?_ ?_ ?_ ?_ ?_ ?_ ?_ ?_; rfl; rfl; rfl; (focus exact hown.alloc _); rfl; rfl; (focus exact one_ptr _ _); (focus exact one_ptr1 _); (focus (unfold maxLen; omega)); (focus omega); (focus (simp; omega)); intro v' w1 hown' hg _; obtain ⟨va2, cv2, hv2⟩ := own_shape hown'; subst hv2; have hac := acc_grown HJ.out hmax hg; have hac3 : w1.cell? ⟨A, 3, none⟩ = some (.slice va' k cv') := cell_blk hac rfl; have hacf := frz_blk hac)
                    go_roundw
                    case rel => exact ⟨k + 1, by omega, by go_num, va2, cv2, vb, jn_c (by omega) hlt' HJ.out hac hown' hg⟩
                    case measure => simp [intOf]; omega
                · obtain rfl : k = TL := by omega
                  go_wp2
                  go_ret2
                  obtain ⟨e1, e2, e3, e4⟩ := HE.out
                  rw [← HB.out, ← HF.out, ← e1, ← e2, ← e3, ← e4]
                  exact .inr ⟨by omega, A, va', cv', vb, rfl, hj⟩
end Go.Proofs.Ybulkcjwq.Join
