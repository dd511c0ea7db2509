import Derived.Test.YbulkcjygAddD
import Derived.Deep.DeepCutAuto
namespace Go.Proofs.Ybulkcjyg.Add
open Go.RowKit
set_option linter.unusedVariables false

/-- The kind of a block: its type; a map's is 1000. -/
def knd : Obj → Nat
  | .cells _ t _ => t
  | _ => 1000
/-- Below B nothing has turned; nor has a block of another kind than ts. -/
structure Trn (B : Nat) (ts : List Nat) (w w' : World) : Prop where
  below : Below B w w'
  keep : ∀ (b : Nat) (o : Obj), w.heap[b]? = some o → knd o ∉ ts → w'.heap[b]? = some o
theorem Trn.refl (B : Nat) (ts : List Nat) (w : World) : Trn B ts w w := ⟨Below.refl _ _, fun _ _ h _ => h⟩
theorem Trn.trans {B : Nat} {ts : List Nat} {a b c : World} (h : Trn B ts a b) (k : Trn B ts b c) : Trn B ts a c := ⟨h.below.trans k.below, fun x o hx hk => k.keep x o (h.keep x o hx hk) hk⟩
theorem Trn.wide {B : Nat} {ts us : List Nat} {a b : World} (h : Trn B ts a b) (hs : ∀ t ∈ ts, t ∈ us) : Trn B us a b := ⟨h.below, fun x o hx hk => h.keep x o hx (fun hh => hk (hs _ hh))⟩
theorem Trn.of_below {B : Nat} {ts : List Nat} {a w w' : World} (h : Trn B ts a w) (hB : B ≤ w.heap.size) (hb : Below w.heap.size w w') : Trn B ts a w' := h.trans ⟨hb.mono hB, fun x o hx _ => blk_below hb hx⟩
theorem Trn.alloc {B : Nat} {ts : List Nat} {a w : World} (h : Trn B ts a w) (hB : B ≤ w.heap.size) (o : Obj) : Trn B ts a (w.alloc o) := h.of_below hB ((Below.refl _ _).alloc (Nat.le_refl _) _)
theorem Trn.drew {B : Nat} {ts : List Nat} {a w : World} (h : Trn B ts a w) : Trn B ts a w.drew := ⟨h.below.drew, h.keep⟩
theorem Trn.at {B : Nat} {ts : List Nat} {a w : World} (h : Trn B ts a w) {b : Nat} {o : Obj} (hb : a.heap[b]? = some o) (hk : knd o ∉ ts) : w.heap[b]? = some o := h.keep b o hb hk
theorem Trn.same {B : Nat} {ts : List Nat} {a w : World} (h : Trn B ts a w) {b : Nat} {o : Obj} (hb : a.heap[b]? = some o) (hk : knd o ∉ ts) : w.heap[b]? = a.heap[b]? := by rw [hb]; exact h.keep b o hb hk
theorem Trn.of_turn {B : Nat} {ts : List Nat} {X : Nat → Prop} {a w : World} (h : Turn X a w) (hB : B ≤ a.heap.size) (hX : ∀ b, X b → B ≤ b ∧ ∀ o, a.heap[b]? = some o → knd o ∈ ts) : Trn B ts a w :=
  ⟨h.below hB (fun b hb => (hX b hb).1), fun b o hb hk => h.at hb (fun hx => hk ((hX b hx).2 o hb))⟩
theorem Trn.le {B : Nat} {ts : List Nat} {a w : World} (h : Trn B ts a w) : a.heap.size ≤ w.heap.size := h.below.size
/-- What a row's block is. -/
theorem row_knd {w : World} {B : Nat} {e : TypeId} {size : Nat} {v : Value} {n : Nat} {xs : List Value} (h : w.ownsRow B e size v n xs) {b : Nat} (hb : v.ownBlock = some b) : B ≤ b ∧ ∀ o, w.heap[b]? = some o → knd o = e := by
  rcases h.2 with ⟨rfl, _⟩ | ⟨g, cap, cur, rfl, hB, hg, _⟩
  · simp [Value.ownBlock] at hb
  · simp [Value.ownBlock] at hb; subst hb
    exact ⟨hB, fun o ho => by rw [hg] at ho; cases ho; rfl⟩
theorem row_trn {w w' : World} {B B' : Nat} {e : TypeId} {size : Nat} {v : Value} {n : Nat} {xs : List Value} {ts : List Nat} (h : w.ownsRow B e size v n xs) (ht : Trn B' ts w w') (he : e ∉ ts) : w'.ownsRow B e size v n xs := by
  refine row_of h (fun b hb => ?_)
  have h1 := row_knd h hb
  have h2 := (h.lt b hb).2
  cases ho : w.heap[b]? with
  | none => simp at ho; omega
  | some o => exact ht.keep b o ho (by rw [h1.2 o ho]; exact he)
theorem Rows.trn {w w' : World} {B B' : Nat} {V : Nat → Value} {f : Nat → Nat} {xs : Nat → List Value} {ts : List Nat} (h : Rows w B V f xs) (ht : Trn B' ts w w') (he : 56 ∉ ts) : Rows w' B V f xs :=
  ⟨fun i hi => row_trn (h.1 i hi) ht he, h.2⟩
theorem IsT.trn {w w' : World} {B' T : Nat} {wt vp : Value} {ts : List Nat} (h : IsT w T wt vp) (ht : Trn B' ts w w') (he : 42 ∉ ts) : IsT w' T wt vp := by obtain ⟨c, hc, hr⟩ := h; exact ⟨c, ht.at hc he, hr⟩
theorem IsS.trn {w w' : World} {B' S : Nat} {V : Nat → Value} {g : Int} {ts : List Nat} (h : IsS w S V g) (ht : Trn B' ts w w') (he : 88 ∉ ts) : IsS w' S V g := by obtain ⟨c, hc, hr⟩ := h; exact ⟨c, ht.at hc he, hr⟩
theorem OneIn.trn {w w' : World} {B' b : Nat} {a : Addr} {m k : Int} {v : Value} {ts : List Nat} (h : OneIn w b a m k v) (ht : Trn B' ts w w') (he : 1000 ∉ ts) : OneIn w' b a m k v := by obtain ⟨x, y, h⟩ := h; exact ⟨x, y, ht.at h he⟩

def IsE (w : World) (E : Nat) (en : Bool) (cp qp : Value) : Prop := ∃ c : Array Value, w.heap[E]? = some (.cells c 67 (0, 0)) ∧ c[2]? = some (.bool en) ∧ c[7]? = some cp ∧ c[8]? = some qp
theorem IsE.trn {w w' : World} {B' E : Nat} {en : Bool} {cp qp : Value} {ts : List Nat} (h : IsE w E en cp qp) (ht : Trn B' ts w w') (he : 67 ∉ ts) : IsE w' E en cp qp := by obtain ⟨c, hc, hr⟩ := h; exact ⟨c, ht.at hc he, hr⟩
theorem IsE.lt {w : World} {E : Nat} {en : Bool} {cp qp : Value} (h : IsE w E en cp qp) : E < w.heap.size := by obtain ⟨c, hc, hr⟩ := h; exact blk_lt hc
theorem IsE.c2 {w : World} {E : Nat} {en : Bool} {cp qp : Value} (h : IsE w E en cp qp) : w.cell? ⟨E, 2, none⟩ = some (.bool en) := by obtain ⟨c, hc, h, _⟩ := h; exact cell_blk hc h
theorem IsE.c7 {w : World} {E : Nat} {en : Bool} {cp qp : Value} (h : IsE w E en cp qp) : w.cell? ⟨E, 7, none⟩ = some cp := by obtain ⟨c, hc, _, h, _⟩ := h; exact cell_blk hc h
theorem IsE.c8 {w : World} {E : Nat} {en : Bool} {cp qp : Value} (h : IsE w E en cp qp) : w.cell? ⟨E, 8, none⟩ = some qp := by obtain ⟨c, hc, _, _, h⟩ := h; exact cell_blk hc h

/-- The crowd, if there is one: its map holds the one lock, at the place x. -/
def Crowd (B : Nat) (w : World) (cr : Bool) (cp : Value) (T : Nat) (m k x : Int) : Prop :=
  (cr = false ∧ cp = .pointer none) ∨ (cr = true ∧ ∃ (bc bm : Nat) (c : Array Value), cp = .pointer (some ⟨bc, 0, none⟩) ∧ w.heap[bc]? = some (.cells c 84 (0, 0)) ∧ c[18]? = some (.map (some bm)) ∧ B ≤ bm ∧ OneIn w bm ⟨T, 0, none⟩ m k (.agg #[.int .i32 3, .int .i32 x]))
theorem Crowd.trn {w w' : World} {B B' T : Nat} {cr : Bool} {cp : Value} {m k x : Int} {ts : List Nat} (h : Crowd B w cr cp T m k x) (ht : Trn B' ts w w') (he : 84 ∉ ts) (h2 : 1000 ∉ ts) : Crowd B w' cr cp T m k x := by
  rcases h with h | ⟨h, bc, bm, c, h0, h1, hm, hb, ho⟩
  · exact .inl h
  · exact .inr ⟨h, bc, bm, c, h0, ht.at h1 he, hm, hb, ho.trn ht h2⟩
/-- The queue, if there is one: it has found nothing. -/
def Queue (B : Nat) (w : World) (qu : Bool) (qp : Value) : Prop :=
  (qu = false ∧ qp = .pointer none) ∨ (qu = true ∧ ∃ (bq : Nat) (c : Array Value), qp = .pointer (some ⟨bq, 0, none⟩) ∧ w.heap[bq]? = some (.cells c 76 (0, 0)) ∧ c[35]? = some (.pointer none) ∧ c[36]? = some (.slice none 0 0) ∧ B ≤ bq)
theorem Queue.trn {w w' : World} {B B' : Nat} {qu : Bool} {qp : Value} {ts : List Nat} (h : Queue B w qu qp) (ht : Trn B' ts w w') (he : 76 ∉ ts) : Queue B w' qu qp := by
  rcases h with h | ⟨h, bq, c, h0, h1, hm, hb, ho⟩
  · exact .inl h
  · exact .inr ⟨h, bq, c, h0, ht.at h1 he, hm, hb, ho⟩

theorem found_any (B E : Nat) (en qu : Bool) (cp qp : Value) (w : World) (hB : B ≤ w.heap.size) (hE : IsE w E en cp qp) (hQ : Queue B w qu qp) :
    Calls Yba.prog 14 #[.pointer (some ⟨E, 0, none⟩)] w fun e w' => e = .returned (.tuple #[]) ∧ Queue B w' qu qp ∧ Trn B [76] w w' := by
  rcases hQ with ⟨h0, rfl⟩ | ⟨h0, bq, c, rfl, h1, h2, h3, h4⟩
  · refine (found_no E w hE.c8).mono ?_
    rintro e w' ⟨rfl, rfl⟩
    exact ⟨rfl, .inl ⟨h0, rfl⟩, Trn.refl _ _ _⟩
  · refine (found_yes E bq w hE.c8 (cell_blk h1 h2) (cell_blk h1 h3) (frz_blk h1 36)).mono ?_
    rintro e w' ⟨rfl, rfl⟩
    have := (Array.getElem?_eq_some_iff.1 h3).1
    refine ⟨rfl, .inr ⟨h0, bq, _, rfl, blk_set h1 36 _, by simp [h2], by simp [this], h4⟩, Trn.of_turn ((Turn.refl (fun b => b = bq) w).set bq 36 _ rfl) hB ?_⟩
    rintro b rfl
    exact ⟨h4, fun o ho => by rw [h1] at ho; cases ho; simp [knd]⟩

/-- Whether the lock has a place among the searched. -/
def plc (cr en : Bool) (k : Int) : Bool := cr && (!en && (k == 1))
theorem placed_any (B E T : Nat) (en cr : Bool) (cp qp : Value) (m k x : Int) (w : World) (hE : IsE w E en cp qp) (hC : Crowd B w cr cp T m k x) :
    Calls Yba.prog 12 #[.pointer (some ⟨E, 0, none⟩), .agg #[.int .u8 m, .int .u8 k]] w fun e w' => e = .returned (.bool (plc cr en k)) ∧ Below w.heap.size w w' := by
  rcases hC with ⟨rfl, rfl⟩ | ⟨rfl, bc, bm, c, rfl, h1, h2, h3, h4⟩
  · exact placed_none E m k w hE.c7
  · exact placed_some E bc bm en m k w hE.c7 (cell_blk h1 h2) hE.c2
end Go.Proofs.Ybulkcjyg.Add
