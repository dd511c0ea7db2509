import Derived.Test.YbulkcjygQuote
import Derived.Room.AppendFits
import Derived.Laws.IdiomStrings
import Derived.Deep.MidRow
namespace Go.Proofs.Ybulkcjyg.Round
open Go.RowKit
set_option linter.unusedVariables false

/-! ### The plain law -/
def esc1 (c : UInt8) : List UInt8 := if c = 39 then [39, 39] else if c = 92 then [92, 92] else [c]
def esc : List UInt8 → List UInt8
  | [] => []
  | c :: r => esc1 c ++ esc r
theorem esc_append (a b : List UInt8) : esc (a ++ b) = esc a ++ esc b := by
  induction a with
  | nil => rfl
  | cons c r ih => simp [esc, ih]
theorem esc1_le (c : UInt8) : (esc1 c).length ≤ 2 := by unfold esc1; split <;> (try split) <;> simp
theorem esc_le (l : List UInt8) : (esc l).length ≤ 2 * l.length := by
  induction l with
  | nil => simp [esc]
  | cons c r ih => have := esc1_le c; simp [esc]; omega
theorem qEnd_esc (rest : List UInt8) (hr : rest.head? ≠ some 39) : ∀ (l : List UInt8) (i : Nat), Quote.qEnd (esc l ++ 39 :: rest) i = (i : Int) + (esc l).length + 1
  | [], i => by
    cases rest with
    | nil => simp [esc, Quote.qEnd]
    | cons d r =>
      have hd : ¬ d = 39 := fun e => hr (by simp [e])
      simp [esc, Quote.qEnd, hd]
  | c :: r, i => by
    have ih := qEnd_esc rest hr r
    by_cases h1 : c = 39
    · subst h1
      have e : esc (39 :: r) = 39 :: 39 :: esc r := by simp [esc, esc1]
      rw [e, List.cons_append, List.cons_append, Quote.qEnd, if_neg (by decide), if_pos rfl, if_pos rfl, ih]
      simp; omega
    · by_cases h2 : c = 92
      · subst h2
        have e : esc (92 :: r) = 92 :: 92 :: esc r := by simp [esc, esc1]
        rw [e, List.cons_append, List.cons_append, Quote.qEnd, if_pos rfl, ih]
        simp; omega
      · have e : esc (c :: r) = c :: esc r := by simp [esc, esc1, h1, h2]
        rw [e, List.cons_append]
        have ih' := ih (i + 1)
        cases hq : esc r ++ 39 :: rest with
        | nil => simp at hq
        | cons d q =>
          rw [Quote.qEnd, if_neg h2, if_neg h1, ← hq, ih']
          simp; omega

/-- A list of bytes as cells. -/
def bc (l : List UInt8) : List Value := l.map fun b => Value.int .u8 b.toNat
theorem bc_length (l : List UInt8) : (bc l).length = l.length := by simp [bc]
theorem bc_append (a b : List UInt8) : bc a ++ bc b = bc (a ++ b) := by simp [bc]
theorem strCells_bc (s : ByteArray) : Lib.strCells s = bc s.data.toList := by simp [bc, Lib.strCells]
theorem info5 : (Yba.prog.info? 5).map (fun i => (i.zero, i.size, i.bytes)) = some (some (.int .u8 0), 1, 1) := by kernel_rfl

theorem two_new (w : World) (x y : Int) : ∀ (j : Nat) (u : Value), [Value.int .u8 x, .int .u8 y][j]? = some u → (w.alloc (.cells #[.int .u8 x, .int .u8 y] 5)).cell? ((⟨w.heap.size, 0, none⟩ : Addr).add j) = some u := by
  intro j u h
  rw [Addr.add_mid, World.cell?_alloc_at _ _ _ _ rfl]
  match j, h with
  | 0, h => simpa using h
  | 1, h => simpa using h
theorem two_one (x y : Int) : ∀ u ∈ [Value.int .u8 x, .int .u8 y], u.oneCell' = true := by
  intro u hu; simp at hu; rcases hu with rfl | rfl <;> rfl
theorem one_new (w : World) (x : Int) : ∀ (j : Nat) (u : Value), [Value.int .u8 x][j]? = some u → (w.alloc (.cells #[.int .u8 x] 5)).cell? ((⟨w.heap.size, 0, none⟩ : Addr).add j) = some u := by
  intro j u h
  rw [Addr.add_mid, World.cell?_alloc_at _ _ _ _ rfl]
  match j, h with
  | 0, h => simpa using h
theorem one_one (x : Int) : ∀ u ∈ [Value.int .u8 x], u.oneCell' = true := by
  intro u hu; simp at hu; subst hu; rfl

/-- What the loop holds: n bytes written, the list L. -/
def Rel (N : Nat) (w : World) (C n : Nat) (L : List UInt8) (wr : World) : Prop :=
  wr.ownsRow N 5 1 (.slice (some ⟨N, 0, none⟩) n C) n (bc L) ∧ Below N w wr ∧ N ≤ wr.heap.size

theorem rel_next {N : Nat} {w : World} {C n m : Nat} {L M : List UInt8} {wr w1 : World} {o : Obj} {xs : List Value} (h : Rel N w C n L wr) (hx : xs = bc (L ++ M)) (h1 : w1.ownsRow N 5 1 (.slice (some ⟨N, 0, none⟩) (n + m) C) (n + m) xs) (h2 : (wr.alloc o).grownBy w1 (some N)) :
    Rel N w C (n + m) (L ++ M) w1 := by
  subst hx
  refine ⟨h1, (h.2.1.alloc h.2.2 _).grown h2 (by have := h.2.2; simp; omega) (by simp), ?_⟩
  have := h2.size; have := h.2.2; simp at *; omega

theorem take_esc (s : ByteArray) (k : Nat) (h : k < s.size) : esc (s.data.toList.take (k + 1)) = esc (s.data.toList.take k) ++ esc1 s[k] := by
  rw [List.take_succ_eq_append_getElem (by simpa using h), esc_append]
  simp [esc]; rfl

theorem round_end {N : Nat} {w : World} {C n m : Nat} {s : ByteArray} {k : Nat} {M : List UInt8} {c : UInt8} {wr w1 : World} {o : Obj} (HN : Hid (n = 1 + (esc (s.data.toList.take k)).length)) (h : Rel N w C n (39 :: esc (s.data.toList.take k)) wr)
    (hst : Hid (esc (s.data.toList.take (k + 1)) = esc (s.data.toList.take k) ++ esc1 c)) (he : Hid (esc1 c = M)) (hm : M.length = m) (hk : k + 1 ≤ s.size)
    (h1 : w1.ownsRow N 5 1 (.slice (some ⟨N, 0, none⟩) (n + m) C) (n + m) (bc (39 :: esc (s.data.toList.take k)) ++ bc M)) (h2 : (wr.alloc o).grownBy w1 (some N)) :
    ∃ k' n' : Nat, k' ≤ s.size ∧ Value.int .i64 ((k : Int) + 1) = .int .i64 k' ∧ Value.slice (some ⟨N, 0, none⟩) (n + m) C = .slice (some ⟨N, 0, none⟩) n' C ∧ Hid (n' = 1 + (esc (s.data.toList.take k')).length) ∧ Rel N w C n' (39 :: esc (s.data.toList.take k')) w1 := by
  have hst := hst.out
  rw [he.out] at hst
  refine ⟨k + 1, n + m, hk, by go_num, rfl, ?_, ?_⟩
  · show n + m = _
    rw [hst, List.length_append, HN.out, hm]; omega
  · rw [hst]
    exact rel_next h (bc_append _ _) h1 h2

theorem conv_own {w : World} {N m C : Nat} {L : List UInt8} (h : w.ownsRow N 5 1 (.slice (some ⟨N, 0, none⟩) m C) m (bc L)) :
    ∃ S : ByteArray, Hid (S.data.toList = L) ∧ (convert 24 9 (.slice (some ⟨N, 0, none⟩) m C)).run Yba.prog w = .ok (.string S) w := by
  have hm : L.length = m := by have := h.1; rw [bc_length, Nat.mul_one] at this; exact this
  subst hm
  refine ⟨⟨L.toArray⟩, rfl, run_convert_bytes_back w 24 9 5 ⟨N, 0, none⟩ C L Yba.underlying24 Yba.underlying5 Yba.underlying9 (fun j hj => ?_)⟩
  rw [Addr.add_mid, Nat.zero_add, h.cellAt j (by omega)]
  simp [bc, hj]

theorem call_end (S : ByteArray) (n : Nat) (l rest : List UInt8) (hS : S.data.toList = 39 :: (esc l ++ 39 :: rest)) (hn : n = 1 + (esc l).length) (hr : rest.head? ≠ some 39) (hl : 2 + (2 * l.length) + rest.length ≤ 100000) (w : World) :
    Calls Yba.prog 6 #[.string S] w fun e w' => e = .returned (.int .i64 ((n : Int) + 1)) ∧ w' = w := by
  have he := esc_le l
  have hsz : S.size = 2 + (esc l).length + rest.length := by
    have : S.size = S.data.toList.length := by simp
    rw [this, hS]; simp; omega
  refine (Quote.quoted_any S w (by omega)).mono ?_
  rintro e w' ⟨rfl, rfl⟩
  refine ⟨Quote.ret_int ?_, rfl⟩
  show Quote.qEnd (S.data.toList.drop 1) 1 = _
  rw [hS]
  simp only [List.drop_succ_cons, List.drop_zero]
  rw [qEnd_esc rest hr, hn]
  omega

theorem head_ne (t : ByteArray) (h : ¬ ∃ h : 0 < t.size, ((t[0].toNat : Int) == 39) = true) : t.data.toList.head? ≠ some 39 := by
  intro e
  by_cases h0 : 0 < t.size
  · refine h ⟨h0, ?_⟩
    have : t.data.toList[0]? = some t[0] := by
      have h0' : 0 < t.data.toList.length := by simpa using h0
      rw [List.getElem?_eq_getElem h0']; rfl
    rw [← List.head?_eq_getElem?, e] at this
    rw [← Option.some.inj this]; rfl
  · have : t.data.toList = [] := List.eq_nil_of_length_eq_zero (by simp; simpa using h0)
    rw [this] at e; simp at e

set_option maxRecDepth 100000 in
set_option maxHeartbeats 1000000 in
theorem walk_main (s t : ByteArray) (w : World) (hs : s.size ≤ 2048) (ht : t.size ≤ 2048) :
    Calls Yba.prog 4 #[.string s, .string t] w fun e w' => e = .returned (.bool true) ∧ Below w.heap.size w w' := by
  obtain ⟨i5, hi5, hz0, hz1, hz2⟩ := info_parts info5
  obtain ⟨C, hC⟩ : ∃ C, C = 2 * s.size + 3 + t.size := ⟨_, rfl⟩
  have HC : Hid (C = 2 * s.size + 3 + t.size) := hC
  have hC1 : 2 * s.size + 3 + t.size ≤ C := by omega
  have hC2 : C ≤ 2 * s.size + 3 + t.size := by omega
  clear hC
  go_enter Yba.func4, Yba.ntmps4
  go_wp2_with (first
    | (at_make; refine wpList_make_own _ rfl _ _ 24 rfl w.heap.size 5 i5 (.int .u8 0) 1 Yba.underlying24 hi5 hz0 hz1 .i64 .i64 _ C rfl rfl ?_ ?_ ?_ ?_ ?_; (focus (rw [HC.out]; push_cast; rfl)); (focus (rw [hz2]; omega)); (focus (unfold maxLen; omega)); (focus exact Nat.le_refl _); intro w1 hown1 hg1)
    | (at_builtin; refine wpList_append_fits _ ?_ (.tmp 25) (.tmp 26) 24 ?_ w.heap.size 5 i5 1 Yba.underlying24 hi5 hz1 w.heap.size 0 C [] ?_ (hown1.alloc _) ⟨w1.heap.size, 0, none⟩ 1 1 [.int .u8 39] ?_ ?_ ?_ ?_ ?_ ?_; rfl; rfl; rfl; rfl; rfl; (focus exact one_new _ _); (focus exact one_one _); (focus omega); intro w2 hown2 hg2; simp only [Nat.zero_add, List.nil_append] at hown2))
  have hr0 : Rel w.heap.size w C 1 [39] w2 := ⟨hown2, (((Below.refl _ _).grown hg1 (Nat.le_refl _) (by simp)).alloc hg1.size _).grown hg2 (by have := hg1.size; simp; omega) (by simp), by have := hg1.size; have := hg2.size; simp at this; omega⟩
  clear hown1 hown2 hg1 hg2
  go_loopw [5, 6] (fun v i wr => ∃ k n : Nat, k ≤ s.size ∧ i = .int .i64 k ∧ v = .slice (some ⟨w.heap.size, 0, none⟩) n C ∧ Hid (n = 1 + (esc (s.data.toList.take k)).length) ∧ Rel w.heap.size w C n (39 :: esc (s.data.toList.take k)) wr) (fun _ i _ => s.size - (intOf i).toNat)
  case atStart => exact ⟨0, 1, Nat.zero_le _, rfl, rfl, rfl, hr0⟩
  case round =>
    obtain ⟨k, n, hk, rfl, rfl, HN, hr⟩ := hrel
    clear hr0
    have hn : n ≤ 1 + 2 * k := by
      have h1 := HN.out
      have h2 := esc_le (s.data.toList.take k)
      have h3 : (s.data.toList.take k).length ≤ k := List.length_take_le _ _
      omega
    by_cases hlt : k < s.size
    · have hst : Hid (esc (s.data.toList.take (k + 1)) = esc (s.data.toList.take k) ++ esc1 s[k]) := take_esc s k hlt
      cases h2 : ((s[k].toNat : Int) == 39)
      · cases h1 : ((s[k].toNat : Int) == 92)
        · have he : Hid (esc1 s[k] = [s[k]]) := by show esc1 s[k] = _; unfold esc1; rw [if_neg (Quote.ne_of_nat (d := 39) rfl h2), if_neg (Quote.ne_of_nat (d := 92) rfl h1)]
          go_wp2_with ((at_builtin; refine wpList_append_fits _ ?_ (.tmp 47) (.tmp 49) 24 ?_ w.heap.size 5 i5 1 Yba.underlying24 hi5 hz1 w.heap.size n C _ ?_ (hr.1.alloc _) ⟨wr.heap.size, 0, none⟩ 1 1 [.int .u8 s[k].toNat] ?_ ?_ ?_ ?_ ?_ ?_; rfl; rfl; rfl; rfl; rfl; (focus exact one_new _ _); (focus exact one_one _); (focus omega); intro w3 hown3 hg3))
          go_roundw
          case rel =>
            exact round_end (m := 1) HN hr hst he rfl (by omega) hown3 hg3
          case measure => simp [intOf]; omega
        · have he : Hid (esc1 s[k] = [92, 92]) := by show esc1 s[k] = _; unfold esc1; rw [if_neg (Quote.ne_of_nat (d := 39) rfl h2), if_pos (Quote.eq_of_nat (d := 92) rfl h1)]
          go_wp2_with ((at_builtin; refine wpList_append_fits _ ?_ (.tmp 44) (.tmp 45) 24 ?_ w.heap.size 5 i5 1 Yba.underlying24 hi5 hz1 w.heap.size n C _ ?_ (hr.1.alloc _) ⟨wr.heap.size, 0, none⟩ 2 2 [.int .u8 92, .int .u8 92] ?_ ?_ ?_ ?_ ?_ ?_; rfl; rfl; rfl; rfl; rfl; (focus exact two_new _ _ _); (focus exact two_one _ _); (focus omega); intro w3 hown3 hg3))
          go_roundw
          case rel =>
            exact round_end (m := 2) HN hr hst he rfl (by omega) hown3 hg3
          case measure => simp [intOf]; omega
      · have he : Hid (esc1 s[k] = [39, 39]) := by show esc1 s[k] = _; unfold esc1; rw [if_pos (Quote.eq_of_nat (d := 39) rfl h2)]
        go_wp2_with ((at_builtin; refine wpList_append_fits _ ?_ (.tmp 39) (.tmp 40) 24 ?_ w.heap.size 5 i5 1 Yba.underlying24 hi5 hz1 w.heap.size n C _ ?_ (hr.1.alloc _) ⟨wr.heap.size, 0, none⟩ 2 2 [.int .u8 39, .int .u8 39] ?_ ?_ ?_ ?_ ?_ ?_; rfl; rfl; rfl; rfl; rfl; (focus exact two_new _ _ _); (focus exact two_one _ _); (focus omega); intro w3 hown3 hg3))
        go_roundw
        case rel =>
          exact round_end (m := 2) HN hr hst he rfl (by omega) hown3 hg3
        case measure => simp [intOf]; omega
    · obtain rfl : k = s.size := by omega
      rw [show s.data.toList.take s.size = s.data.toList from List.take_of_length_le (by simp)] at HN hr
      by_cases h39 : ∃ h : 0 < t.size, ((t[0].toNat : Int) == 39) = true
      · obtain ⟨h0, h0'⟩ := h39
        go_wp2_with (first
          | (at_builtin; refine wpList_append_fits _ ?_ (.tmp 51) (.tmp 52) 24 ?_ w.heap.size 5 i5 1 Yba.underlying24 hi5 hz1 w.heap.size n C _ ?_ (hr.1.alloc _) ⟨wr.heap.size, 0, none⟩ 1 1 [.int .u8 39] ?_ ?_ ?_ ?_ ?_ ?_; rfl; rfl; rfl; rfl; rfl; (focus exact one_new _ _); (focus exact one_one _); (focus omega); intro w3 hown3 hg3; have hr3 := rel_next (M := [39]) hr (bc_append _ [39]) hown3 hg3; clear hown3 hg3)
          | (at_builtin; refine wpList_append_fits _ ?_ (.tmp 64) (.tmp 65) 24 ?_ w.heap.size 5 i5 1 Yba.underlying24 hi5 hz1 w.heap.size (n + 1) C _ ?_ (hr3.1.alloc _) ⟨w3.heap.size, 0, none⟩ 1 1 [.int .u8 32] ?_ ?_ ?_ ?_ ?_ ?_; rfl; rfl; rfl; rfl; rfl; (focus exact one_new _ _); (focus exact one_one _); (focus omega); intro w4 hown4 hg4; have hr4 := rel_next (M := [32]) hr3 (bc_append _ [32]) hown4 hg4; clear hown4 hg4)
          | (at_builtin; refine Lib.wpList_append_fits_string _ ?_ (.tmp 67) (.tmp 68) 24 9 ?_ w.heap.size 5 i5 Yba.underlying24 Yba.underlying9 hi5 hz1 (some ⟨w.heap.size, 0, none⟩) (n + 1 + 1) C _ ?_ hr4.1 t ?_ ?_ ?_ ?_; rfl; rfl; rfl; rfl; (focus omega); (focus omega); intro w5 hown5 hg5; rw [strCells_bc, bc_append] at hown5; obtain ⟨S, HS, hcv⟩ := conv_own hown5; clear hown5)
          | (go_at_call 6; refine (call_end S n s.data.toList (32 :: t.data.toList) (HS.out.trans (by simp)) HN.out (by simp) (by simp; omega) _).mono ?_; rintro e w' ⟨rfl, rfl⟩))
        go_ret
        exact ⟨by simp, hr4.2.1.grown hg5 hr4.2.2 (by simp [Value.ownBlock])⟩
      · have hhd := head_ne t h39
        have HH : Hid (t.data.toList.head? ≠ some 39) := hhd
        clear hhd
        by_cases h0 : 0 < t.size
        · have h0' : ((t[0].toNat : Int) == 39) = false := by cases hq : ((t[0].toNat : Int) == 39); rfl; exact absurd ⟨h0, hq⟩ h39
          clear h39
          go_wp2_with (first
            | (at_builtin; refine wpList_append_fits _ ?_ (.tmp 51) (.tmp 52) 24 ?_ w.heap.size 5 i5 1 Yba.underlying24 hi5 hz1 w.heap.size n C _ ?_ (hr.1.alloc _) ⟨wr.heap.size, 0, none⟩ 1 1 [.int .u8 39] ?_ ?_ ?_ ?_ ?_ ?_; rfl; rfl; rfl; rfl; rfl; (focus exact one_new _ _); (focus exact one_one _); (focus omega); intro w3 hown3 hg3; have hr3 := rel_next (M := [39]) hr (bc_append _ [39]) hown3 hg3; clear hown3 hg3)
            | (at_builtin; refine Lib.wpList_append_fits_string _ ?_ (.tmp 67) (.tmp 68) 24 9 ?_ w.heap.size 5 i5 Yba.underlying24 Yba.underlying9 hi5 hz1 (some ⟨w.heap.size, 0, none⟩) (n + 1) C _ ?_ hr3.1 t ?_ ?_ ?_ ?_; rfl; rfl; rfl; rfl; (focus omega); (focus omega); intro w5 hown5 hg5; rw [strCells_bc, bc_append] at hown5; obtain ⟨S, HS, hcv⟩ := conv_own hown5; clear hown5)
            | (go_at_call 6; refine (call_end S n s.data.toList t.data.toList (HS.out.trans (by simp)) HN.out HH.out (by simp; omega) _).mono ?_; rintro e w' ⟨rfl, rfl⟩))
          go_ret
          exact ⟨by simp, hr3.2.1.grown hg5 hr3.2.2 (by simp [Value.ownBlock])⟩
        · clear h39
          go_wp2_with (first
            | (at_builtin; refine wpList_append_fits _ ?_ (.tmp 51) (.tmp 52) 24 ?_ w.heap.size 5 i5 1 Yba.underlying24 hi5 hz1 w.heap.size n C _ ?_ (hr.1.alloc _) ⟨wr.heap.size, 0, none⟩ 1 1 [.int .u8 39] ?_ ?_ ?_ ?_ ?_ ?_; rfl; rfl; rfl; rfl; rfl; (focus exact one_new _ _); (focus exact one_one _); (focus omega); intro w3 hown3 hg3; have hr3 := rel_next (M := [39]) hr (bc_append _ [39]) hown3 hg3; clear hown3 hg3)
            | (at_builtin; refine Lib.wpList_append_fits_string _ ?_ (.tmp 67) (.tmp 68) 24 9 ?_ w.heap.size 5 i5 Yba.underlying24 Yba.underlying9 hi5 hz1 (some ⟨w.heap.size, 0, none⟩) (n + 1) C _ ?_ hr3.1 t ?_ ?_ ?_ ?_; rfl; rfl; rfl; rfl; (focus omega); (focus omega); intro w5 hown5 hg5; rw [strCells_bc, bc_append] at hown5; obtain ⟨S, HS, hcv⟩ := conv_own hown5; clear hown5)
            | (go_at_call 6; refine (call_end S n s.data.toList t.data.toList (HS.out.trans (by simp)) HN.out HH.out (by simp; omega) _).mono ?_; rintro e w' ⟨rfl, rfl⟩))
          go_ret
          exact ⟨by simp, hr3.2.1.grown hg5 hr3.2.2 (by simp [Value.ownBlock])⟩
end Go.Proofs.Ybulkcjyg.Round
