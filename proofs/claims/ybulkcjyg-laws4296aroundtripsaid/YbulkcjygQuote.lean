import Derived.Test.YbulkcjygRows
import Derived.WalkKit
import Derived.WalkSpells
namespace Go.Proofs.Ybulkcjyg.Quote
open Go.RowKit
set_option linter.unusedVariables false

/-! ### The plain functions: no Go in sight -/
/-- quotedTextEnd from place i on, the rest of the text being l. -/
def qEnd : List UInt8 → Nat → Int
  | [], _ => -1
  | [c], i => if c = 92 then -1 else if c = 39 then (i : Int) + 1 else -1
  | c :: d :: r, i => if c = 92 then qEnd r (i + 2) else if c = 39 then (if d = 39 then qEnd r (i + 2) else (i : Int) + 1) else qEnd (d :: r) (i + 1)

/-- The model from place i on. -/
def mdl : List UInt8 → Nat → Bool → Bool → Int
  | [], i, _, q => if q then (i : Int) else -1
  | c :: r, i, esc, q => if esc then mdl r (i + 1) false q else if q then (if c = 39 then mdl r (i + 1) false false else (i : Int)) else if c = 92 then mdl r (i + 1) true false else if c = 39 then mdl r (i + 1) false true else mdl r (i + 1) false false

theorem same : ∀ (l : List UInt8) (i : Nat), qEnd l i = mdl l i false false
  | [], i => by simp [qEnd, mdl]
  | [c], i => by
    by_cases h1 : c = 92
    · simp [qEnd, mdl, h1]
    · by_cases h2 : c = 39 <;> simp [qEnd, mdl, h1, h2]
  | c :: d :: r, i => by
    by_cases h1 : c = 92
    · simp only [qEnd, mdl, h1]
      simp [same r (i + 2)]
    · by_cases h2 : c = 39
      · by_cases h3 : d = 39
        · simp [qEnd, mdl, h2, h3, same r (i + 2)]
        · simp [qEnd, mdl, h2, h3]
      · have := same (d :: r) (i + 1)
        rw [qEnd, if_neg h1, if_neg h2, this]
        conv => rhs; rw [mdl]
        rw [if_neg (by decide), if_neg (by decide), if_neg h1, if_neg h2]

/-! ### One round of each, in the walk's own forms -/
def qAt (s : ByteArray) (k : Nat) : Int := qEnd (s.data.toList.drop k) k
def mAt (s : ByteArray) (k : Nat) (esc q : Bool) : Int := mdl (s.data.toList.drop k) k esc q

theorem qAt_end (s : ByteArray) (k : Nat) (h : s.size ≤ k) : qAt s k = -1 := by
  unfold qAt; rw [List.drop_of_length_le (by simpa using h)]; rfl
theorem drop_cons (s : ByteArray) (k : Nat) (h : k < s.size) : s.data.toList.drop k = s[k] :: s.data.toList.drop (k + 1) := by
  rw [List.drop_eq_getElem_cons (by simpa using h)]; rfl
theorem eq_of_nat {c d : UInt8} {n : Int} (hn : (d.toNat : Int) = n) (h : ((c.toNat : Int) == n) = true) : c = d := by
  rw [beq_iff_eq, ← hn] at h
  exact UInt8.toNat_inj.1 (by omega)
theorem ne_of_nat {c d : UInt8} {n : Int} (hn : (d.toNat : Int) = n) (h : ((c.toNat : Int) == n) = false) : ¬ c = d := by
  rw [beq_eq_false_iff_ne, ← hn] at h
  intro e; exact h (by rw [e])

theorem q92 (s : ByteArray) (k : Nat) (h : k < s.size) (h1 : ((s[k].toNat : Int) == 92) = true) : qAt s k = qAt s (k + 2) := by
  have e := eq_of_nat (d := 92) rfl h1
  by_cases hl : k + 1 < s.size
  · unfold qAt
    rw [drop_cons s k h, drop_cons s (k + 1) hl, qEnd, if_pos e]
  · rw [qAt_end s (k + 2) (by omega)]
    unfold qAt
    rw [drop_cons s k h, List.drop_of_length_le (by simp; omega), qEnd, if_pos e]
theorem q39b (s : ByteArray) (k : Nat) (h : k + 1 < s.size) (h1 : ((s[k].toNat : Int) == 92) = false) (h2 : ((s[k].toNat : Int) == 39) = true) (h3 : ((s[k + 1].toNat : Int) == 39) = true) : qAt s k = qAt s (k + 2) := by
  unfold qAt
  rw [drop_cons s k (by omega), drop_cons s (k + 1) h, qEnd, if_neg (ne_of_nat (d := 92) rfl h1), if_pos (eq_of_nat (d := 39) rfl h2), if_pos (eq_of_nat (d := 39) rfl h3)]
theorem q39n (s : ByteArray) (k : Nat) (h : k + 1 < s.size) (h1 : ((s[k].toNat : Int) == 92) = false) (h2 : ((s[k].toNat : Int) == 39) = true) (h3 : ((s[k + 1].toNat : Int) == 39) = false) : qAt s k = (k : Int) + 1 := by
  unfold qAt
  rw [drop_cons s k (by omega), drop_cons s (k + 1) h, qEnd, if_neg (ne_of_nat (d := 92) rfl h1), if_pos (eq_of_nat (d := 39) rfl h2), if_neg (ne_of_nat (d := 39) rfl h3)]
theorem q39e (s : ByteArray) (k : Nat) (h : k < s.size) (hl : s.size ≤ k + 1) (h1 : ((s[k].toNat : Int) == 92) = false) (h2 : ((s[k].toNat : Int) == 39) = true) : qAt s k = (k : Int) + 1 := by
  unfold qAt
  rw [drop_cons s k h, List.drop_of_length_le (by simp; omega), qEnd, if_neg (ne_of_nat (d := 92) rfl h1), if_pos (eq_of_nat (d := 39) rfl h2)]
theorem qno (s : ByteArray) (k : Nat) (h : k < s.size) (h1 : ((s[k].toNat : Int) == 92) = false) (h2 : ((s[k].toNat : Int) == 39) = false) : qAt s k = qAt s (k + 1) := by
  by_cases hl : k + 1 < s.size
  · unfold qAt
    rw [drop_cons s k h, drop_cons s (k + 1) hl, qEnd, if_neg (ne_of_nat (d := 92) rfl h1), if_neg (ne_of_nat (d := 39) rfl h2)]
  · rw [qAt_end s (k + 1) (by omega)]
    unfold qAt
    rw [drop_cons s k h, List.drop_of_length_le (by simp; omega), qEnd, if_neg (ne_of_nat (d := 92) rfl h1), if_neg (ne_of_nat (d := 39) rfl h2)]

theorem m_end (s : ByteArray) (k : Nat) (e q : Bool) (h : s.size ≤ k) : mAt s k e q = if q then (k : Int) else -1 := by
  unfold mAt; rw [List.drop_of_length_le (by simpa using h)]; rfl
theorem m_esc (s : ByteArray) (k : Nat) (q : Bool) (h : k < s.size) : mAt s k true q = mAt s (k + 1) false q := by
  unfold mAt; rw [drop_cons s k h]; rfl
theorem m_q39 (s : ByteArray) (k : Nat) (h : k < s.size) (h2 : ((s[k].toNat : Int) == 39) = true) : mAt s k false true = mAt s (k + 1) false false := by
  unfold mAt; rw [drop_cons s k h, mdl, if_neg (by decide), if_pos rfl, if_pos (eq_of_nat (d := 39) rfl h2)]
theorem m_qno (s : ByteArray) (k : Nat) (h : k < s.size) (h2 : ((s[k].toNat : Int) == 39) = false) : mAt s k false true = (k : Int) := by
  unfold mAt; rw [drop_cons s k h, mdl, if_neg (by decide), if_pos rfl, if_neg (ne_of_nat (d := 39) rfl h2)]
theorem m_92 (s : ByteArray) (k : Nat) (h : k < s.size) (h1 : ((s[k].toNat : Int) == 92) = true) : mAt s k false false = mAt s (k + 1) true false := by
  unfold mAt; rw [drop_cons s k h, mdl, if_neg (by decide), if_neg (by decide), if_pos (eq_of_nat (d := 92) rfl h1)]
theorem m_39 (s : ByteArray) (k : Nat) (h : k < s.size) (h1 : ((s[k].toNat : Int) == 92) = false) (h2 : ((s[k].toNat : Int) == 39) = true) : mAt s k false false = mAt s (k + 1) false true := by
  unfold mAt; rw [drop_cons s k h, mdl, if_neg (by decide), if_neg (by decide), if_neg (ne_of_nat (d := 92) rfl h1), if_pos (eq_of_nat (d := 39) rfl h2)]
theorem m_no (s : ByteArray) (k : Nat) (h : k < s.size) (h1 : ((s[k].toNat : Int) == 92) = false) (h2 : ((s[k].toNat : Int) == 39) = false) : mAt s k false false = mAt s (k + 1) false false := by
  unfold mAt; rw [drop_cons s k h, mdl, if_neg (by decide), if_neg (by decide), if_neg (ne_of_nat (d := 92) rfl h1), if_neg (ne_of_nat (d := 39) rfl h2)]

theorem ret_int {k : IntKind} {a b : Int} (h : a = b) : Ending.returned (.int k a) = .returned (.int k b) := by rw [h]

set_option maxHeartbeats 400000 in
theorem quoted_any (s : ByteArray) (w : World) (hs : s.size ≤ 100000) :
    Calls Yba.prog 6 #[.string s] w fun e w' => e = .returned (.int .i64 (qAt s 1)) ∧ w' = w := by
  go_enter Yba.func6, Yba.ntmps6
  go_wp2
  go_loop [3] (fun i => ∃ k : Nat, 1 ≤ k ∧ k ≤ s.size + 1 ∧ i = .int .i64 k ∧ Hid (qAt s 1 = qAt s k)) (fun i => s.size + 1 - (intOf i).toNat)
  case atStart => exact ⟨1, by omega, by omega, rfl, rfl⟩
  case round =>
    obtain ⟨k, hk1, hk2, rfl, HQ⟩ := hrel
    by_cases hlt : k < s.size
    · cases h1 : ((s[k].toNat : Int) == 92)
      · cases h2 : ((s[k].toNat : Int) == 39)
        · have HN : Hid (qAt s k = qAt s (k + 1)) := qno s k hlt h1 h2
          go_wp2
          go_round
          case rel => exact ⟨k + 1, by omega, by omega, by go_num, HQ.out.trans HN.out⟩
          case measure => simp [intOf]; omega
        · by_cases hl : k + 1 < s.size
          · cases h3 : ((s[k + 1].toNat : Int) == 39)
            · have HN : Hid (qAt s k = (k : Int) + 1) := q39n s k hl h1 h2 h3
              go_wp2
              go_ret
              exact ⟨ret_int (HQ.out.trans HN.out).symm, rfl⟩
            · have HN : Hid (qAt s k = qAt s (k + 2)) := q39b s k hl h1 h2 h3
              go_wp2
              go_round
              case rel => exact ⟨k + 2, by omega, by omega, by go_num, HQ.out.trans HN.out⟩
              case measure => simp [intOf]; omega
          · have HN : Hid (qAt s k = (k : Int) + 1) := q39e s k hlt (by omega) h1 h2
            go_wp2
            go_ret
            exact ⟨ret_int (HQ.out.trans HN.out).symm, rfl⟩
      · have HN : Hid (qAt s k = qAt s (k + 2)) := q92 s k hlt h1
        go_wp2
        go_round
        case rel => exact ⟨k + 2, by omega, by omega, by go_num, HQ.out.trans HN.out⟩
        case measure => simp [intOf]; omega
    · have HN : Hid (qAt s k = -1) := qAt_end s k (by omega)
      go_wp2
      go_ret
      exact ⟨ret_int (HQ.out.trans HN.out).symm, rfl⟩

set_option maxHeartbeats 400000 in
theorem model_any (s : ByteArray) (w : World) (hs : s.size ≤ 100000) :
    Calls Yba.prog 7 #[.string s] w fun e w' => e = .returned (.int .i64 (mAt s 1 false false)) ∧ w' = w := by
  go_enter Yba.func7, Yba.ntmps7
  go_wp2
  go_loop [3, 4, 5] (fun e q i => ∃ (k : Nat) (eb qb : Bool), 1 ≤ k ∧ k ≤ s.size + 1 ∧ (k ≤ s.size ∨ qb = false) ∧ i = .int .i64 k ∧ e = .bool eb ∧ q = .bool qb ∧ Hid (mAt s 1 false false = mAt s k eb qb)) (fun _ _ i => s.size + 1 - (intOf i).toNat)
  case atStart => exact ⟨1, false, false, by omega, by omega, Or.inr rfl, rfl, rfl, rfl, rfl⟩
  case round =>
    obtain ⟨k, eb, qb, hk1, hk2, hkq, rfl, rfl, rfl, HQ⟩ := hrel
    by_cases hlt : k < s.size
    · clear hkq
      cases eb
      · cases qb
        · cases h1 : ((s[k].toNat : Int) == 92)
          · cases h2 : ((s[k].toNat : Int) == 39)
            · have HN : Hid (mAt s k false false = mAt s (k + 1) false false) := m_no s k hlt h1 h2
              go_wp2
              go_round
              case rel => exact ⟨k + 1, false, false, by omega, by omega, by omega, by go_num, rfl, rfl, HQ.out.trans HN.out⟩
              case measure => simp [intOf]; omega
            · have HN : Hid (mAt s k false false = mAt s (k + 1) false true) := m_39 s k hlt h1 h2
              go_wp2
              go_round
              case rel => exact ⟨k + 1, false, true, by omega, by omega, by omega, by go_num, rfl, rfl, HQ.out.trans HN.out⟩
              case measure => simp [intOf]; omega
          · have HN : Hid (mAt s k false false = mAt s (k + 1) true false) := m_92 s k hlt h1
            go_wp2
            go_round
            case rel => exact ⟨k + 1, true, false, by omega, by omega, by omega, by go_num, rfl, rfl, HQ.out.trans HN.out⟩
            case measure => simp [intOf]; omega
        · cases h2 : ((s[k].toNat : Int) == 39)
          · have HN : Hid (mAt s k false true = (k : Int)) := m_qno s k hlt h2
            go_wp2
            go_ret
            exact ⟨ret_int (HQ.out.trans HN.out).symm, rfl⟩
          · have HN : Hid (mAt s k false true = mAt s (k + 1) false false) := m_q39 s k hlt h2
            go_wp2
            go_round
            case rel => exact ⟨k + 1, false, false, by omega, by omega, by omega, by go_num, rfl, rfl, HQ.out.trans HN.out⟩
            case measure => simp [intOf]; omega
      · have HN : Hid (mAt s k true qb = mAt s (k + 1) false qb) := m_esc s k qb hlt
        go_wp2
        go_round
        case rel => exact ⟨k + 1, false, qb, by omega, by omega, by omega, by go_num, rfl, rfl, HQ.out.trans HN.out⟩
        case measure => simp [intOf]; omega
    · have HN := m_end s k eb qb (by omega)
      cases qb
      · have HN' : Hid (mAt s k eb false = -1) := HN
        clear HN hkq
        go_wp2
        go_ret
        exact ⟨ret_int (HQ.out.trans HN'.out).symm, rfl⟩
      · have HN' : Hid (mAt s k eb true = (k : Int)) := HN
        have hks : k = s.size := by simp at hkq; omega
        subst hks
        clear HN hkq
        go_wp2
        go_ret
        exact ⟨ret_int (HQ.out.trans HN'.out).symm, rfl⟩
end Go.Proofs.Ybulkcjyg.Quote
