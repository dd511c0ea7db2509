import Derived.Test.YbulkcjwqRows
import Derived.WalkKit
import Derived.WalkSpells
import Derived.Deep.QuietTactic
import Derived.BigQuiet
import Derived.Deep.OwnRows
namespace Go.Proofs.Ybulkcjwq.lawS4293BNewest
open Go.RowKit
set_option linter.unusedVariables false

set_option maxHeartbeats 400000 in
theorem at_any (bn bc b0 : Nat) (k i : Nat) (base : Int) (q : Addr) (w : World) (hb1 : -2147483648 ≤ base) (hb2 : base ≤ 2147483647) (hk : k ≤ 1025) (hik : i < k)
    (hch : w.cell? ⟨bn, 8, none⟩ = some (.slice (some ⟨bc, 0, none⟩) k k))
    (h0 : w.cell? ⟨bc, 0, none⟩ = some (.pointer (some ⟨b0, 0, none⟩)))
    (hh : w.cell? ⟨b0, 2, none⟩ = some (.int .i64 base))
    (hi : w.cell? ⟨bc, i, none⟩ = some (.pointer (some q))) :
    Calls Yba.prog 13 #[.pointer (some ⟨bn, 0, none⟩), .int .i64 (base + i)] w fun e w' => e = .returned (.pointer (some q)) ∧ ∃ n, w' = w.drewN n := by
  have e0 : (0 : Int) < (k : Int) := by omega
  have e1 : (i : Int) < (k : Int) := by omega
  have e2 : base + (i : Int) - base = (i : Int) := by omega
  go_enter Yba.func13, Yba.ntmps13
  go_wp2
  go_quiet (fail)
  go_wp2
  go_ret
  exact ⟨rfl, _, rfl⟩

set_option maxHeartbeats 400000 in
theorem merged_none (bn : Nat) (ao : Option Addr) (c : Nat) (w : World) 
    (hbm : w.cell? ⟨bn, 21, none⟩ = some (.slice ao 0 c)) :
    Calls Yba.prog 8 #[.pointer (some ⟨bn, 0, none⟩)] w fun e w' => e = .returned (.pointer none) ∧ w' = w := by
  go_enter Yba.func8, Yba.ntmps8
  go_wp2
  go_ret
  exact ⟨rfl, rfl⟩

set_option maxHeartbeats 400000 in
theorem merged_some (bn bc b0 bm : Nat) (k i m : Nat) (base : Int) (q : Addr) (w : World) (hb1 : -2147483648 ≤ base) (hb2 : base ≤ 2147483647) (hk : k ≤ 1025) (hik : i < k) (hm : m ≤ 1024)
    (hch : w.cell? ⟨bn, 8, none⟩ = some (.slice (some ⟨bc, 0, none⟩) k k))
    (h0 : w.cell? ⟨bc, 0, none⟩ = some (.pointer (some ⟨b0, 0, none⟩)))
    (hh : w.cell? ⟨b0, 2, none⟩ = some (.int .i64 base))
    (hi : w.cell? ⟨bc, i, none⟩ = some (.pointer (some q)))
    (hbm : w.cell? ⟨bn, 21, none⟩ = some (.slice (some ⟨bm, 0, none⟩) (m + 1) (m + 1)))
    (hl : w.cell? ⟨bm, m * 7, none⟩ = some (.int .i64 (base + i))) :
    Calls Yba.prog 8 #[.pointer (some ⟨bn, 0, none⟩)] w fun e w' => e = .returned (.pointer (some q)) ∧ ∃ n, w' = w.drewN n := by
  have hat := fun n => at_any bn bc b0 k i base q (w.drewN n) hb1 hb2 hk hik (by simpa using hch) (by simpa using h0) (by simpa using hh) (by simpa using hi)
  go_enter Yba.func8, Yba.ntmps8
  go_wp2
  have e3 : (m : Int) + 1 - 1 = (m : Int) := by omega
  have e4 : IntKind.i64.wrap (m : Int) = (m : Int) := by rw [IntKind.wrap_i64]; omega
  have e5 : (m : Int) < (m : Int) + 1 := by omega
  go_quiet ((go_at_call 13; exact Calls.quiet_of (hat _)))
  go_wp2
  go_ret
  exact ⟨rfl, _, rfl⟩
end Go.Proofs.Ybulkcjwq.lawS4293BNewest
