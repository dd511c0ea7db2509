import Derived.Test.YbulkcjygRows
import Derived.WalkKit
import Derived.WalkSpells
import Derived.WalkLawsBesides
import Derived.Laws.Pointers
import Derived.Laws.StructEq
import Derived.Laws.EntriesVeiled
import Derived.LaidEqlPtr
import Derived.Deep.QuietTactic
import Derived.BigQuiet
import Derived.Deep.RegionWith
import Derived.Deep.MidRow
import Derived.Deep.OwnRows
import Derived.Carry
namespace Go.Proofs.Ybulkcjyg.Add
open Go.RowKit
set_option linter.unusedVariables false

/-- The key: a held lock. -/
def hkey (t : Addr) (m k : Int) : Value := .agg #[.pointer (some t), .int .u8 m, .int .u8 k]

theorem eqptr {tp te : TypeId} (n : Nat) (hp : Yba.prog.underlying tp = some (.pointer te)) (hi : (Yba.prog.info? te).map (fun i => i.size) = some n) (d : Nat) (a : Addr) (w : World) :
    (Op.equalIn (d + 1) tp (.pointer (some a)) (.pointer (some a))).run Yba.prog w = .ok true w := by
  obtain ⟨i, hi, _⟩ := Option.map_eq_some_iff.1 hi
  simp [Op.equalIn, run_underlying hp, sizeOf, typeInfo, hi, run_sameAddr_same]

theorem eq31 (d : Nat) (m k : Int) (w : World) : (Op.equalIn (d + 2) 31 (.agg #[.int .u8 m, .int .u8 k]) (.agg #[.int .u8 m, .int .u8 k])).run Yba.prog w = .ok true w := by
  have hS : Yba.prog.underlying 31 = some (.struct (Yba.prog.fieldsOf 31)) := by kernel_rfl
  rw [run_equalIn_agg w (d + 1) 31 _ _ hS (by kernel_rfl)]
  simp only [Program.fieldsOf, Yba.underlying31]
  go_simp

theorem eq54 (d : Nat) (a : Addr) (m k : Int) (w : World) : (Op.equalIn (d + 3) 54 (.agg #[.pointer (some a), .int .u8 m, .int .u8 k]) (.agg #[.pointer (some a), .int .u8 m, .int .u8 k])).run Yba.prog w = .ok true w := by
  have hS : Yba.prog.underlying 54 = some (.struct (Yba.prog.fieldsOf 54)) := by kernel_rfl
  have h1 := eqptr 13 Yba.underlying32 (by kernel_rfl) (d + 1) a
  have h2 := eq31 d m k
  rw [run_equalIn_agg w (d + 2) 54 _ _ hS (by kernel_rfl)]
  simp only [Program.fieldsOf, Yba.underlying54]
  go_simp

theorem find54 (a : Addr) (m k : Int) (v : Value) (b : Nat) (w : World) : (Instr.findKey 54 (.agg #[.pointer (some a), .int .u8 m, .int .u8 k]) [⟨.agg #[.pointer (some a), .int .u8 m, .int .u8 k], v, b⟩]).run Yba.prog w = .ok (some (0, v)) w := by
  have h := eq54 9997 a m k w
  simp [Instr.findKey, run_underlying Yba.underlying54, Instr.findNow, Instr.sameNow, Instr.findAsking, Op.equal, Op.maxDepth, h]

theorem check54 (e : Bool) (a : Addr) (m k : Int) (w : World) : (Instr.checkKey e 10000 54 (.agg #[.pointer (some a), .int .u8 m, .int .u8 k])).run Yba.prog w = .ok () w := by
  kernel_rfl

/-- A map that stands in block b with one entry under our key. -/
def OneIn (w : World) (b : Nat) (a : Addr) (m k : Int) (v : Value) : Prop := ∃ born clock, w.heap[b]? = some (.map #[⟨.agg #[.pointer (some a), .int .u8 m, .int .u8 k], v, born⟩] clock)

def setM (w : World) (b : Nat) (o : Obj) : World := { w with heap := w.heap.setIfInBounds b o }
theorem setM_at {w : World} {b : Nat} {o : Obj} (o' : Obj) (h : w.heap[b]? = some o) : (setM w b o').heap[b]? = some o' := by
  have hb := (Array.getElem?_eq_some_iff.1 h).1
  simp [setM, hb]
theorem setM_other (w : World) (b : Nat) (o : Obj) {c : Nat} (h : c ≠ b) : (setM w b o).heap[c]? = w.heap[c]? := by
  simp [setM, Ne.symm h]
theorem setM_size (w : World) (b : Nat) (o : Obj) : (setM w b o).heap.size = w.heap.size := by simp [setM]
theorem setM_below {B b : Nat} {w w1 : World} (h : Below B w w1) (hb : B ≤ b) (o : Obj) : Below B w (setM w1 b o) :=
  h.trans ⟨rfl, rfl, rfl, by rw [setM_size]; exact Nat.le_refl _, fun c hc => setM_other _ _ _ (by omega)⟩

theorem run_lookup {w : World} {b : Nat} {a : Addr} {m k : Int} {v : Value} (h : OneIn w b a m k v) : (Instr.lookup 79 (.map (some b)) (.agg #[.pointer (some a), .int .u8 m, .int .u8 k]) true).run Yba.prog w = .ok (.tuple #[v, .bool true]) w := by
  obtain ⟨born, clock, h⟩ := h
  have h1 := check54 false a m k w
  have h2 := find54 a m k v born w
  simp [Instr.lookup, run_underlying Yba.underlying79, MapKept.run_getObj_map h, h1, h2]

theorem run_update {w : World} {b : Nat} {a : Addr} {m k : Int} {v : Value} (h : OneIn w b a m k v) (v' : Value) : ∃ o, (Instr.mapUpdate 79 (.map (some b)) (.agg #[.pointer (some a), .int .u8 m, .int .u8 k]) v').run Yba.prog w = .ok () (setM w b o) ∧ OneIn (setM w b o) b a m k v' := by
  obtain ⟨born, clock, h⟩ := h
  have h1 := check54 false a m k w
  have h2 := find54 a m k v born w
  have h3 : Instr.sameBits 10000 (.agg #[.pointer (some a), .int .u8 m, .int .u8 k]) (.agg #[.pointer (some a), .int .u8 m, .int .u8 k]) = true := by simp [Instr.sameBits]
  refine ⟨.map #[⟨.agg #[.pointer (some a), .int .u8 m, .int .u8 k], v', born⟩] clock, ?_, born, clock, setM_at _ h⟩
  simp [Instr.mapUpdate, run_underlying Yba.underlying79, MapKept.run_getObj_map h, h1, h2, Instr.keyThatStays, h3, MapKept.run_setObj_map _ h, Array.modify, setM]
  rfl

theorem run_first {w : World} {b : Nat} {a : Addr} {m k : Int} (h : w.heap[b]? = some (.map #[] 0)) (v' : Value) : ∃ o, (Instr.mapUpdate 79 (.map (some b)) (.agg #[.pointer (some a), .int .u8 m, .int .u8 k]) v').run Yba.prog w = .ok () (setM w b o) ∧ OneIn (setM w b o) b a m k v' := by
  have h1 := check54 false a m k w
  refine ⟨.map #[⟨.agg #[.pointer (some a), .int .u8 m, .int .u8 k], v', 0⟩] 1, ?_, 0, 1, setM_at _ h⟩
  simp [Instr.mapUpdate, run_underlying Yba.underlying79, MapKept.run_getObj_map h, h1, Instr.findKey, run_underlying Yba.underlying54, Instr.findNow, MapKept.run_setObj_map _ h, setM]
end Go.Proofs.Ybulkcjyg.Add
