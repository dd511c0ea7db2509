import Derived.Test.YbulkcjxeModelA
namespace Go.Proofs.Ybulkcjxe.lawS4294AModel
open Go.RowKit
set_option linter.unusedVariables false

theorem info5 : (Yba.prog.info? 5).map (fun i => (i.zero, i.size, i.bytes)) = some (some (.int .u8 0), 1, 1) := by kernel_rfl

theorem two_new (w : World) (x y : Int) : ∀ (j : Nat) (u : Value), [Value.int .u8 x, .int .u8 y][j]? = some u → (w.alloc (.cells #[.int .u8 x, .int .u8 y] 5)).cell? ((⟨w.heap.size, 0, none⟩ : Addr).add j) = some u := by
  intro j u h
  rw [Addr.add_mid, World.cell?_alloc_at _ _ _ _ rfl]
  match j, h with
  | 0, h => simpa using h
  | 1, h => simpa using h
theorem two_one (x y : Int) : ∀ u ∈ [Value.int .u8 x, .int .u8 y], u.oneCell' = true := by
  intro u hu; simp at hu; rcases hu with rfl | rfl <;> rfl
theorem src_later {w w1 w2 : World} {o : Obj} {a3 : Option Addr} {l : List Value} (hca : ∀ ad, a3 = some ad → ∀ (j : Nat) u, l[j]? = some u → w.cell? (ad.add j) = some u ∧ (ad.add j).block < w.heap.size)
    (hg1 : w.grownBy w1 none) (hg2 : (w1.alloc o).grownBy w2 (some w.heap.size)) : ∀ ad, a3 = some ad → ∀ (j : Nat) u, l[j]? = some u → w2.cell? (ad.add j) = some u := by
  intro ad had j u hu
  obtain ⟨h1, h2⟩ := hca ad had j u hu
  have hb : Below w.heap.size w w2 := (((Below.refl _ _).grown hg1 (Nat.le_refl _) (by simp)).alloc hg1.size _).grown hg2 (by have := hg1.size; simp; omega) (by simp)
  rw [hb.cell h2]; exact h1

theorem own_cells {w3 : World} {N len : Nat} {hi lo : Int} {zs : List Int} (h : w3.ownsRow N 5 1 (.slice (some ⟨N, 0, none⟩) (2 + len) (2 + len)) (2 + len) ([.int .u8 hi, .int .u8 lo] ++ zs.map (Value.int .u8))) (hl : zs.length = len) :
    w3.cell? ⟨N, 0, none⟩ = some (.int .u8 hi) ∧ w3.cell? ⟨N, 0 + 1, none⟩ = some (.int .u8 lo) ∧ ∀ i, i < len → w3.cell? ⟨N, 2 + i, none⟩ = some (.int .u8 (zs.getD i 0)) := by
  refine ⟨?_, ?_, fun i hi => ?_⟩
  · rw [h.cellAt 0 (by omega)]; rfl
  · rw [h.cellAt (0 + 1) (by omega)]; rfl
  · rw [h.cellAt (2 + i) (by omega), List.getElem?_append_right (by simp)]
    simp [List.getD, hl, hi]

set_option maxRecDepth 100000 in
set_option maxHeartbeats 1000000 in
theorem walk_main (h hi lo : Int) (a3 : Option Addr) (cap3 : Nat) (zs : List Int) (w : World) (h0 : 0 ≤ h) (h1 : h ≤ 255) (i0 : 0 ≤ hi) (i1 : hi ≤ 255) (l0 : 0 ≤ lo) (l1 : lo ≤ 255) (hl : zs.length ≤ 1024)
   (hz : ∀ i, 0 ≤ zs.getD i 0 ∧ zs.getD i 0 ≤ 255) (hnil : a3 = none → zs.length = 0 ∧ cap3 = 0)
   (hc : ∀ i, i < zs.length → ∃ b off, a3 = some ⟨b, off, none⟩ ∧ b < w.heap.size ∧ w.cell? ⟨b, off + i, none⟩ = some (.int .u8 (zs.getD i 0)))
   (hca : ∀ ad, a3 = some ad → ∀ j u, (zs.map (Value.int .u8))[j]? = some u → w.cell? (ad.add j) = some u ∧ (ad.add j).block < w.heap.size) :
    Calls Yba.prog 3 #[.int .u8 h, .int .u8 hi, .int .u8 lo, .slice a3 zs.length cap3] w fun e w' => e = .returned (.bool true) ∧ Below w.heap.size w w' := by
  obtain ⟨i5, hi5, hz0, hz1, hz2⟩ := info_parts info5
  generalize hlen : zs.length = len at *
  have HL : Hid (zs.length = len) := hlen
  clear hlen
  go_enter Yba.func3, Yba.ntmps3
  go_wp2_with (first
    | (at_make; refine wpList_make_own _ rfl _ _ 22 rfl w.heap.size 5 i5 (.int .u8 0) 1 Yba.underlying22 hi5 hz0 hz1 .i64 .i64 _ (2 + len) rfl rfl ?_ ?_ ?_ ?_ ?_; (focus push_cast; rfl); (focus (rw [hz2]; omega)); (focus (unfold maxLen; omega)); (focus exact Nat.le_refl _); intro w1 hown1 hg1)
    | (at_builtin; refine wpList_append_fits _ ?_ (.tmp 19) (.tmp 22) 22 ?_ w.heap.size 5 i5 1 Yba.underlying22 hi5 hz1 w.heap.size 0 (2 + len) [] ?_ (hown1.alloc _) ⟨w1.heap.size, 0, none⟩ 2 2 [.int .u8 hi, .int .u8 lo] ?_ ?_ ?_ ?_ ?_ ?_; rfl; rfl; rfl; rfl; rfl; (focus exact two_new _ _ _); (focus exact two_one _ _); (focus omega); intro w2 hown2 hg2; simp only [Nat.zero_add, List.nil_append] at hown2)
    | (at_builtin; refine wpList_append_fits_any _ ?_ (.tmp 24) (.tmp 25) 22 ?_ w.heap.size 5 i5 1 Yba.underlying22 hi5 hz1 w.heap.size 2 (2 + len) [.int .u8 hi, .int .u8 lo] ?_ hown2 a3 len cap3 (zs.map (Value.int .u8)) ?_ ?_ hnil ?_ (ints_oneCell _ _) ?_ ?_; rfl; rfl; rfl; rfl; (focus (rw [List.length_map, HL.out]; omega)); (focus exact src_later hca hg1 hg2); (focus omega); intro w3 hown3 hg3))
  have hb3 : Below w.heap.size w w3 := ((((Below.refl _ _).grown hg1 (Nat.le_refl _) (by simp)).alloc hg1.size _).grown hg2 (by have := hg1.size; simp; omega) (by simp)).grown hg3 (by have := hg1.size; have := hg2.size; simp at this; omega) (by simp)
  obtain ⟨c0, c1, cc⟩ := own_cells hown3 HL.out
  clear hg1 hg2 hg3 hown1 hown2 hown3 hz0 hz1 hz2 hi5 hca hnil
  refine (broken_any w.heap.size 0 (2 + len) (2 + len) h hi lo h0 h1 i0 (by omega) l0 (by omega) w3 (by omega) c0 c1).mono ?_
  rintro e w4 ⟨rfl, hb4⟩
  have hN : w.heap.size < w3.heap.size := World.block_lt_of_cell? w3 _ c0
  have c0' : w4.cell? ⟨w.heap.size, 0, none⟩ = some (.int .u8 hi) := (hb4.cell (p := ⟨w.heap.size, 0, none⟩) hN).trans c0
  have c1' : w4.cell? ⟨w.heap.size, 1, none⟩ = some (.int .u8 lo) := (hb4.cell (p := ⟨w.heap.size, 1, none⟩) hN).trans c1
  have cc' : ∀ i, i < len → w4.cell? ⟨w.heap.size, 2 + i, none⟩ = some (.int .u8 (zs.getD i 0)) := fun i hi => (hb4.cell (p := ⟨w.heap.size, 2 + i, none⟩) hN).trans (cc i hi)
  have hb : Below w.heap.size w w4 := hb3.trans (hb4.mono hb3.size)
  clear c0 c1 cc hb3 hb4
  have HC : Hid (∀ i, i < len → w4.cell? ⟨w.heap.size, 2 + i, none⟩ = some (.int .u8 (zs.getD i 0))) := cc'
  clear cc'
  go_wp2_with (go_at_call 5; refine (model_any h hi lo h0 h1 i0 i1 l0 l1 _).mono ?_; rintro e w' ⟨rfl, rfl⟩)
  go_loopw [11] (fun i wq => ∃ t : Nat, t ≤ len ∧ i = .int .i64 t ∧ ∃ m, wq = w'.drewN m) (fun i _ => len - (intOf i).toNat)
  case atStart => exact ⟨0, Nat.zero_le _, rfl, 0, rfl⟩
  case round =>
    obtain ⟨t, ht, rfl, m, rfl⟩ := hrel
    by_cases hlt : t < len
    · have k1 := HC.out t hlt
      obtain ⟨b, off, rfl, hbw, hcz⟩ := hc t hlt
      have k2 : w'.cell? ⟨b, off + t, none⟩ = some (.int .u8 (zs.getD t 0)) := (hb.cell (p := ⟨b, off + t, none⟩) hbw).trans hcz
      clear hcz
      generalize zs.getD t 0 = zt at *
      have e1 : (t : Int) < (len : Int) := by omega
      have e2 : (2 : Int) + (t : Int) < 2 + (len : Int) := by omega
      have e3 : IntKind.i64.wrap (2 + (t : Int)) = 2 + (t : Int) := by rw [IntKind.wrap_i64]; omega
      have e4 : (2 + (t : Int)).toNat = 2 + t := by omega
      go_wp2
      go_quiet (fail)
      go_wp2
      go_roundw
      case rel => exact ⟨t + 1, by omega, by go_num, _, rfl⟩
      case measure => simp [intOf]; omega
    · go_wp2
      go_ret
      exact ⟨rfl, hb.trans (below_drewN _ _ _)⟩
end Go.Proofs.Ybulkcjxe.lawS4294AModel
