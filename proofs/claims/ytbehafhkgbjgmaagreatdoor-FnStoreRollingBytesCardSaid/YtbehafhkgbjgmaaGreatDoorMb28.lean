/-
  The store's doors: limits, a new store, the clock, the fast state. No condition beyond the store's own.
-/
import Derived.Test.YtbehafhkgbjgmaaGreatDoorMb05
import Derived.Test.YtbehafhkgbjgmaaGreatDoorMb18
namespace Go.Proofs.YtbehafhkgbjgmaaGreatDoor
open Go Go.RowKit
set_option maxRecDepth 100000

def cfgCells (m n : Nat) : Array Value := #[.string (str []), .slice none 0 0, .int .i64 m, .int .i64 n, .int .i64 0, .int .i64 0, .bool false, .int .u64 0]
def confAgg (m n : Nat) : Value := .agg #[.int .i64 m, .int .i64 n, .int .i64 0, .bool false, .bool false, .int .u64 0]

theorem mkmap (W : World) : (Instr.makeMap 85 none).run Tryz.prog W = .ok (.map (some W.heap.size)) (W.alloc (.map #[] 0)) := rfl
set_option maxHeartbeats 1000000 in
theorem limits23 (m n : Nat) (w : World) : Calls Tryz.prog 23 #[confAgg m n] w fun e w' => ∃ b, e = .returned (.pointer (some ⟨b, 0, none⟩)) ∧ w.heap.size ≤ b ∧ Blk w' b (cfgCells m n) 69 ∧ Ext w w' := by
  unfold confAgg
  go_enter Tryz.func23, Tryz.ntmps23
  go_wp2_with fail
  go_ret
  exact ⟨_, rfl, by simp, Blk.newAt (by simp), ((Kp.refl _ _).alloc _).alloc _⟩

theorem one41 (v : Value) (k : Int) (h : (v = .nilIface ∧ k = 0) ∨ (∃ t x, v = .iface t x) ∧ k = 1) (w : World) : Calls Tryz.prog 41 #[v] w fun e w' => e = .returned (.int .i64 k) ∧ w = w' := by
  rcases h with ⟨rfl, rfl⟩ | ⟨⟨t, x, rfl⟩, rfl⟩
  · go_enter Tryz.func41, Tryz.ntmps41
    go_wp2_with fail
    go_ret
    exact ⟨rfl, rfl⟩
  · go_enter Tryz.func41, Tryz.ntmps41
    go_wp2_with fail
    go_ret
    exact ⟨rfl, rfl⟩

theorem clock24 (ms : Nat) (s : Sto) (t : Int) (w : World) (hB : Blk w ms s.cells 91) : Calls Tryz.prog 24 #[.pointer (some ⟨ms, 0, none⟩), .int .i64 t] w fun e w' => e = .returned (.tuple #[]) ∧ Blk w' ms { s with clock := t }.cells 91 ∧ Kp (· = ms) w w' := by
  have c32 : w.cell? ⟨ms, 32, none⟩ = some (.int .i64 s.clock) := hB.cell 32
  have f32 : w.frozen? ⟨ms, 32, none⟩ = false := hB.frozen 32
  go_enter Tryz.func24, Tryz.ntmps24
  go_wp2_with fail
  go_end0
  exact ⟨rfl, hB.set 32 _, Kp.setCell (F := (· = ms)) (Kp.refl _ _) (.inl rfl) _⟩

set_option maxHeartbeats 2000000 in
theorem new62 (m n b : Nat) (w : World) (hB : Blk w b (cfgCells m n) 69) :
    Calls Tryz.prog 62 #[.pointer (some ⟨b, 0, none⟩)] w fun e w' => ∃ ms r tb, e = .returned (.tuple #[.pointer (some ⟨ms, 0, none⟩), .nilIface]) ∧ w.heap.size ≤ ms ∧ w.heap.size ≤ r ∧ w.heap.size ≤ tb ∧ Ext w w' ∧
      Blk w' ms (Sto.cells ⟨0, 0, m, n, 0, 0, 0, 0, 0, 0, r, tb, .pointer none, 0, 0, 0⟩) 91 ∧ MapAt w' r [] ∧ Tr w' tb (fun _ => none) (fun _ => False) := by
  have c0 : w.cell? ⟨b, 0, none⟩ = some (.string (str [])) := hB.cell 0
  have c1 : w.cell? ⟨b, 1, none⟩ = some (.slice none 0 0) := hB.cell 1
  have c2 : w.cell? ⟨b, 2, none⟩ = some (.int .i64 m) := hB.cell 2
  have c3 : w.cell? ⟨b, 3, none⟩ = some (.int .i64 n) := hB.cell 3
  have c4 : w.cell? ⟨b, 4, none⟩ = some (.int .i64 0) := hB.cell 4
  have c5 : w.cell? ⟨b, 5, none⟩ = some (.int .i64 0) := hB.cell 5
  have c6 : w.cell? ⟨b, 6, none⟩ = some (.bool false) := hB.cell 6
  have c7 : w.cell? ⟨b, 7, none⟩ = some (.int .u64 0) := hB.cell 7
  have HB := Lib.hid hB
  clear hB
  have hmk := mkmap
  go_enter Tryz.func62, Tryz.ntmps62
  go_wp2_with fail
  have hbl := HB.out.lt
  have hal : ∀ k, (w.drew.alloc (.map #[] 0)).cell? ⟨b, k, none⟩ = w.cell? ⟨b, k, none⟩ := fun k => World.cell?_of_block (w := w) (Below.heap_alloc _ _ _ hbl)
  have a0 : (w.drew.alloc (.map #[] 0)).cell? ⟨b, 0, none⟩ = some (.string (str [])) := (hal _).trans c0
  have a1 : (w.drew.alloc (.map #[] 0)).cell? ⟨b, 1, none⟩ = some (.slice none 0 0) := (hal _).trans c1
  have a2 : (w.drew.alloc (.map #[] 0)).cell? ⟨b, 2, none⟩ = some (.int .i64 m) := (hal _).trans c2
  have a3 : (w.drew.alloc (.map #[] 0)).cell? ⟨b, 3, none⟩ = some (.int .i64 n) := (hal _).trans c3
  have a4 : (w.drew.alloc (.map #[] 0)).cell? ⟨b, 4, none⟩ = some (.int .i64 0) := (hal _).trans c4
  have a5 : (w.drew.alloc (.map #[] 0)).cell? ⟨b, 5, none⟩ = some (.int .i64 0) := (hal _).trans c5
  have a6 : (w.drew.alloc (.map #[] 0)).cell? ⟨b, 6, none⟩ = some (.bool false) := (hal _).trans c6
  have a7 : (w.drew.alloc (.map #[] 0)).cell? ⟨b, 7, none⟩ = some (.int .u64 0) := (hal _).trans c7
  clear hal
  go_region_with (go_at_call 117; refine (new117 _).mono ?_; rintro e w1 ⟨tb, htb, rfl, hT, hX⟩; have HT := Lib.hid hT; have HX : Hid (Ext w w1) := Lib.hid (by first | exact Kp.undrew hX | exact (((Kp.refl _ _).drew).alloc _).trans hX fun _ _ h => h); have HXA := Lib.hid hX; clear hT hX; have d0 : w1.cell? ⟨b, 0, none⟩ = some (.string (str [])) := (HX.out.cell id hbl).trans c0; have d1 : w1.cell? ⟨b, 1, none⟩ = some (.slice none 0 0) := (HX.out.cell id hbl).trans c1; have d2 : w1.cell? ⟨b, 2, none⟩ = some (.int .i64 m) := (HX.out.cell id hbl).trans c2; have d3 : w1.cell? ⟨b, 3, none⟩ = some (.int .i64 n) := (HX.out.cell id hbl).trans c3; have d4 : w1.cell? ⟨b, 4, none⟩ = some (.int .i64 0) := (HX.out.cell id hbl).trans c4; have d5 : w1.cell? ⟨b, 5, none⟩ = some (.int .i64 0) := (HX.out.cell id hbl).trans c5; have d6 : w1.cell? ⟨b, 6, none⟩ = some (.bool false) := (HX.out.cell id hbl).trans c6; have d7 : w1.cell? ⟨b, 7, none⟩ = some (.int .u64 0) := (HX.out.cell id hbl).trans c7; have g0 : (w1.alloc (.map #[] 0)).cell? ⟨b, 0, none⟩ = some (.string (str [])) := (World.cell?_of_block (w := w1) (Below.heap_alloc _ _ _ (Nat.lt_of_lt_of_le hbl HX.out.size))).trans d0; have g1 : (w1.alloc (.map #[] 0)).cell? ⟨b, 1, none⟩ = some (.slice none 0 0) := (World.cell?_of_block (w := w1) (Below.heap_alloc _ _ _ (Nat.lt_of_lt_of_le hbl HX.out.size))).trans d1; have g2 : (w1.alloc (.map #[] 0)).cell? ⟨b, 2, none⟩ = some (.int .i64 m) := (World.cell?_of_block (w := w1) (Below.heap_alloc _ _ _ (Nat.lt_of_lt_of_le hbl HX.out.size))).trans d2; have g3 : (w1.alloc (.map #[] 0)).cell? ⟨b, 3, none⟩ = some (.int .i64 n) := (World.cell?_of_block (w := w1) (Below.heap_alloc _ _ _ (Nat.lt_of_lt_of_le hbl HX.out.size))).trans d3; have g4 : (w1.alloc (.map #[] 0)).cell? ⟨b, 4, none⟩ = some (.int .i64 0) := (World.cell?_of_block (w := w1) (Below.heap_alloc _ _ _ (Nat.lt_of_lt_of_le hbl HX.out.size))).trans d4; have g5 : (w1.alloc (.map #[] 0)).cell? ⟨b, 5, none⟩ = some (.int .i64 0) := (World.cell?_of_block (w := w1) (Below.heap_alloc _ _ _ (Nat.lt_of_lt_of_le hbl HX.out.size))).trans d5; have g6 : (w1.alloc (.map #[] 0)).cell? ⟨b, 6, none⟩ = some (.bool false) := (World.cell?_of_block (w := w1) (Below.heap_alloc _ _ _ (Nat.lt_of_lt_of_le hbl HX.out.size))).trans d6; have g7 : (w1.alloc (.map #[] 0)).cell? ⟨b, 7, none⟩ = some (.int .u64 0) := (World.cell?_of_block (w := w1) (Below.heap_alloc _ _ _ (Nat.lt_of_lt_of_le hbl HX.out.size))).trans d7)
  all_goals (
    have hb1 := Nat.lt_of_lt_of_le hbl HX.out.size
    have hal7 : ∀ o, (w1.alloc o).cell? ⟨b, 7, none⟩ = some (.int .u64 0) := fun o => (World.cell?_of_block (w := w1) (Below.heap_alloc _ _ _ hb1)).trans d7
    have hal7' : ∀ o o', ((w1.alloc o).alloc o').cell? ⟨b, 7, none⟩ = some (.int .u64 0) := fun o o' => (World.cell?_of_block (w := w1.alloc o) (Below.heap_alloc _ _ _ (by simp only [World.size_alloc]; omega))).trans (hal7 o)
    clear d0 d1 d2 d3 d4 d5 d6 d7 g0 g1 g2 g3 g4 g5 g6 g7 hb1)
  all_goals clear c0 c1 c2 c3 c4 c5 c6 c7 a0 a1 a2 a3 a4 a5 a6 a7
  all_goals go_wp2_with fail
  all_goals go_ret2
  all_goals have hz := HX.out.size
  all_goals have htl := HT.out.lt.1
  all_goals first
    | (have hbt : w.heap.size ≤ tb := by simp at htb; omega
       have hmap : w1.heap[w.heap.size]? = some (.map #[] 0) := (HXA.out.block _ (by simp) id).trans (heap_alloc_new _ _)
       exact ⟨_, _, tb, rfl, hz, Nat.le_refl _, hbt, HX.out.alloc _, Blk.new _ _ _, ⟨#[], 0, (Below.heap_alloc _ _ _ (Array.getElem?_eq_some_iff.1 hmap).1).trans hmap, rfl⟩, HT.out.keep ((Kp.refl (fun _ => False) _).alloc _) id fun _ _ => id⟩)
    | (have hbt : w.heap.size ≤ tb := by simp at htb; omega
       exact ⟨_, _, tb, rfl, by omega, hz, hbt, (HX.out.alloc _).alloc _, Blk.newAt (by simp), ⟨#[], 0, (Below.heap_alloc _ _ _ (by simp)).trans (heap_alloc_new _ _), rfl⟩, (HT.out.keep ((Kp.refl (fun _ => False) _).alloc _) id fun _ _ => id).keep ((Kp.refl (fun _ => False) _).alloc _) id fun _ _ => id⟩)
end Go.Proofs.YtbehafhkgbjgmaaGreatDoor
