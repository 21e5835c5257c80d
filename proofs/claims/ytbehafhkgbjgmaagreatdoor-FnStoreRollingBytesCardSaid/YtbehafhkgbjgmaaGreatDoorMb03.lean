/-
  A child of an inner node of 4, 10 or 16 goes. No condition beyond what is named.
-/
import Derived.Test.YtbehafhkgbjgmaaGreatDoorMb01
namespace Go.Proofs.YtbehafhkgbjgmaaGreatDoor
open Go Go.RowKit
set_option maxRecDepth 100000

set_option maxHeartbeats 2000000 in
theorem del_k4 (b : Nat) (pre : List UInt8) (n : Nat) (v : Nat → Value) (c : Nat → UInt8) (i : Nat) (w : World) (h : NodeAt w .k4 b pre n v c) (hi : i < n) :
    Calls Tryz.prog 351 #[.pointer (some ⟨b, 0, none⟩), .int .u8 (c i).toNat] w fun e w' => e = .returned (.tuple #[]) ∧
      NodeAt w' .k4 b pre (n - 1) (gone v n i) (gone c n i) ∧ Kp (· = b) w w' := by
  obtain ⟨cs, hB, hC⟩ := h
  have hn : n ≤ 4 := hC.le
  obtain ⟨m, rfl⟩ : ∃ m, n = m + 1 := ⟨n - 1, by omega⟩
  have h5 : w.cell? ⟨b, 5, none⟩ = some (.int .u16 ((m : Int) + 1)) := (hB.cell 5).trans (hC.len.trans (by simp))
  have hk : Hid (∀ j, j < m + 1 → w.cell? ⟨b, 6 + j, none⟩ = some (.int .u8 (c j).toNat)) := fun j hj => (hB.cell _).trans ((hC.key (by simp) j (by simp only [K.cap]; omega)).trans (by rw [if_pos hj]))
  have hv : Hid (∀ j, j < m + 1 → w.cell? ⟨b, j, none⟩ = some (v j)) := fun j hj => (hB.cell _).trans ((hC.child j (by simp only [K.cap]; omega)).trans (by rw [if_pos hj]))
  have f := hB.frozen
  have HB := Lib.hid hB
  have HC := Lib.hid hC
  clear hB hC
  go_enter Tryz.func351, Tryz.ntmps351
  go_wp2
  go_quiet (fail)
  go_wp2
  obtain ⟨w0, hw0⟩ : ∃ w0, w.drewN nq = w0 := ⟨_, rfl⟩
  rw [hw0]
  have h5' : w0.cell? ⟨b, 5, none⟩ = some (.int .u16 ((m : Int) + 1)) := by rw [← hw0]; exact h5
  have f0 : ∀ k, w0.frozen? ⟨b, k, none⟩ = false := by rw [← hw0]; exact f
  have hk0 : Hid (∀ j, j < m + 1 → w0.cell? ⟨b, 6 + j, none⟩ = some (.int .u8 (c j).toNat)) := by rw [← hw0]; exact hk
  have hv0 : Hid (∀ j, j < m + 1 → w0.cell? ⟨b, j, none⟩ = some (v j)) := by rw [← hw0]; exact hv
  have HB0 : Hid (Blk w0 b cs (K.sty .k4)) := by rw [← hw0]; exact HB.out.drewN nq
  have HK0 : Hid (Kp (· = b) w w0) := by rw [← hw0]; exact (Kp.refl _ _).drewN nq
  clear hw0 h5 f hk hv HB
  go_loop [4] (fun s => ∃ j : Nat, j ≤ i ∧ s = .int .u16 j) (fun s => i - (intOf s).toNat)
  case atStart => exact ⟨0, Nat.zero_le _, rfl⟩
  case round =>
    obtain ⟨j, hj, rfl⟩ := hrel
    have hkj := hk0.out j (by omega)
    by_cases hlt : j < i
    · have he' : (((c j).toNat : Int) == ((c i).toNat : Int)) = false := beq_false_bytes fun e => by have := HC.out.inj j i (by omega) hi e; omega
      go_wp2
      go_round
      case rel => exact ⟨j + 1, by omega, by go_num⟩
      case measure => simp [intOf]; omega
    · obtain rfl : j = i := by omega
      have hvj := hv0.out j (by omega)
      by_cases hl : j < m
      · have hkl := hk0.out m (by omega)
        have hvl := hv0.out m (by omega)
        have hm4 : (m : Int) < 4 := by omega
        have hj4 : (j : Int) < 4 := by omega
        obtain ⟨t, y, ety⟩ := HC.out.ifc m (by omega)
        have HE : Hid (v m = .iface t y) := ety
        rw [ety] at hvl
        clear ety
        go_wp2
        go_still_tail 11, (by kernel_rfl)
        go_wp2
        obtain ⟨w1, hw1⟩ : ∃ w1, (w0.setCell ⟨b, 6 + j, none⟩ (.int .u8 (c m).toNat)).drew = w1 := ⟨_, rfl⟩
        rw [hw1]
        have f1 : ∀ k, w1.frozen? ⟨b, k, none⟩ = false := fun k => by rw [← hw1]; simp [f0]
        have g5 : w1.cell? ⟨b, 5, none⟩ = some (.int .u16 ((m : Int) + 1)) := by rw [← hw1]; simp only [World.cell?_drew]; rw [World.cell?_setCell_other _ _ _ _ (by simp; try omega)]; exact h5'
        have gk : w1.cell? ⟨b, 6 + m, none⟩ = some (.int .u8 (c m).toNat) := by rw [← hw1]; simp only [World.cell?_drew]; rw [World.cell?_setCell_other _ _ _ _ (by simp; try omega)]; exact hkl
        have gvj : w1.cell? ⟨b, j, none⟩ = some (v j) := by rw [← hw1]; simp only [World.cell?_drew]; rw [World.cell?_setCell_other _ _ _ _ (by simp; try omega)]; exact hvj
        have gvm : w1.cell? ⟨b, m, none⟩ = some (.iface t y) := by rw [← hw1]; simp only [World.cell?_drew]; rw [World.cell?_setCell_other _ _ _ _ (by simp; try omega)]; exact hvl
        have HB1 : Hid (Blk w1 b (cs.setIfInBounds (6 + j) (.int .u8 (c m).toNat)) (K.sty .k4)) := by rw [← hw1]; exact HB0.out.set _ _
        have HK1 : Hid (Kp (· = b) w w1) := by rw [← hw1]; exact (Kp.setCell (F := (· = b)) HK0.out (.inl rfl) _).drew
        clear hw1 h5' f0 hkj hvj hkl hvl HB0 HK0
        have hne1 : ¬ (j = m) := by omega
        have hne2 : ¬ (m = j) := by omega
        have hne3 : ¬ (m = 5) := by omega
        have hne4 : ¬ (j = 5) := by omega
        have hne5 : ¬ (5 = m) := by omega
        have hne6 : ¬ (5 = j) := by omega
        have hne7 : ∀ x, ¬ (m = 6 + x) := by omega
        have hne8 : ∀ x, ¬ (j = 6 + x) := by omega
        go_still_tail 11, (by kernel_rfl)
        go_wp2
        refine bodyPost_ret (results_none rfl _ _ _) rfl ⟨rfl, ⟨_, (((HB1.out.set _ _).set _ _).set _ _).set _ _, ?_⟩, ?_⟩
        · have := HC.out.delMid (by simp) (i := j) (by omega)
          simp only [Nat.add_sub_cancel, K.cap, HE.out] at this
          exact this
        · exact (Kp.setCell (F := (· = b)) (Kp.setCell (F := (· = b)) (Kp.setCell (F := (· = b)) (Kp.setCell (F := (· = b)) HK1.out (.inl rfl) _) (.inl rfl) _) (.inl rfl) _) (.inl rfl) _).drew
      · obtain rfl : j = m := by omega
        have hne4 : ¬ (j = 5) := by omega
        have hne6 : ¬ (5 = j) := by omega
        have hne8 : ∀ x, ¬ (j = 6 + x) := by omega
        go_wp2
        refine bodyPost_ret (results_none rfl _ _ _) rfl ⟨rfl, ⟨_, ((HB0.out.set _ _).set _ _).set _ _, ?_⟩, ?_⟩
        · have := HC.out.delLast (by simp) (by omega)
          simp only [Nat.add_sub_cancel, K.cap] at this
          exact this
        · exact Kp.setCell (F := (· = b)) (Kp.setCell (F := (· = b)) (Kp.setCell (F := (· = b)) HK0.out (.inl rfl) _) (.inl rfl) _) (.inl rfl) _

set_option maxHeartbeats 2000000 in
theorem del_k10 (b : Nat) (pre : List UInt8) (n : Nat) (v : Nat → Value) (c : Nat → UInt8) (i : Nat) (w : World) (h : NodeAt w .k10 b pre n v c) (hi : i < n) :
    Calls Tryz.prog 361 #[.pointer (some ⟨b, 0, none⟩), .int .u8 (c i).toNat] w fun e w' => e = .returned (.tuple #[]) ∧
      NodeAt w' .k10 b pre (n - 1) (gone v n i) (gone c n i) ∧ Kp (· = b) w w' := by
  obtain ⟨cs, hB, hC⟩ := h
  have hn : n ≤ 10 := hC.le
  obtain ⟨m, rfl⟩ : ∃ m, n = m + 1 := ⟨n - 1, by omega⟩
  have h5 : w.cell? ⟨b, 11, none⟩ = some (.int .u16 ((m : Int) + 1)) := (hB.cell 11).trans (hC.len.trans (by simp))
  have hk : Hid (∀ j, j < m + 1 → w.cell? ⟨b, 12 + j, none⟩ = some (.int .u8 (c j).toNat)) := fun j hj => (hB.cell _).trans ((hC.key (by simp) j (by simp only [K.cap]; omega)).trans (by rw [if_pos hj]))
  have hv : Hid (∀ j, j < m + 1 → w.cell? ⟨b, j, none⟩ = some (v j)) := fun j hj => (hB.cell _).trans ((hC.child j (by simp only [K.cap]; omega)).trans (by rw [if_pos hj]))
  have f := hB.frozen
  have HB := Lib.hid hB
  have HC := Lib.hid hC
  clear hB hC
  go_enter Tryz.func361, Tryz.ntmps361
  go_wp2
  go_quiet (fail)
  go_wp2
  obtain ⟨w0, hw0⟩ : ∃ w0, w.drewN nq = w0 := ⟨_, rfl⟩
  rw [hw0]
  have h5' : w0.cell? ⟨b, 11, none⟩ = some (.int .u16 ((m : Int) + 1)) := by rw [← hw0]; exact h5
  have f0 : ∀ k, w0.frozen? ⟨b, k, none⟩ = false := by rw [← hw0]; exact f
  have hk0 : Hid (∀ j, j < m + 1 → w0.cell? ⟨b, 12 + j, none⟩ = some (.int .u8 (c j).toNat)) := by rw [← hw0]; exact hk
  have hv0 : Hid (∀ j, j < m + 1 → w0.cell? ⟨b, j, none⟩ = some (v j)) := by rw [← hw0]; exact hv
  have HB0 : Hid (Blk w0 b cs (K.sty .k10)) := by rw [← hw0]; exact HB.out.drewN nq
  have HK0 : Hid (Kp (· = b) w w0) := by rw [← hw0]; exact (Kp.refl _ _).drewN nq
  clear hw0 h5 f hk hv HB
  go_loop [4] (fun s => ∃ j : Nat, j ≤ i ∧ s = .int .u16 j) (fun s => i - (intOf s).toNat)
  case atStart => exact ⟨0, Nat.zero_le _, rfl⟩
  case round =>
    obtain ⟨j, hj, rfl⟩ := hrel
    have hkj := hk0.out j (by omega)
    by_cases hlt : j < i
    · have he' : (((c j).toNat : Int) == ((c i).toNat : Int)) = false := beq_false_bytes fun e => by have := HC.out.inj j i (by omega) hi e; omega
      go_wp2
      go_round
      case rel => exact ⟨j + 1, by omega, by go_num⟩
      case measure => simp [intOf]; omega
    · obtain rfl : j = i := by omega
      have hvj := hv0.out j (by omega)
      by_cases hl : j < m
      · have hkl := hk0.out m (by omega)
        have hvl := hv0.out m (by omega)
        have hm4 : (m : Int) < 10 := by omega
        have hj4 : (j : Int) < 10 := by omega
        obtain ⟨t, y, ety⟩ := HC.out.ifc m (by omega)
        have HE : Hid (v m = .iface t y) := ety
        rw [ety] at hvl
        clear ety
        go_wp2
        go_still_tail 11, (by kernel_rfl)
        go_wp2
        obtain ⟨w1, hw1⟩ : ∃ w1, (w0.setCell ⟨b, 12 + j, none⟩ (.int .u8 (c m).toNat)).drew = w1 := ⟨_, rfl⟩
        rw [hw1]
        have f1 : ∀ k, w1.frozen? ⟨b, k, none⟩ = false := fun k => by rw [← hw1]; simp [f0]
        have g5 : w1.cell? ⟨b, 11, none⟩ = some (.int .u16 ((m : Int) + 1)) := by rw [← hw1]; simp only [World.cell?_drew]; rw [World.cell?_setCell_other _ _ _ _ (by simp; try omega)]; exact h5'
        have gk : w1.cell? ⟨b, 12 + m, none⟩ = some (.int .u8 (c m).toNat) := by rw [← hw1]; simp only [World.cell?_drew]; rw [World.cell?_setCell_other _ _ _ _ (by simp; try omega)]; exact hkl
        have gvj : w1.cell? ⟨b, j, none⟩ = some (v j) := by rw [← hw1]; simp only [World.cell?_drew]; rw [World.cell?_setCell_other _ _ _ _ (by simp; try omega)]; exact hvj
        have gvm : w1.cell? ⟨b, m, none⟩ = some (.iface t y) := by rw [← hw1]; simp only [World.cell?_drew]; rw [World.cell?_setCell_other _ _ _ _ (by simp; try omega)]; exact hvl
        have HB1 : Hid (Blk w1 b (cs.setIfInBounds (12 + j) (.int .u8 (c m).toNat)) (K.sty .k10)) := by rw [← hw1]; exact HB0.out.set _ _
        have HK1 : Hid (Kp (· = b) w w1) := by rw [← hw1]; exact (Kp.setCell (F := (· = b)) HK0.out (.inl rfl) _).drew
        clear hw1 h5' f0 hkj hvj hkl hvl HB0 HK0
        have hne1 : ¬ (j = m) := by omega
        have hne2 : ¬ (m = j) := by omega
        have hne3 : ¬ (m = 11) := by omega
        have hne4 : ¬ (j = 11) := by omega
        have hne5 : ¬ (11 = m) := by omega
        have hne6 : ¬ (11 = j) := by omega
        have hne7 : ∀ x, ¬ (m = 12 + x) := by omega
        have hne8 : ∀ x, ¬ (j = 12 + x) := by omega
        go_still_tail 11, (by kernel_rfl)
        go_wp2
        refine bodyPost_ret (results_none rfl _ _ _) rfl ⟨rfl, ⟨_, (((HB1.out.set _ _).set _ _).set _ _).set _ _, ?_⟩, ?_⟩
        · have := HC.out.delMid (by simp) (i := j) (by omega)
          simp only [Nat.add_sub_cancel, K.cap, HE.out] at this
          exact this
        · exact (Kp.setCell (F := (· = b)) (Kp.setCell (F := (· = b)) (Kp.setCell (F := (· = b)) (Kp.setCell (F := (· = b)) HK1.out (.inl rfl) _) (.inl rfl) _) (.inl rfl) _) (.inl rfl) _).drew
      · obtain rfl : j = m := by omega
        have hne4 : ¬ (j = 11) := by omega
        have hne6 : ¬ (11 = j) := by omega
        have hne8 : ∀ x, ¬ (j = 12 + x) := by omega
        go_wp2
        refine bodyPost_ret (results_none rfl _ _ _) rfl ⟨rfl, ⟨_, ((HB0.out.set _ _).set _ _).set _ _, ?_⟩, ?_⟩
        · have := HC.out.delLast (by simp) (by omega)
          simp only [Nat.add_sub_cancel, K.cap] at this
          exact this
        · exact Kp.setCell (F := (· = b)) (Kp.setCell (F := (· = b)) (Kp.setCell (F := (· = b)) HK0.out (.inl rfl) _) (.inl rfl) _) (.inl rfl) _

set_option maxHeartbeats 2000000 in
theorem del_k16 (b : Nat) (pre : List UInt8) (n : Nat) (v : Nat → Value) (c : Nat → UInt8) (i : Nat) (w : World) (h : NodeAt w .k16 b pre n v c) (hi : i < n) :
    Calls Tryz.prog 370 #[.pointer (some ⟨b, 0, none⟩), .int .u8 (c i).toNat] w fun e w' => e = .returned (.tuple #[]) ∧
      NodeAt w' .k16 b pre (n - 1) (gone v n i) (gone c n i) ∧ Kp (· = b) w w' := by
  obtain ⟨cs, hB, hC⟩ := h
  have hn : n ≤ 16 := hC.le
  obtain ⟨m, rfl⟩ : ∃ m, n = m + 1 := ⟨n - 1, by omega⟩
  have h5 : w.cell? ⟨b, 17, none⟩ = some (.int .u16 ((m : Int) + 1)) := (hB.cell 17).trans (hC.len.trans (by simp))
  have hk : Hid (∀ j, j < m + 1 → w.cell? ⟨b, 18 + j, none⟩ = some (.int .u8 (c j).toNat)) := fun j hj => (hB.cell _).trans ((hC.key (by simp) j (by simp only [K.cap]; omega)).trans (by rw [if_pos hj]))
  have hv : Hid (∀ j, j < m + 1 → w.cell? ⟨b, j, none⟩ = some (v j)) := fun j hj => (hB.cell _).trans ((hC.child j (by simp only [K.cap]; omega)).trans (by rw [if_pos hj]))
  have f := hB.frozen
  have HB := Lib.hid hB
  have HC := Lib.hid hC
  clear hB hC
  go_enter Tryz.func370, Tryz.ntmps370
  go_wp2
  go_quiet (fail)
  go_wp2
  obtain ⟨w0, hw0⟩ : ∃ w0, w.drewN nq = w0 := ⟨_, rfl⟩
  rw [hw0]
  have h5' : w0.cell? ⟨b, 17, none⟩ = some (.int .u16 ((m : Int) + 1)) := by rw [← hw0]; exact h5
  have f0 : ∀ k, w0.frozen? ⟨b, k, none⟩ = false := by rw [← hw0]; exact f
  have hk0 : Hid (∀ j, j < m + 1 → w0.cell? ⟨b, 18 + j, none⟩ = some (.int .u8 (c j).toNat)) := by rw [← hw0]; exact hk
  have hv0 : Hid (∀ j, j < m + 1 → w0.cell? ⟨b, j, none⟩ = some (v j)) := by rw [← hw0]; exact hv
  have HB0 : Hid (Blk w0 b cs (K.sty .k16)) := by rw [← hw0]; exact HB.out.drewN nq
  have HK0 : Hid (Kp (· = b) w w0) := by rw [← hw0]; exact (Kp.refl _ _).drewN nq
  clear hw0 h5 f hk hv HB
  go_loop [4] (fun s => ∃ j : Nat, j ≤ i ∧ s = .int .u16 j) (fun s => i - (intOf s).toNat)
  case atStart => exact ⟨0, Nat.zero_le _, rfl⟩
  case round =>
    obtain ⟨j, hj, rfl⟩ := hrel
    have hkj := hk0.out j (by omega)
    by_cases hlt : j < i
    · have he' : (((c j).toNat : Int) == ((c i).toNat : Int)) = false := beq_false_bytes fun e => by have := HC.out.inj j i (by omega) hi e; omega
      go_wp2
      go_round
      case rel => exact ⟨j + 1, by omega, by go_num⟩
      case measure => simp [intOf]; omega
    · obtain rfl : j = i := by omega
      have hvj := hv0.out j (by omega)
      by_cases hl : j < m
      · have hkl := hk0.out m (by omega)
        have hvl := hv0.out m (by omega)
        have hm4 : (m : Int) < 16 := by omega
        have hj4 : (j : Int) < 16 := by omega
        obtain ⟨t, y, ety⟩ := HC.out.ifc m (by omega)
        have HE : Hid (v m = .iface t y) := ety
        rw [ety] at hvl
        clear ety
        go_wp2
        go_still_tail 11, (by kernel_rfl)
        go_wp2
        obtain ⟨w1, hw1⟩ : ∃ w1, (w0.setCell ⟨b, 18 + j, none⟩ (.int .u8 (c m).toNat)).drew = w1 := ⟨_, rfl⟩
        rw [hw1]
        have f1 : ∀ k, w1.frozen? ⟨b, k, none⟩ = false := fun k => by rw [← hw1]; simp [f0]
        have g5 : w1.cell? ⟨b, 17, none⟩ = some (.int .u16 ((m : Int) + 1)) := by rw [← hw1]; simp only [World.cell?_drew]; rw [World.cell?_setCell_other _ _ _ _ (by simp; try omega)]; exact h5'
        have gk : w1.cell? ⟨b, 18 + m, none⟩ = some (.int .u8 (c m).toNat) := by rw [← hw1]; simp only [World.cell?_drew]; rw [World.cell?_setCell_other _ _ _ _ (by simp; try omega)]; exact hkl
        have gvj : w1.cell? ⟨b, j, none⟩ = some (v j) := by rw [← hw1]; simp only [World.cell?_drew]; rw [World.cell?_setCell_other _ _ _ _ (by simp; try omega)]; exact hvj
        have gvm : w1.cell? ⟨b, m, none⟩ = some (.iface t y) := by rw [← hw1]; simp only [World.cell?_drew]; rw [World.cell?_setCell_other _ _ _ _ (by simp; try omega)]; exact hvl
        have HB1 : Hid (Blk w1 b (cs.setIfInBounds (18 + j) (.int .u8 (c m).toNat)) (K.sty .k16)) := by rw [← hw1]; exact HB0.out.set _ _
        have HK1 : Hid (Kp (· = b) w w1) := by rw [← hw1]; exact (Kp.setCell (F := (· = b)) HK0.out (.inl rfl) _).drew
        clear hw1 h5' f0 hkj hvj hkl hvl HB0 HK0
        have hne1 : ¬ (j = m) := by omega
        have hne2 : ¬ (m = j) := by omega
        have hne3 : ¬ (m = 17) := by omega
        have hne4 : ¬ (j = 17) := by omega
        have hne5 : ¬ (17 = m) := by omega
        have hne6 : ¬ (17 = j) := by omega
        have hne7 : ∀ x, ¬ (m = 18 + x) := by omega
        have hne8 : ∀ x, ¬ (j = 18 + x) := by omega
        go_still_tail 11, (by kernel_rfl)
        go_wp2
        refine bodyPost_ret (results_none rfl _ _ _) rfl ⟨rfl, ⟨_, (((HB1.out.set _ _).set _ _).set _ _).set _ _, ?_⟩, ?_⟩
        · have := HC.out.delMid (by simp) (i := j) (by omega)
          simp only [Nat.add_sub_cancel, K.cap, HE.out] at this
          exact this
        · exact (Kp.setCell (F := (· = b)) (Kp.setCell (F := (· = b)) (Kp.setCell (F := (· = b)) (Kp.setCell (F := (· = b)) HK1.out (.inl rfl) _) (.inl rfl) _) (.inl rfl) _) (.inl rfl) _).drew
      · obtain rfl : j = m := by omega
        have hne4 : ¬ (j = 17) := by omega
        have hne6 : ¬ (17 = j) := by omega
        have hne8 : ∀ x, ¬ (j = 18 + x) := by omega
        go_wp2
        refine bodyPost_ret (results_none rfl _ _ _) rfl ⟨rfl, ⟨_, ((HB0.out.set _ _).set _ _).set _ _, ?_⟩, ?_⟩
        · have := HC.out.delLast (by simp) (by omega)
          simp only [Nat.add_sub_cancel, K.cap] at this
          exact this
        · exact Kp.setCell (F := (· = b)) (Kp.setCell (F := (· = b)) (Kp.setCell (F := (· = b)) HK0.out (.inl rfl) _) (.inl rfl) _) (.inl rfl) _
end Go.Proofs.YtbehafhkgbjgmaaGreatDoor
