/-
  New inner nodes; one that grows or shrinks to the next kind. No condition beyond what is named.
-/
import Derived.Test.YtbehafhkgbjgmaaGreatDoorMb01
namespace Go.Proofs.YtbehafhkgbjgmaaGreatDoor
open Go Go.RowKit
set_option maxRecDepth 100000

/-- A new node's cells. -/
def zc (k : K) : Array Value := (List.replicate k.cap Value.nilIface ++ [Value.string ⟨#[]⟩, Value.int .u16 0] ++ List.replicate (k.width - k.cap - 2) (Value.int .u8 0)).toArray
theorem zc_cells (k : K) (pre : List UInt8) (v : Nat → Value) (c : Nat → UInt8) : Cells k ((zc k).setIfInBounds k.cap (.string (str pre))) pre 0 v c := by
  have hsz : (zc k).size = k.width := by cases k <;> rfl
  have hw : k.cap + 2 ≤ k.width := by cases k <;> simp [K.cap, K.width]
  refine Cells.bare v c (by simp [hsz]) (fun i hi => ?_) (getSet_same (by omega)) ?_ (fun i hi hi' => ?_)
  · rw [getSet (by omega)]
    simp only [zc, List.getElem?_toArray]
    rw [List.append_assoc, List.getElem?_append_left (by simpa using hi)]
    simp [hi]
  · rw [getSet (by omega)]
    simp only [zc, List.getElem?_toArray]
    rw [List.append_assoc, List.getElem?_append_right (by simp)]
    simp
  · rw [getSet (by omega)]
    simp only [zc, List.getElem?_toArray]
    rw [List.getElem?_append_right (by simp; omega)]
    simp only [List.getElem?_replicate, List.length_append, List.length_replicate, List.length_cons, List.length_nil]
    rw [if_pos (by omega)]
theorem upd_self {α : Type} (f : Nat → α) (i : Nat) : upd f i (f i) = f := by
  funext j
  unfold upd
  split
  · rename_i h; rw [h]
  · rfl
theorem NodeAt.drewN {w : World} {k : K} {b : Nat} {pre : List UInt8} {n : Nat} {v : Nat → Value} {c : Nat → UInt8} (h : NodeAt w k b pre n v c) (m : Nat) : NodeAt (w.drewN m) k b pre n v c := h
theorem NodeAt.drew {w : World} {k : K} {b : Nat} {pre : List UInt8} {n : Nat} {v : Nat → Value} {c : Nat → UInt8} (h : NodeAt w k b pre n v c) : NodeAt w.drew k b pre n v c := h

set_option maxHeartbeats 1000000 in
theorem new_k4 (l : List UInt8) (ao : Option Addr) (cap : Nat) (w : World) (hb : BytesAt w ao l) (hp : Plain ao l) (v : Nat → Value) (c : Nat → UInt8) :
    Calls Tryz.prog 239 #[.slice ao l.length cap] w fun e w' => ∃ b, w.heap.size ≤ b ∧ e = .returned (.pointer (some ⟨b, 0, none⟩)) ∧ NodeAt w' .k4 b l 0 v c ∧ Ext w w' := by
  go_enter Tryz.func239, Tryz.ntmps239
  go_wp2_with fail
  obtain ⟨w1, hw1⟩ : ∃ w1, (w.alloc (.cells #[.nilIface, .nilIface, .nilIface, .nilIface, .string ⟨#[]⟩, .int .u16 0, .int .u8 0, .int .u8 0, .int .u8 0, .int .u8 0] 346)) = w1 := ⟨_, rfl⟩
  rw [hw1]
  have hB : Blk w1 w.heap.size (zc .k4) (K.sty .k4) := by rw [← hw1]; exact Blk.new w _ _
  have hE : Ext w w1 := by rw [← hw1]; exact (Kp.refl _ _).alloc _
  have h4 : w1.cell? ⟨w.heap.size, 4, none⟩ = some (.string ⟨#[]⟩) := by rw [hB.cell]; rfl
  have f4 : w1.frozen? ⟨w.heap.size, 4, none⟩ = false := hB.frozen 4
  have hb1 : BytesAt w1 ao l := by rw [← hw1]; exact hb.alloc _
  clear hw1
  refine ((setPrefix_any w.heap.size 4 _ l ao cap w1 h4 f4 hb1 hp).mono ?_)
  rintro e w2 ⟨rfl, rfl⟩
  go_wp2
  go_ret
  exact ⟨w.heap.size, Nat.le_refl _, rfl, ⟨_, hB.set 4 _, zc_cells .k4 l v c⟩, Kp.setCell hE (.inr (Nat.le_refl _)) _⟩

set_option maxHeartbeats 1000000 in
theorem new_k10 (l : List UInt8) (ao : Option Addr) (cap : Nat) (w : World) (hb : BytesAt w ao l) (hp : Plain ao l) (v : Nat → Value) (c : Nat → UInt8) :
    Calls Tryz.prog 378 #[.slice ao l.length cap] w fun e w' => ∃ b, w.heap.size ≤ b ∧ e = .returned (.pointer (some ⟨b, 0, none⟩)) ∧ NodeAt w' .k10 b l 0 v c ∧ Ext w w' := by
  go_enter Tryz.func378, Tryz.ntmps378
  go_wp2_with fail
  obtain ⟨w1, hw1⟩ : ∃ w1, (w.alloc (.cells #[.nilIface, .nilIface, .nilIface, .nilIface, .nilIface, .nilIface, .nilIface, .nilIface, .nilIface, .nilIface, .string ⟨#[]⟩, .int .u16 0, .int .u8 0, .int .u8 0, .int .u8 0, .int .u8 0, .int .u8 0, .int .u8 0, .int .u8 0, .int .u8 0, .int .u8 0, .int .u8 0] 389)) = w1 := ⟨_, rfl⟩
  rw [hw1]
  have hB : Blk w1 w.heap.size (zc .k10) (K.sty .k10) := by rw [← hw1]; exact Blk.new w _ _
  have hE : Ext w w1 := by rw [← hw1]; exact (Kp.refl _ _).alloc _
  have h4 : w1.cell? ⟨w.heap.size, 10, none⟩ = some (.string ⟨#[]⟩) := by rw [hB.cell]; rfl
  have f4 : w1.frozen? ⟨w.heap.size, 10, none⟩ = false := hB.frozen 10
  have hb1 : BytesAt w1 ao l := by rw [← hw1]; exact hb.alloc _
  clear hw1
  refine ((setPrefix_any w.heap.size 10 _ l ao cap w1 h4 f4 hb1 hp).mono ?_)
  rintro e w2 ⟨rfl, rfl⟩
  go_wp2
  go_ret
  exact ⟨w.heap.size, Nat.le_refl _, rfl, ⟨_, hB.set 10 _, zc_cells .k10 l v c⟩, Kp.setCell hE (.inr (Nat.le_refl _)) _⟩

set_option maxHeartbeats 1000000 in
theorem new_k16 (l : List UInt8) (ao : Option Addr) (cap : Nat) (w : World) (hb : BytesAt w ao l) (hp : Plain ao l) (v : Nat → Value) (c : Nat → UInt8) :
    Calls Tryz.prog 388 #[.slice ao l.length cap] w fun e w' => ∃ b, w.heap.size ≤ b ∧ e = .returned (.pointer (some ⟨b, 0, none⟩)) ∧ NodeAt w' .k16 b l 0 v c ∧ Ext w w' := by
  go_enter Tryz.func388, Tryz.ntmps388
  go_wp2_with fail
  obtain ⟨w1, hw1⟩ : ∃ w1, (w.alloc (.cells #[.nilIface, .nilIface, .nilIface, .nilIface, .nilIface, .nilIface, .nilIface, .nilIface, .nilIface, .nilIface, .nilIface, .nilIface, .nilIface, .nilIface, .nilIface, .nilIface, .string ⟨#[]⟩, .int .u16 0, .int .u8 0, .int .u8 0, .int .u8 0, .int .u8 0, .int .u8 0, .int .u8 0, .int .u8 0, .int .u8 0, .int .u8 0, .int .u8 0, .int .u8 0, .int .u8 0, .int .u8 0, .int .u8 0, .int .u8 0, .int .u8 0] 395)) = w1 := ⟨_, rfl⟩
  rw [hw1]
  have hB : Blk w1 w.heap.size (zc .k16) (K.sty .k16) := by rw [← hw1]; exact Blk.new w _ _
  have hE : Ext w w1 := by rw [← hw1]; exact (Kp.refl _ _).alloc _
  have h4 : w1.cell? ⟨w.heap.size, 16, none⟩ = some (.string ⟨#[]⟩) := by rw [hB.cell]; rfl
  have f4 : w1.frozen? ⟨w.heap.size, 16, none⟩ = false := hB.frozen 16
  have hb1 : BytesAt w1 ao l := by rw [← hw1]; exact hb.alloc _
  clear hw1
  refine ((setPrefix_any w.heap.size 16 _ l ao cap w1 h4 f4 hb1 hp).mono ?_)
  rintro e w2 ⟨rfl, rfl⟩
  go_wp2
  go_ret
  exact ⟨w.heap.size, Nat.le_refl _, rfl, ⟨_, hB.set 16 _, zc_cells .k16 l v c⟩, Kp.setCell hE (.inr (Nat.le_refl _)) _⟩

set_option maxHeartbeats 1000000 in
theorem grow_k4 (b : Nat) (pre : List UInt8) (v : Nat → Value) (c : Nat → UInt8) (w : World) (h : NodeAt w .k4 b pre 4 v c) :
    Calls Tryz.prog 353 #[.pointer (some ⟨b, 0, none⟩)] w fun e w' => ∃ g, w.heap.size ≤ g ∧ e = .returned (.iface 385 (.pointer (some ⟨g, 0, none⟩))) ∧ NodeAt w' .k10 g pre 4 v c ∧ Ext w w' := by
  obtain ⟨cs, hB, hC⟩ := h
  have h16 : w.cell? ⟨b, 4, none⟩ = some (.string (str pre)) := (hB.cell 4).trans hC.pre
  have hlt := hB.lt
  have HB := Lib.hid hB
  have HC := Lib.hid hC
  clear hB hC
  go_enter Tryz.func353, Tryz.ntmps353
  go_wp2_with fail
  go_loopw [4] (fun s wr => ∃ i : Nat, i ≤ 4 ∧ s = .int .i64 i ∧ Hid (NodeAt wr .k10 w.heap.size pre i v c) ∧ Hid (Ext w wr)) (fun s _ => 4 - (intOf s).toNat)
  case atStart =>
    refine ⟨0, by omega, rfl, ⟨_, ?_, zc_cells .k10 pre v c⟩, (Kp.refl _ _).alloc _⟩
    exact Blk.new w _ _
  case round =>
    obtain ⟨i, hi, rfl, HN, HE⟩ := hrel
    by_cases hlt' : i < 4
    · have hB' := HB.out.keep HE.out id
      have hk : wr.cell? ⟨b, 6 + i, none⟩ = some (.int .u8 (c i).toNat) := (hB'.cell _).trans ((HC.out.key (by simp) i hlt').trans (by rw [if_pos hlt']))
      have hv : wr.cell? ⟨b, i, none⟩ = some (v i) := (hB'.cell _).trans ((HC.out.child i hlt').trans (by rw [if_pos hlt']))
      obtain ⟨t, y, ety⟩ := HC.out.ifc i hlt'
      have HV : Hid (v i = .iface t y) := ety
      rw [ety] at hv
      clear ety hB'
      have hi4 : (i : Int) < 4 := by omega
      go_wp2
      go_still_tail 13, (by kernel_rfl)
      go_wp2_with fail
      refine ((add_k10 w.heap.size pre i v c (c i) t y wr.drew HN.out.drew (by omega) (fun j hj e => by have := HC.out.inj j i (by omega) (by omega) e; omega)).mono ?_)
      rintro e w2 ⟨rfl, hN2, hK2⟩
      have HN2 : Hid (NodeAt w2 .k10 w.heap.size pre (i + 1) v c) := by
        rw [← HV.out, upd_self, upd_self] at hN2
        exact hN2
      have HE2 : Hid (Ext w w2) := HE.out.drew.trans hK2 (fun j hj e => by omega)
      clear hN2 hK2 HN HE hk hv
      go_wp2
      go_roundw
      case rel => exact ⟨i + 1, by omega, by go_num, HN2, HE2⟩
      case measure => simp [intOf]; omega
    · obtain rfl : i = 4 := by omega
      go_wp2_with fail
      go_ret
      exact ⟨w.heap.size, Nat.le_refl _, rfl, HN.out, HE.out⟩

set_option maxHeartbeats 1000000 in
theorem grow_k10 (b : Nat) (pre : List UInt8) (v : Nat → Value) (c : Nat → UInt8) (w : World) (h : NodeAt w .k10 b pre 10 v c) :
    Calls Tryz.prog 363 #[.pointer (some ⟨b, 0, none⟩)] w fun e w' => ∃ g, w.heap.size ≤ g ∧ e = .returned (.iface 391 (.pointer (some ⟨g, 0, none⟩))) ∧ NodeAt w' .k16 g pre 10 v c ∧ Ext w w' := by
  obtain ⟨cs, hB, hC⟩ := h
  have h16 : w.cell? ⟨b, 10, none⟩ = some (.string (str pre)) := (hB.cell 10).trans hC.pre
  have hlt := hB.lt
  have HB := Lib.hid hB
  have HC := Lib.hid hC
  clear hB hC
  go_enter Tryz.func363, Tryz.ntmps363
  go_wp2_with fail
  go_loopw [4] (fun s wr => ∃ i : Nat, i ≤ 10 ∧ s = .int .i64 i ∧ Hid (NodeAt wr .k16 w.heap.size pre i v c) ∧ Hid (Ext w wr)) (fun s _ => 10 - (intOf s).toNat)
  case atStart =>
    refine ⟨0, by omega, rfl, ⟨_, ?_, zc_cells .k16 pre v c⟩, (Kp.refl _ _).alloc _⟩
    exact Blk.new w _ _
  case round =>
    obtain ⟨i, hi, rfl, HN, HE⟩ := hrel
    by_cases hlt' : i < 10
    · have hB' := HB.out.keep HE.out id
      have hk : wr.cell? ⟨b, 12 + i, none⟩ = some (.int .u8 (c i).toNat) := (hB'.cell _).trans ((HC.out.key (by simp) i hlt').trans (by rw [if_pos hlt']))
      have hv : wr.cell? ⟨b, i, none⟩ = some (v i) := (hB'.cell _).trans ((HC.out.child i hlt').trans (by rw [if_pos hlt']))
      obtain ⟨t, y, ety⟩ := HC.out.ifc i hlt'
      have HV : Hid (v i = .iface t y) := ety
      rw [ety] at hv
      clear ety hB'
      have hi4 : (i : Int) < 10 := by omega
      go_wp2
      go_still_tail 13, (by kernel_rfl)
      go_wp2_with fail
      refine ((add_k16 w.heap.size pre i v c (c i) t y wr.drew HN.out.drew (by omega) (fun j hj e => by have := HC.out.inj j i (by omega) (by omega) e; omega)).mono ?_)
      rintro e w2 ⟨rfl, hN2, hK2⟩
      have HN2 : Hid (NodeAt w2 .k16 w.heap.size pre (i + 1) v c) := by
        rw [← HV.out, upd_self, upd_self] at hN2
        exact hN2
      have HE2 : Hid (Ext w w2) := HE.out.drew.trans hK2 (fun j hj e => by omega)
      clear hN2 hK2 HN HE hk hv
      go_wp2
      go_roundw
      case rel => exact ⟨i + 1, by omega, by go_num, HN2, HE2⟩
      case measure => simp [intOf]; omega
    · obtain rfl : i = 10 := by omega
      go_wp2_with fail
      go_ret
      exact ⟨w.heap.size, Nat.le_refl _, rfl, HN.out, HE.out⟩

set_option maxHeartbeats 1000000 in
/-- There are too many children: it does not shrink. -/
theorem shrink_k10_no (b : Nat) (pre : List UInt8) (n : Nat) (v : Nat → Value) (c : Nat → UInt8) (w : World) (h : NodeAt w .k10 b pre n v c) (hn : 4 < n) :
    Calls Tryz.prog 367 #[.pointer (some ⟨b, 0, none⟩)] w fun e w' => e = .returned .nilIface ∧ w = w' := by
  obtain ⟨cs, hB, hC⟩ := h
  have h5 : w.cell? ⟨b, 11, none⟩ = some (.int .u16 n) := (hB.cell 11).trans hC.len
  clear hB hC
  go_enter Tryz.func367, Tryz.ntmps367
  go_wp2_with fail
  go_ret
  exact ⟨rfl, rfl⟩

set_option maxHeartbeats 1000000 in
theorem shrink_k10 (b : Nat) (pre : List UInt8) (n : Nat) (v : Nat → Value) (c : Nat → UInt8) (w : World) (h : NodeAt w .k10 b pre n v c) (hn : n ≤ 4) :
    Calls Tryz.prog 367 #[.pointer (some ⟨b, 0, none⟩)] w fun e w' => ∃ g, w.heap.size ≤ g ∧ e = .returned (.iface 316 (.pointer (some ⟨g, 0, none⟩))) ∧ NodeAt w' .k4 g [] n v c ∧ Ext w w' := by
  obtain ⟨cs, hB, hC⟩ := h
  have h5 : w.cell? ⟨b, 11, none⟩ = some (.int .u16 n) := (hB.cell 11).trans hC.len
  have HB := Lib.hid hB
  have HC := Lib.hid hC
  clear hB hC
  go_enter Tryz.func367, Tryz.ntmps367
  go_wp2_with fail
  refine ((new_k4 [] none 0 w (BytesAt.nil w none) ⟨fun _ => rfl, fun _ h => by cases h⟩ v c).mono ?_)
  rintro e w1 ⟨g, hg, rfl, hN1, hE1⟩
  have HN1 := Lib.hid hN1
  have HE1 := Lib.hid hE1
  clear hN1 hE1
  go_wp2_with fail
  go_loopw [4] (fun s wr => ∃ i : Nat, i ≤ n ∧ s = .int .u16 i ∧ Hid (NodeAt wr .k4 g [] i v c) ∧ Hid (Ext w wr)) (fun s _ => n - (intOf s).toNat)
  case atStart => exact ⟨0, by omega, rfl, HN1, HE1⟩
  case round =>
    obtain ⟨i, hi, rfl, HN, HE⟩ := hrel
    have hB' := HB.out.keep HE.out id
    have h5' : wr.cell? ⟨b, 11, none⟩ = some (.int .u16 n) := (hB'.cell 11).trans HC.out.len
    by_cases hlt' : i < n
    · have hk : wr.cell? ⟨b, 12 + i, none⟩ = some (.int .u8 (c i).toNat) := (hB'.cell _).trans ((HC.out.key (by simp) i (by simp only [K.cap]; omega)).trans (by rw [if_pos hlt']))
      have hv : wr.cell? ⟨b, i, none⟩ = some (v i) := (hB'.cell _).trans ((HC.out.child i (by simp only [K.cap]; omega)).trans (by rw [if_pos hlt']))
      obtain ⟨t, y, ety⟩ := HC.out.ifc i hlt'
      have HV : Hid (v i = .iface t y) := ety
      rw [ety] at hv
      clear ety hB'
      have hi4 : (i : Int) < 10 := by omega
      go_wp2
      go_still_tail 13, (by kernel_rfl)
      go_wp2_with fail
      refine ((add_k4 g [] i v c (c i) t y wr.drew HN.out.drew (by omega) (fun j hj e => by have := HC.out.inj j i (by omega) (by omega) e; omega)).mono ?_)
      rintro e w2 ⟨rfl, hN2, hK2⟩
      have HN2 : Hid (NodeAt w2 .k4 g [] (i + 1) v c) := by
        rw [← HV.out, upd_self, upd_self] at hN2
        exact hN2
      have HE2 : Hid (Ext w w2) := HE.out.drew.trans hK2 (fun j hj e => by omega)
      clear hN2 hK2 HN HE hk hv h5'
      go_wp2
      go_roundw
      case rel => exact ⟨i + 1, by omega, by go_num, HN2, HE2⟩
      case measure => simp [intOf]; omega
    · obtain rfl : i = n := by omega
      clear hB'
      go_wp2_with fail
      go_ret
      exact ⟨g, hg, rfl, HN.out, HE.out⟩

set_option maxHeartbeats 1000000 in
/-- There are too many children: it does not shrink. -/
theorem shrink_k16_no (b : Nat) (pre : List UInt8) (n : Nat) (v : Nat → Value) (c : Nat → UInt8) (w : World) (h : NodeAt w .k16 b pre n v c) (hn : 10 < n) :
    Calls Tryz.prog 376 #[.pointer (some ⟨b, 0, none⟩)] w fun e w' => e = .returned .nilIface ∧ w = w' := by
  obtain ⟨cs, hB, hC⟩ := h
  have h5 : w.cell? ⟨b, 17, none⟩ = some (.int .u16 n) := (hB.cell 17).trans hC.len
  clear hB hC
  go_enter Tryz.func376, Tryz.ntmps376
  go_wp2_with fail
  go_ret
  exact ⟨rfl, rfl⟩

set_option maxHeartbeats 1000000 in
theorem shrink_k16 (b : Nat) (pre : List UInt8) (n : Nat) (v : Nat → Value) (c : Nat → UInt8) (w : World) (h : NodeAt w .k16 b pre n v c) (hn : n ≤ 10) :
    Calls Tryz.prog 376 #[.pointer (some ⟨b, 0, none⟩)] w fun e w' => ∃ g, w.heap.size ≤ g ∧ e = .returned (.iface 385 (.pointer (some ⟨g, 0, none⟩))) ∧ NodeAt w' .k10 g [] n v c ∧ Ext w w' := by
  obtain ⟨cs, hB, hC⟩ := h
  have h5 : w.cell? ⟨b, 17, none⟩ = some (.int .u16 n) := (hB.cell 17).trans hC.len
  have HB := Lib.hid hB
  have HC := Lib.hid hC
  clear hB hC
  go_enter Tryz.func376, Tryz.ntmps376
  go_wp2_with fail
  refine ((new_k10 [] none 0 w (BytesAt.nil w none) ⟨fun _ => rfl, fun _ h => by cases h⟩ v c).mono ?_)
  rintro e w1 ⟨g, hg, rfl, hN1, hE1⟩
  have HN1 := Lib.hid hN1
  have HE1 := Lib.hid hE1
  clear hN1 hE1
  go_wp2_with fail
  go_loopw [4] (fun s wr => ∃ i : Nat, i ≤ n ∧ s = .int .u16 i ∧ Hid (NodeAt wr .k10 g [] i v c) ∧ Hid (Ext w wr)) (fun s _ => n - (intOf s).toNat)
  case atStart => exact ⟨0, by omega, rfl, HN1, HE1⟩
  case round =>
    obtain ⟨i, hi, rfl, HN, HE⟩ := hrel
    have hB' := HB.out.keep HE.out id
    have h5' : wr.cell? ⟨b, 17, none⟩ = some (.int .u16 n) := (hB'.cell 17).trans HC.out.len
    by_cases hlt' : i < n
    · have hk : wr.cell? ⟨b, 18 + i, none⟩ = some (.int .u8 (c i).toNat) := (hB'.cell _).trans ((HC.out.key (by simp) i (by simp only [K.cap]; omega)).trans (by rw [if_pos hlt']))
      have hv : wr.cell? ⟨b, i, none⟩ = some (v i) := (hB'.cell _).trans ((HC.out.child i (by simp only [K.cap]; omega)).trans (by rw [if_pos hlt']))
      obtain ⟨t, y, ety⟩ := HC.out.ifc i hlt'
      have HV : Hid (v i = .iface t y) := ety
      rw [ety] at hv
      clear ety hB'
      have hi4 : (i : Int) < 16 := by omega
      go_wp2
      go_still_tail 13, (by kernel_rfl)
      go_wp2_with fail
      refine ((add_k10 g [] i v c (c i) t y wr.drew HN.out.drew (by omega) (fun j hj e => by have := HC.out.inj j i (by omega) (by omega) e; omega)).mono ?_)
      rintro e w2 ⟨rfl, hN2, hK2⟩
      have HN2 : Hid (NodeAt w2 .k10 g [] (i + 1) v c) := by
        rw [← HV.out, upd_self, upd_self] at hN2
        exact hN2
      have HE2 : Hid (Ext w w2) := HE.out.drew.trans hK2 (fun j hj e => by omega)
      clear hN2 hK2 HN HE hk hv h5'
      go_wp2
      go_roundw
      case rel => exact ⟨i + 1, by omega, by go_num, HN2, HE2⟩
      case measure => simp [intOf]; omega
    · obtain rfl : i = n := by omega
      clear hB'
      go_wp2_with fail
      go_ret
      exact ⟨g, hg, rfl, HN.out, HE.out⟩

/-- More than one child: it does not shrink. -/
theorem shrink_k4_no (b : Nat) (pre : List UInt8) (n : Nat) (v : Nat → Value) (c : Nat → UInt8) (w : World) (h : NodeAt w .k4 b pre n v c) (hn : 1 < n) :
    Calls Tryz.prog 357 #[.pointer (some ⟨b, 0, none⟩)] w fun e w' => e = .returned .nilIface ∧ w = w' := by
  obtain ⟨cs, hB, hC⟩ := h
  have h5 : w.cell? ⟨b, 5, none⟩ = some (.int .u16 n) := (hB.cell 5).trans hC.len
  have hb : ((n : Int) == 1) = false := by rw [beq_eq_false_iff_ne]; omega
  clear hB hC
  go_enter Tryz.func357, Tryz.ntmps357
  go_wp2_with fail
  go_ret
  exact ⟨rfl, rfl⟩
/-- One child: that child. -/
theorem shrink_k4 (b : Nat) (pre : List UInt8) (v : Nat → Value) (c : Nat → UInt8) (w : World) (h : NodeAt w .k4 b pre 1 v c) :
    Calls Tryz.prog 357 #[.pointer (some ⟨b, 0, none⟩)] w fun e w' => e = .returned (v 0) ∧ w = w' := by
  obtain ⟨cs, hB, hC⟩ := h
  have h5 : w.cell? ⟨b, 5, none⟩ = some (.int .u16 1) := (hB.cell 5).trans hC.len
  have hv : w.cell? ⟨b, 0, none⟩ = some (v 0) := (hB.cell _).trans ((hC.child 0 (by simp only [K.cap]; omega)).trans (by rw [if_pos (by omega)]))
  clear hB hC
  go_enter Tryz.func357, Tryz.ntmps357
  go_wp2_with fail
  go_ret
  exact ⟨rfl, rfl⟩
end Go.Proofs.YtbehafhkgbjgmaaGreatDoor

/-
  The inner node of 48 children: found, added, gone, grown from one of 16, shrunk to one of 16. No condition beyond what is named.
-/
namespace Go.Proofs.YtbehafhkgbjgmaaGreatDoor
open Go Go.RowKit
set_option maxRecDepth 100000

set_option maxHeartbeats 1000000 in
theorem find_k48 (b : Nat) (pre : List UInt8) (n : Nat) (v : Nat → Value) (c : Nat → UInt8) (ch : UInt8) (w : World) (h : NodeAt w .k48 b pre n v c) :
    Calls Tryz.prog 381 #[.pointer (some ⟨b, 0, none⟩), .int .u8 ch.toNat] w fun e w' => e = .returned (fres b n c ch) ∧ w = w' := by
  obtain ⟨cs, hB, hC⟩ := h
  have hn : n ≤ 48 := hC.le
  have hx := ix_le n c ch
  have hlt := ch.toNat_lt
  have hc256 : (ch.toNat : Int) < 256 := by omega
  obtain ⟨x, hx'⟩ : ∃ x, x = ix n c ch := ⟨_, rfl⟩
  have hk : w.cell? ⟨b, 50 + ch.toNat, none⟩ = some (.int .u8 (x : Int)) := by rw [hx']; exact (hB.cell _).trans (hC.key48 rfl ch)
  rw [← hx'] at hx
  have HR : Hid (fres b n c ch = if x = 0 then .pointer none else .pointer (some ⟨b, x - 1, none⟩)) := by rw [hx']; rfl
  clear hB hC hx'
  by_cases h0 : x = 0
  · subst h0
    go_enter Tryz.func381, Tryz.ntmps381
    go_wp2
    go_ret
    exact ⟨by rw [HR.out, if_pos trivial]; rfl, rfl⟩
  · rw [if_neg h0] at HR
    obtain ⟨m, rfl⟩ : ∃ m, x = m + 1 := ⟨x - 1, by omega⟩
    have hb : (((m + 1 : Nat) : Int) == 0) = false := by rw [beq_eq_false_iff_ne]; omega
    have hm : (m : Int) < 48 := by omega
    go_enter Tryz.func381, Tryz.ntmps381
    go_wp2
    go_ret
    exact ⟨by rw [HR.out]; rfl, rfl⟩

theorem full_k48 (b : Nat) (pre : List UInt8) (n : Nat) (v : Nat → Value) (c : Nat → UInt8) (w : World) (h : NodeAt w .k48 b pre n v c) :
    Calls Tryz.prog 383 #[.pointer (some ⟨b, 0, none⟩)] w fun e w' => e = .returned (.bool (decide (48 ≤ n))) ∧ w = w' := by
  obtain ⟨cs, hB, hC⟩ := h
  have h5 : w.cell? ⟨b, 49, none⟩ = some (.int .u16 n) := (hB.cell 49).trans hC.len
  clear hB hC
  go_enter Tryz.func383, Tryz.ntmps383
  go_wp2
  go_ret
  exact ⟨ret_bool (by simp; omega), rfl⟩

set_option maxHeartbeats 1000000 in
theorem add_k48 (b : Nat) (pre : List UInt8) (n : Nat) (v : Nat → Value) (c : Nat → UInt8) (ch : UInt8) (t : TypeId) (y : Value) (w : World) (h : NodeAt w .k48 b pre n v c) (hn : n < 48) (hnew : ∀ i, i < n → c i ≠ ch) :
    Calls Tryz.prog 377 #[.pointer (some ⟨b, 0, none⟩), .int .u8 ch.toNat, .iface t y] w fun e w' => e = .returned (.tuple #[]) ∧
      NodeAt w' .k48 b pre (n + 1) (upd v n (.iface t y)) (upd c n ch) ∧ Kp (· = b) w w' := by
  obtain ⟨cs, hB, hC⟩ := h
  have hC' := hC.add48 hn ch t y hnew
  have hB' := ((hB.set n (.iface t y)).set (50 + ch.toNat) (.int .u8 ((n + 1 : Nat) : Int))).set 49 (.int .u16 ((n + 1 : Nat) : Int))
  have hlt := ch.toNat_lt
  have hc256 : (ch.toNat : Int) < 256 := by omega
  have h5 : w.cell? ⟨b, 49, none⟩ = some (.int .u16 n) := (hB.cell 49).trans hC.len
  have h7 : w.cell? ⟨b, 50 + ch.toNat, none⟩ = some (.int .u8 (ix n c ch)) := (hB.cell _).trans (hC.key48 rfl ch)
  have h9 : w.cell? ⟨b, n, none⟩ = some .nilIface := (hB.cell _).trans ((hC.child n hn).trans (by rw [if_neg (by omega)]))
  have f := hB.frozen
  have HF := Lib.hid (show NodeAt _ .k48 b pre (n + 1) (upd v n (.iface t y)) (upd c n ch) from ⟨_, hB', hC'⟩)
  clear hB hC hB' hC' hnew
  go_enter Tryz.func377, Tryz.ntmps377
  go_wp2
  go_still_tail 10, (by kernel_rfl)
  go_wp2
  obtain ⟨w1, hw1⟩ : ∃ w1, (w.setCell ⟨b, n, none⟩ (.iface t y)).drew = w1 := ⟨_, rfl⟩
  rw [hw1]
  have f1 : ∀ k, w1.frozen? ⟨b, k, none⟩ = false := fun k => by rw [← hw1]; simp [f]
  have g5 : w1.cell? ⟨b, 49, none⟩ = some (.int .u16 n) := by rw [← hw1]; simp only [World.cell?_drew]; rw [World.cell?_setCell_other _ _ _ _ (by simp; try omega)]; exact h5
  have g9 : w1.cell? ⟨b, 50 + ch.toNat, none⟩ = some (.int .u8 (ix n c ch)) := by rw [← hw1]; simp only [World.cell?_drew]; rw [World.cell?_setCell_other _ _ _ _ (by simp; try omega)]; exact h7
  have HW := Lib.hid hw1
  clear hw1 h5 h7 h9 f
  go_still_tail 12, (by kernel_rfl)
  go_wp2
  go_end0
  have hw := HW.out
  subst hw
  refine ⟨rfl, ?_, ?_⟩
  · obtain ⟨cs', hB', hC'⟩ := HF.out
    exact ⟨cs', hB', hC'⟩
  · exact Kp.setCell (F := (· = b)) (Kp.drew (Kp.setCell (F := (· = b)) (Kp.drew (Kp.setCell (F := (· = b)) (Kp.refl _ _) (.inl rfl) _)) (.inl rfl) _)) (.inl rfl) _

theorem zero399 : Tryz.zeroCells399 = zc .k48 := by kernel_rfl

set_option maxHeartbeats 1000000 in
theorem grow_k16 (b : Nat) (pre : List UInt8) (v : Nat → Value) (c : Nat → UInt8) (w : World) (h : NodeAt w .k16 b pre 16 v c) :
    Calls Tryz.prog 372 #[.pointer (some ⟨b, 0, none⟩)] w fun e w' => ∃ g, w.heap.size ≤ g ∧ e = .returned (.iface 396 (.pointer (some ⟨g, 0, none⟩))) ∧ NodeAt w' .k48 g pre 16 v c ∧ Ext w w' := by
  obtain ⟨cs, hB, hC⟩ := h
  have h16 : w.cell? ⟨b, 16, none⟩ = some (.string (str pre)) := (hB.cell 16).trans hC.pre
  have hlt := hB.lt
  have HB := Lib.hid hB
  have HC := Lib.hid hC
  have hz48 : Tryz.zeroCells399[48]? = some (.string ⟨#[]⟩) := by rw [zero399]; rfl
  clear hB hC
  go_enter Tryz.func372, Tryz.ntmps372
  go_wp2_with fail
  go_loopw [4] (fun s wr => ∃ i : Nat, i ≤ 16 ∧ s = .int .i64 i ∧ Hid (NodeAt wr .k48 w.heap.size pre i v c) ∧ Hid (Ext w wr)) (fun s _ => 16 - (intOf s).toNat)
  case atStart =>
    refine ⟨0, by omega, rfl, ⟨_, ?_, zc_cells .k48 pre v c⟩, ?_⟩
    · rw [zero399]; exact Blk.new w _ _
    · exact (Kp.refl _ _).alloc _
  case round =>
    obtain ⟨i, hi, rfl, HN, HE⟩ := hrel
    clear hz48
    by_cases hlt' : i < 16
    · have hB' := HB.out.keep HE.out id
      have hk : wr.cell? ⟨b, 18 + i, none⟩ = some (.int .u8 (c i).toNat) := (hB'.cell _).trans ((HC.out.key (by simp) i hlt').trans (by rw [if_pos hlt']))
      have hv : wr.cell? ⟨b, i, none⟩ = some (v i) := (hB'.cell _).trans ((HC.out.child i hlt').trans (by rw [if_pos hlt']))
      obtain ⟨t, y, ety⟩ := HC.out.ifc i hlt'
      have HV : Hid (v i = .iface t y) := ety
      rw [ety] at hv
      clear ety hB'
      have hi4 : (i : Int) < 16 := by omega
      go_wp2
      go_still_tail 13, (by kernel_rfl)
      go_wp2_with fail
      refine ((add_k48 w.heap.size pre i v c (c i) t y wr.drew HN.out.drew (by omega) (fun j hj e => by have := HC.out.inj j i (by omega) (by omega) e; omega)).mono ?_)
      rintro e w2 ⟨rfl, hN2, hK2⟩
      have HN2 : Hid (NodeAt w2 .k48 w.heap.size pre (i + 1) v c) := by
        rw [← HV.out, upd_self, upd_self] at hN2
        exact hN2
      have HE2 : Hid (Ext w w2) := HE.out.drew.trans hK2 (fun j hj e => by omega)
      clear hN2 hK2 HN HE hk hv
      go_wp2
      go_roundw
      case rel => exact ⟨i + 1, by omega, by go_num, HN2, HE2⟩
      case measure => simp [intOf]; omega
    · obtain rfl : i = 16 := by omega
      go_wp2_with fail
      go_ret
      exact ⟨w.heap.size, Nat.le_refl _, rfl, HN.out, HE.out⟩

/-- Too many children: it does not shrink. -/
theorem shrink_k48_no (b : Nat) (pre : List UInt8) (n : Nat) (v : Nat → Value) (c : Nat → UInt8) (w : World) (h : NodeAt w .k48 b pre n v c) (hn : 16 < n) :
    Calls Tryz.prog 386 #[.pointer (some ⟨b, 0, none⟩)] w fun e w' => e = .returned .nilIface ∧ w = w' := by
  obtain ⟨cs, hB, hC⟩ := h
  have h5 : w.cell? ⟨b, 49, none⟩ = some (.int .u16 n) := (hB.cell 49).trans hC.len
  clear hB hC
  go_enter Tryz.func386, Tryz.ntmps386
  go_wp2_with fail
  go_ret
  exact ⟨rfl, rfl⟩

set_option maxHeartbeats 2000000 in
theorem del_k48 (b : Nat) (pre : List UInt8) (n : Nat) (v : Nat → Value) (c : Nat → UInt8) (i : Nat) (w : World) (h : NodeAt w .k48 b pre n v c) (hi : i < n) :
    Calls Tryz.prog 380 #[.pointer (some ⟨b, 0, none⟩), .int .u8 (c i).toNat] w fun e w' => e = .returned (.tuple #[]) ∧
      NodeAt w' .k48 b pre (n - 1) (gone v n i) (gone c n i) ∧ Kp (· = b) w w' := by
  obtain ⟨cs, hB, hC⟩ := h
  have hn : n ≤ 48 := hC.le
  obtain ⟨m, rfl⟩ : ∃ m, n = m + 1 := ⟨n - 1, by omega⟩
  have h5 : w.cell? ⟨b, 49, none⟩ = some (.int .u16 ((m : Int) + 1)) := (hB.cell 49).trans (hC.len.trans (by simp))
  have hci := (c i).toNat_lt
  have hcm := (c m).toNat_lt
  have hki : w.cell? ⟨b, 50 + (c i).toNat, none⟩ = some (.int .u8 ((i : Int) + 1)) := (hB.cell _).trans ((hC.key48 rfl (c i)).trans (by rw [ix_hit hC.inj hi]; simp))
  have hvi : w.cell? ⟨b, i, none⟩ = some (v i) := (hB.cell _).trans ((hC.child i (by simp only [K.cap]; omega)).trans (by rw [if_pos hi]))
  have hvm : w.cell? ⟨b, m, none⟩ = some (v m) := (hB.cell _).trans ((hC.child m (by simp only [K.cap]; omega)).trans (by rw [if_pos (by omega)]))
  have hi256 : ((c i).toNat : Int) < 256 := by omega
  have hi48 : (i : Int) < 48 := by omega
  have hm48 : (m : Int) < 48 := by omega
  have hne0 : (((i : Int) + 1) == 0) = false := by rw [beq_eq_false_iff_ne]; omega
  have f := hB.frozen
  have HB := Lib.hid hB
  have HC := Lib.hid hC
  obtain ⟨t, y, ety⟩ := hC.ifc m (by omega)
  have HV : Hid (v m = .iface t y) := ety
  rw [ety] at hvm
  clear hB hC ety
  by_cases hl : i < m
  · go_enter Tryz.func380, Tryz.ntmps380
    go_wp2
    go_still_tail 11, (by kernel_rfl)
    go_wp2
    obtain ⟨w1, hw1⟩ : ∃ w1, (w.setCell ⟨b, i, none⟩ (.iface t y)).drew = w1 := ⟨_, rfl⟩
    rw [hw1]
    have HB1 : Hid (Blk w1 b (cs.setIfInBounds i (.iface t y)) (K.sty .k48)) := by rw [← hw1]; exact HB.out.set _ _
    have HK1 : Hid (Kp (· = b) w w1) := by rw [← hw1]; exact (Kp.setCell (F := (· = b)) (Kp.refl _ _) (.inl rfl) _).drew
    have f1 := HB1.out.frozen
    have g5 : w1.cell? ⟨b, 49, none⟩ = some (.int .u16 ((m : Int) + 1)) := (HB1.out.cell _).trans ((getSet (by omega)).trans (HC.out.len.trans (by simp)))
    have gvm : w1.cell? ⟨b, m, none⟩ = some (.iface t y) := (HB1.out.cell _).trans ((getSet (by omega)).trans ((HC.out.child m (by simp only [K.cap]; omega)).trans (by rw [if_pos (by omega), HV.out])))
    have gki : w1.cell? ⟨b, 50 + (c i).toNat, none⟩ = some (.int .u8 ((i : Int) + 1)) := (HB1.out.cell _).trans ((getSet (by omega)).trans ((HC.out.key48 rfl (c i)).trans (by rw [ix_hit HC.out.inj hi]; simp)))
    have HX : Hid (∀ j, j < 256 → w1.cell? ⟨b, 50 + j, none⟩ = some (.int .u8 (ix (m + 1) c (UInt8.ofNat j)))) := fun j hj => by
      have e : (UInt8.ofNat j).toNat = j := by simp; omega
      have := HC.out.key48 rfl (UInt8.ofNat j)
      rw [e] at this
      exact (HB1.out.cell _).trans ((getSet (by omega)).trans this)
    clear hw1 h5 f hki hvi hvm HB
    go_loop [6] (fun s => ∃ j : Nat, j ≤ (c m).toNat ∧ s = .int .i64 j) (fun s => (c m).toNat - (intOf s).toNat)
    case atStart => exact ⟨0, Nat.zero_le _, rfl⟩
    case round =>
      obtain ⟨j, hj, rfl⟩ := hrel
      have hj256 : (j : Int) < 256 := by omega
      have hkj := HX.out j (by omega)
      have ej : (UInt8.ofNat j).toNat = j := by simp; omega
      by_cases hlt : j < (c m).toNat
      · have hne : ((ix (m + 1) c (UInt8.ofNat j) : Int) == (m : Int) + 1) = false := by
          rw [beq_eq_false_iff_ne]
          intro e
          have h0 : ix (m + 1) c (UInt8.ofNat j) ≠ 0 := by omega
          have := (ix_pos h0).2
          rw [show ix (m + 1) c (UInt8.ofNat j) - 1 = m by omega] at this
          rw [this] at hlt
          omega
        clear ej
        go_wp2
        go_round
        case rel => exact ⟨j + 1, by omega, by go_num⟩
        case measure => simp [intOf]; omega
      · obtain rfl : j = (c m).toNat := by omega
        rw [show UInt8.ofNat (c m).toNat = c m by simp, ix_hit HC.out.inj (by omega)] at hkj
        have hkj' : w1.cell? ⟨b, 50 + (c m).toNat, none⟩ = some (.int .u8 ((m : Int) + 1)) := hkj.trans (by simp)
        clear hkj ej
        have hcne : ¬ ((c i).toNat = (c m).toNat) := fun e => by have := HC.out.inj i m hi (by omega) (UInt8.toNat_inj.1 e); omega
        have hcne' : ¬ ((c m).toNat = (c i).toNat) := fun e => hcne e.symm
        have hne3 : ¬ (m = 49) := by omega
        have hne5 : ¬ (49 = m) := by omega
        have hne7 : ∀ x, ¬ (m = 50 + x) := by omega
        have hne9 : ∀ x, ¬ (50 + x = 49) := by omega
        have hne10 : ∀ x, ¬ (50 + x = m) := by omega
        go_wp2
        go_end0
        refine ⟨rfl, ⟨_, (((HB1.out.set _ _).set _ _).set _ _).set _ _, ?_⟩, ?_⟩
        · have := HC.out.delMid48 (i := i) (by omega)
          simp only [Nat.add_sub_cancel, HV.out] at this
          exact this
        · exact Kp.setCell (F := (· = b)) (Kp.setCell (F := (· = b)) (Kp.setCell (F := (· = b)) (Kp.setCell (F := (· = b)) HK1.out (.inl rfl) _) (.inl rfl) _) (.inl rfl) _) (.inl rfl) _
  · obtain rfl : i = m := by omega
    have hne4 : ¬ (i = 49) := by omega
    have hne6 : ¬ (49 = i) := by omega
    have hne8 : ∀ x, ¬ (i = 50 + x) := by omega
    have hne9 : ∀ x, ¬ (50 + x = 49) := by omega
    go_enter Tryz.func380, Tryz.ntmps380
    go_wp2
    go_end0
    refine ⟨rfl, ⟨_, ((HB.out.set _ _).set _ _).set _ _, ?_⟩, ?_⟩
    · have := HC.out.delLast48 (by omega)
      simp only [Nat.add_sub_cancel] at this
      exact this
    · exact Kp.setCell (F := (· = b)) (Kp.setCell (F := (· = b)) (Kp.setCell (F := (· = b)) (Kp.refl _ _) (.inl rfl) _) (.inl rfl) _) (.inl rfl) _
end Go.Proofs.YtbehafhkgbjgmaaGreatDoor

/-
  A node of 48 children that shrinks to one of 16: its children in the order of their bytes. No condition beyond what is named.
-/
namespace Go.Proofs.YtbehafhkgbjgmaaGreatDoor
open Go Go.RowKit
set_option maxRecDepth 100000

/-- How many of the first n bytes are below j. -/
def cntLt (n : Nat) (c : Nat → UInt8) (j : Nat) : Nat :=
  match n with
  | 0 => 0
  | n + 1 => cntLt n c j + if (c n).toNat < j then 1 else 0
theorem cntLt_le : ∀ (n : Nat) (c : Nat → UInt8) (j : Nat), cntLt n c j ≤ n
  | 0, _, _ => Nat.le_refl _
  | n + 1, c, j => by have := cntLt_le n c j; simp only [cntLt]; split <;> omega
theorem cntLt_zero : ∀ (n : Nat) (c : Nat → UInt8), cntLt n c 0 = 0
  | 0, _ => rfl
  | n + 1, c => by simp [cntLt, cntLt_zero n c]
theorem cntLt_all : ∀ (n : Nat) (c : Nat → UInt8), cntLt n c 256 = n
  | 0, _ => rfl
  | n + 1, c => by
    have := (c n).toNat_lt
    simp only [cntLt, cntLt_all n c]
    rw [if_pos (by omega)]
theorem cntLt_succ : ∀ {n : Nat} {c : Nat → UInt8} (_ : ∀ i j, i < n → j < n → c i = c j → i = j) (x : UInt8), cntLt n c (x.toNat + 1) = cntLt n c x.toNat + if ix n c x = 0 then 0 else 1
  | 0, _, _, _ => rfl
  | n + 1, c, inj, x => by
    have ih := cntLt_succ (n := n) (c := c) (fun i j hi hj => inj i j (by omega) (by omega)) x
    simp only [cntLt]
    rw [ih]
    by_cases e : c n = x
    · have h0 : ix n c x = 0 := ix_miss fun i hi e' => by have := inj i n (by omega) (by omega) (e'.trans e.symm); omega
      have h1 : ix (n + 1) c x = n + 1 := by simp [ix, e]
      rw [h0, h1, e]
      simp
    · have : (c n).toNat ≠ x.toNat := fun e' => e (UInt8.toNat_inj.1 e')
      have h1 : ix (n + 1) c x = ix n c x := by simp [ix, e]
      rw [h1]
      have e2 : ((c n).toNat < x.toNat + 1) = ((c n).toNat < x.toNat) := propext ⟨fun _ => by omega, fun _ => by omega⟩
      simp only [e2]
      exact Nat.add_right_comm _ _ _

/-- What the new node holds when the bytes below j have been looked at. -/
def Moved (n : Nat) (v : Nat → Value) (c : Nat → UInt8) (j r : Nat) (v' : Nat → Value) (c' : Nat → UInt8) : Prop :=
  (∀ i, i < r → ∃ k, k < n ∧ c' i = c k ∧ v' i = v k ∧ (c k).toNat < j) ∧ (∀ k, k < n → (c k).toNat < j → ∃ i, i < r ∧ c' i = c k ∧ v' i = v k)

theorem Moved.miss {n : Nat} {v : Nat → Value} {c : Nat → UInt8} {x : UInt8} {r : Nat} {v' : Nat → Value} {c' : Nat → UInt8} (h : Moved n v c x.toNat r v' c') (h0 : ix n c x = 0) : Moved n v c (x.toNat + 1) r v' c' := by
  refine ⟨fun i hi => ?_, fun k hk hlt => ?_⟩
  · obtain ⟨k, hk, e1, e2, hlt⟩ := h.1 i hi
    exact ⟨k, hk, e1, e2, by omega⟩
  · refine h.2 k hk ?_
    have : (c k).toNat ≠ x.toNat := fun e => ix_zero h0 k hk (UInt8.toNat_inj.1 e)
    omega
theorem Moved.hit {n : Nat} {v : Nat → Value} {c : Nat → UInt8} {k : Nat} {r : Nat} {v' : Nat → Value} {c' : Nat → UInt8} (inj : ∀ i j, i < n → j < n → c i = c j → i = j) (hk : k < n) (h : Moved n v c (c k).toNat r v' c') :
    Moved n v c ((c k).toNat + 1) (r + 1) (upd v' r (v k)) (upd c' r (c k)) := by
  refine ⟨fun i hi => ?_, fun m hm hlt => ?_⟩
  · by_cases e : i = r
    · subst e
      exact ⟨k, hk, by rw [upd_same], by rw [upd_same], by omega⟩
    · obtain ⟨m, hm, e1, e2, hlt⟩ := h.1 i (by omega)
      exact ⟨m, hm, by rw [upd_ne _ _ e]; exact e1, by rw [upd_ne _ _ e]; exact e2, by omega⟩
  · by_cases e : (c m).toNat = (c k).toNat
    · have : m = k := inj m k hm hk (UInt8.toNat_inj.1 e)
      subst this
      exact ⟨r, by omega, by rw [upd_same], by rw [upd_same]⟩
    · obtain ⟨i, hi, e1, e2⟩ := h.2 m hm (by omega)
      exact ⟨i, by omega, by rw [upd_ne _ _ (by omega)]; exact e1, by rw [upd_ne _ _ (by omega)]; exact e2⟩

set_option maxHeartbeats 2000000 in
theorem shrink_k48 (b : Nat) (pre : List UInt8) (n : Nat) (v : Nat → Value) (c : Nat → UInt8) (w : World) (h : NodeAt w .k48 b pre n v c) (hn : n ≤ 16) :
    Calls Tryz.prog 386 #[.pointer (some ⟨b, 0, none⟩)] w fun e w' => ∃ g v' c', w.heap.size ≤ g ∧ e = .returned (.iface 391 (.pointer (some ⟨g, 0, none⟩))) ∧ NodeAt w' .k16 g [] n v' c' ∧ Moved n v c 256 n v' c' ∧ Ext w w' := by
  obtain ⟨cs, hB, hC⟩ := h
  have h5 : w.cell? ⟨b, 49, none⟩ = some (.int .u16 n) := (hB.cell 49).trans hC.len
  have HB := Lib.hid hB
  have HC := Lib.hid hC
  clear hB hC
  go_enter Tryz.func386, Tryz.ntmps386
  go_wp2_with fail
  refine ((new_k16 [] none 0 w (BytesAt.nil w none) ⟨fun _ => rfl, fun _ h => by cases h⟩ v c).mono ?_)
  rintro e w1 ⟨g, hg, rfl, hN1, hE1⟩
  have HN1 := Lib.hid hN1
  have HE1 := Lib.hid hE1
  clear hN1 hE1
  go_wp2_with fail
  go_loopw [4, 5] (fun s _ wr => ∃ (j : Nat) (v' : Nat → Value) (c' : Nat → UInt8), j ≤ 256 ∧ s = .int .i64 j ∧ Hid (NodeAt wr .k16 g [] (cntLt n c j) v' c') ∧ Hid (Moved n v c j (cntLt n c j) v' c') ∧ Hid (Ext w wr)) (fun s _ _ => 256 - (intOf s).toNat)
  case atStart => exact ⟨0, v, c, by omega, rfl, by rw [cntLt_zero]; exact HN1, by rw [cntLt_zero]; exact ⟨fun i hi => absurd hi (Nat.not_lt_zero _), fun k _ hlt => absurd hlt (Nat.not_lt_zero _)⟩, HE1⟩
  case round =>
    obtain ⟨j, v', c', hj, rfl, HN, HM, HE⟩ := hrel
    have hB' := HB.out.keep HE.out id
    by_cases hlt' : j < 256
    · have ej : (UInt8.ofNat j).toNat = j := by simp; omega
      obtain ⟨x, hx⟩ : ∃ x, UInt8.ofNat j = x := ⟨_, rfl⟩
      rw [hx] at ej
      clear hx
      subst ej
      have hx256 : (x.toNat : Int) < 256 := by omega
      have hk : wr.cell? ⟨b, 50 + x.toNat, none⟩ = some (.int .u8 (ix n c x)) := (hB'.cell _).trans (HC.out.key48 rfl x)
      have hs := cntLt_succ HC.out.inj x
      by_cases h0 : ix n c x = 0
      · rw [if_pos h0, Nat.add_zero] at hs
        have HN' : Hid (NodeAt wr .k16 g [] (cntLt n c (x.toNat + 1)) v' c') := by rw [hs]; exact HN
        have HM' : Hid (Moved n v c (x.toNat + 1) (cntLt n c (x.toNat + 1)) v' c') := by rw [hs]; exact HM.out.miss h0
        rw [h0] at hk
        clear hs h0 HN HM hB'
        go_wp2_with fail
        go_roundw
        case rel => exact ⟨x.toNat + 1, v', c', by omega, by go_num, HN', HM', HE⟩
        case measure => simp [intOf]; omega
      · rw [if_neg h0] at hs
        have hp := ix_pos h0
        obtain ⟨k, hk1⟩ : ∃ k, ix n c x = k + 1 := ⟨ix n c x - 1, by omega⟩
        rw [hk1, Nat.add_sub_cancel] at hp
        obtain ⟨hkn, hpx⟩ := hp
        subst hpx
        rw [hk1] at hk
        have hle := cntLt_le n c ((c k).toNat + 1)
        have hv : wr.cell? ⟨b, k, none⟩ = some (v k) := (hB'.cell _).trans ((HC.out.child k (by simp only [K.cap]; omega)).trans (by rw [if_pos hkn]))
        obtain ⟨t, y, ety⟩ := HC.out.ifc k hkn
        have HV : Hid (v k = .iface t y) := ety
        rw [ety] at hv
        have HS : Hid (cntLt n c ((c k).toNat + 1) = cntLt n c (c k).toNat + 1) := hs
        have hr : cntLt n c (c k).toNat < 16 := by omega
        have hk48 : (k : Int) < 48 := by omega
        clear ety hB' h0 hk1 hs hle
        go_wp2_with fail
        refine ((add_k16 g [] (cntLt n c (c k).toNat) v' c' (c k) t y wr HN.out hr (fun i hi e => ?_)).mono ?_)
        · obtain ⟨m, hm, e1, _, hlt⟩ := HM.out.1 i hi
          rw [e1] at e
          rw [e] at hlt
          omega
        rintro e w2 ⟨rfl, hN2, hK2⟩
        have HN2 : Hid (NodeAt w2 .k16 g [] (cntLt n c ((c k).toNat + 1)) (upd v' (cntLt n c (c k).toNat) (v k)) (upd c' (cntLt n c (c k).toNat) (c k))) := by rw [HS.out, HV.out]; exact hN2
        have HM2 : Hid (Moved n v c ((c k).toNat + 1) (cntLt n c ((c k).toNat + 1)) (upd v' (cntLt n c (c k).toNat) (v k)) (upd c' (cntLt n c (c k).toNat) (c k))) := by rw [HS.out]; exact HM.out.hit HC.out.inj hkn
        have HE2 : Hid (Ext w w2) := HE.out.trans hK2 (fun j hj e => by omega)
        clear hN2 hK2 HN HM HE hk hv hr
        go_wp2
        go_roundw
        case rel => exact ⟨(c k).toNat + 1, _, _, by omega, by go_num, HN2, HM2, HE2⟩
        case measure => simp [intOf]; omega
    · obtain rfl : j = 256 := by omega
      have HN' : Hid (NodeAt wr .k16 g [] n v' c') := by have := HN.out; rw [cntLt_all] at this; exact this
      have HM' : Hid (Moved n v c 256 n v' c') := by have := HM.out; rw [cntLt_all] at this; exact this
      clear hB' HN HM
      go_wp2_with fail
      go_ret
      exact ⟨g, v', c', hg, rfl, HN'.out, HM'.out, HE.out⟩
end Go.Proofs.YtbehafhkgbjgmaaGreatDoor
