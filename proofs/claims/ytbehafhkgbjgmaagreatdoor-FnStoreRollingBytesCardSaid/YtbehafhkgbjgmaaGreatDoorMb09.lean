/-
  The tree of subjects: 'insert' at an inner node. No condition beyond that the texts are short and bear no byte 127.
-/
import Derived.Test.YtbehafhkgbjgmaaGreatDoorMb08
namespace Go.Proofs.YtbehafhkgbjgmaaGreatDoor
open Go Go.RowKit
set_option maxRecDepth 100000
set_option maxHeartbeats 2000000 in
theorem ins_desc0 (p0 : Value) (pb po b si : Nat) (k : K) (n : Nat) (v : Nat → Value) (c : Nat → UInt8) (l : List UInt8) (ao : Option Addr) (cap : Nat) (s : SS) (w : World)
    (hpc : w.cell? ⟨pb, po, none⟩ = some (.iface k.ity (.pointer (some ⟨b, 0, none⟩)))) (hpf : w.frozen? ⟨pb, po, none⟩ = false) (hS : Sl w ao cap l) (hsi : si ≤ l.length) (i : Nat) (hN : NodeAt w k b [] n v c) (hi : ix n c (pvt l si) = i + 1) (R : World → World → Prop)
    (hrec : ∀ W, Ext w W → Calls Tryz.prog 190 #[p0, .pointer (some ⟨b, i, none⟩), .slice ao l.length cap, ssAgg s.m s.f s.l s.a s.b, .int .i64 si] W fun e w' => e = newOne ∧ R W w') :
    Calls Tryz.prog 190 #[p0, .pointer (some ⟨pb, po, none⟩), .slice ao l.length cap, ssAgg s.m s.f s.l s.a s.b, .int .i64 si] w fun e w' => e = newOne ∧ ∃ W, Ext w W ∧ R W w' := by
  unfold newOne at *
  have HR := Lib.hid hrec
  unfold ssAgg at HR
  clear hrec
  have hlt : pb < w.heap.size := World.block_lt_of_cell? w _ hpc
  have HS := Lib.hid hS
  have HN := Lib.hid hN
  have hm := m_isLeaf k b
  have hm2 := m_base k b
  have hm3 := m_find k b
  have hm4 := n_find k b
  have hm5 := c_find k
  have hsz0 : (str []).size = 0 := rfl
  clear hN hS
  unfold ssAgg
  go_enter Tryz.func190, Tryz.ntmps190
  go_wp2_with fail
  obtain ⟨w1, hw1⟩ : ∃ w1, (w.alloc (.cells #[.int .u64 s.m, .int .u64 s.f, .int .u64 s.l, .bool s.a, .bool s.b] 116)) = w1 := ⟨_, rfl⟩
  rw [hw1]
  have HX : Hid (Ext w w1) := by rw [← hw1]; exact (Kp.refl _ _).alloc _
  have HBx : Hid (Blk w1 w.heap.size #[.int .u64 s.m, .int .u64 s.f, .int .u64 s.l, .bool s.a, .bool s.b] 116) := by rw [← hw1]; exact Blk.new w _ _
  have hbb : Hid (w.heap.size ≠ b) := fun h => by have := HN.out.lt; omega
  replace HS := Lib.hid (HS.out.ext HX.out)
  replace HN := Lib.hid (HN.out.keep HX.out id)
  replace hpc : Hid _ := Lib.hid ((HX.out.cell id hlt).trans hpc)
  replace hpf : Hid _ := Lib.hid ((HX.out.frozen id hlt).trans hpf)
  have hlt1 := Nat.lt_of_lt_of_le hlt HX.out.size
  have hpre := HN.out.preCell
  generalize hbx : w.heap.size = bx at HBx hbb
  clear hw1
  refine (metaIsLeaf _ _).mono ?_
  rintro e w2 ⟨rfl, rfl⟩
  go_wp2_with fail
  refine (metaBase _ _).mono ?_
  rintro e w2 ⟨rfl, rfl⟩
  have hfd : Hid (∀ m, Calls Tryz.prog k.fFind #[.pointer (some ⟨b, 0, none⟩), .int .u8 (pvt l si).toNat] (w1.drewN m) fun e w' => e = .returned (.pointer (some ⟨b, i, none⟩)) ∧ w1.drewN m = w') := fun m => by
    have := find_any k b [] n v c (w1.drewN m) (pvt l si) (HN.out.drewN m)
    rw [fres, if_neg (by omega), hi, Nat.add_sub_cancel] at this
    exact this
  have hs2 : si ≤ 4611686018427387904 := Nat.le_trans hsi HS.out.small
  have hpv : Hid (∀ m, Calls Tryz.prog 187 #[.slice ao l.length cap, .int .i64 si] (w1.drewN m) fun e w' => e = .returned (.int .u8 (pvt l si).toNat) ∧ w' = w1.drewN m) := fun m => pivot_int l ao cap si si (w1.drewN m) (HS.out.keep ((Kp.refl (fun _ => False) w1).drewN _) (fun _ _ _ _ => id)) hs2 rfl
  clear hi
  have HBxw1 := HBx.out
  have hx0 : w1.cell? ⟨bx, 0, none⟩ = some (.int .u64 s.m) := HBxw1.cell 0
  have hx1 : w1.cell? ⟨bx, 1, none⟩ = some (.int .u64 s.f) := HBxw1.cell 1
  have hx2 : w1.cell? ⟨bx, 2, none⟩ = some (.int .u64 s.l) := HBxw1.cell 2
  have hx3 : w1.cell? ⟨bx, 3, none⟩ = some (.bool s.a) := HBxw1.cell 3
  have hx4 : w1.cell? ⟨bx, 4, none⟩ = some (.bool s.b) := HBxw1.cell 4
  clear HBxw1
  go_wp2_with (go_quiet (first | (go_at_call 187; exact Calls.quiet_of_same (hpv.out _)) | exact quiet_of_eq (hfd.out _)))
  refine (HR.out _ (HX.out.drewN _)).mono ?_
  rintro e w3 ⟨rfl, hR⟩
  have HRR := Lib.hid hR
  clear hR
  go_wp2_with fail
  go_ret2
  exact ⟨rfl, _, HX.out.drewN _, HRR.out⟩

set_option maxHeartbeats 2000000 in
theorem ins_desc1 (p0 : Value) (pb po b si : Nat) (k : K) (n : Nat) (v : Nat → Value) (c : Nat → UInt8) (l : List UInt8) (ao : Option Addr) (cap : Nat) (s : SS) (w : World)
    (hpc : w.cell? ⟨pb, po, none⟩ = some (.iface k.ity (.pointer (some ⟨b, 0, none⟩)))) (hpf : w.frozen? ⟨pb, po, none⟩ = false) (hS : Sl w ao cap l) (hsi : si ≤ l.length) (i : Nat) (pre : List UInt8) (q : Nat) (hq : si + pre.length = q) (hql : q ≤ l.length) (hpl : pre.length ≤ 1099511627776) (hN : NodeAt w k b pre n v c) (hp0 : 0 < pre.length) (hcp : cpl pre (l.drop si) = pre.length) (hi : ix n c (pvt l q) = i + 1) (R : World → World → Prop)
    (hrec : ∀ W, Ext w W → Calls Tryz.prog 190 #[p0, .pointer (some ⟨b, i, none⟩), .slice ao l.length cap, ssAgg s.m s.f s.l s.a s.b, .int .i64 q] W fun e w' => e = newOne ∧ R W w') :
    Calls Tryz.prog 190 #[p0, .pointer (some ⟨pb, po, none⟩), .slice ao l.length cap, ssAgg s.m s.f s.l s.a s.b, .int .i64 si] w fun e w' => e = newOne ∧ ∃ W, Ext w W ∧ R W w' := by
  unfold newOne at *
  have HR := Lib.hid hrec
  unfold ssAgg at HR
  clear hrec
  have hlt : pb < w.heap.size := World.block_lt_of_cell? w _ hpc
  have HS := Lib.hid hS
  have HN := Lib.hid hN
  have hm := m_isLeaf k b
  have hm2 := m_base k b
  have hm3 := m_find k b
  have hm4 := n_find k b
  have hm5 := c_find k
  have hsz := str_size pre
  clear hN hS
  unfold ssAgg
  go_enter Tryz.func190, Tryz.ntmps190
  go_wp2_with fail
  obtain ⟨w1, hw1⟩ : ∃ w1, (w.alloc (.cells #[.int .u64 s.m, .int .u64 s.f, .int .u64 s.l, .bool s.a, .bool s.b] 116)) = w1 := ⟨_, rfl⟩
  rw [hw1]
  have HX : Hid (Ext w w1) := by rw [← hw1]; exact (Kp.refl _ _).alloc _
  have HBx : Hid (Blk w1 w.heap.size #[.int .u64 s.m, .int .u64 s.f, .int .u64 s.l, .bool s.a, .bool s.b] 116) := by rw [← hw1]; exact Blk.new w _ _
  have hbb : Hid (w.heap.size ≠ b) := fun h => by have := HN.out.lt; omega
  replace HS := Lib.hid (HS.out.ext HX.out)
  replace HN := Lib.hid (HN.out.keep HX.out id)
  replace hpc : Hid _ := Lib.hid ((HX.out.cell id hlt).trans hpc)
  replace hpf : Hid _ := Lib.hid ((HX.out.frozen id hlt).trans hpf)
  have hlt1 := Nat.lt_of_lt_of_le hlt HX.out.size
  have hpre := HN.out.preCell
  generalize hbx : w.heap.size = bx at HBx hbb
  clear hw1
  refine (metaIsLeaf _ _).mono ?_
  rintro e w2 ⟨rfl, rfl⟩
  go_wp2_with fail
  refine (metaBase _ _).mono ?_
  rintro e w2 ⟨rfl, rfl⟩
  have hmz : (0 : Int) < (pre.length : Int) := by omega
  have hqi : (si : Int) + (pre.length : Int) = (q : Int) := by rw [← hq]; rfl
  have hcut := cutEnd36 (w := w1) HS.out hsi
  have HSc := Lib.hid (HS.out.cutEnd hsi)
  have hrl : (l.drop si).length ≤ l.length := by simp
  generalize l.drop si = r at hcut HSc hcp hrl
  have hll := HS.out.small
  go_wp2_with fail
  go_region_with (first | (go_at_call 238; refine (toB238 pre _ (by omega)).mono ?_; rintro e w3 ⟨b2, cap2, hb2, rfl, hS2, hX2⟩; have HE3 := Lib.hid (tail2 (Kp.refl (fun _ => False) w1).drew hX2); have HS2 := Lib.hid hS2; clear hS2 hX2 hb2) | (go_at_call 237; (with_reducible refine (cpl_any pre r _ _ _ _ _ HS2.out.bytes (HSc.out.ext HE3.out).bytes (by omega) (by omega)).mono ?_); rw [hcp]; rintro e w4 ⟨rfl, hX3⟩; have HE4 := Lib.hid (tail2 HE3.out hX3); clear hX3))
  clear HS2 HE3 hcut HSc hrl
  replace HS := Lib.hid (HS.out.ext HE4.out)
  replace HN := Lib.hid (HN.out.keep HE4.out id)
  replace HX := Lib.hid (tail2 HX.out HE4.out)
  replace HBx := Lib.hid (HBx.out.keep HE4.out id)
  replace hpc : Hid _ := Lib.hid ((HE4.out.cell id hlt1).trans hpc.out)
  replace hpf : Hid _ := Lib.hid ((HE4.out.frozen id hlt1).trans hpf.out)
  replace hlt1 := Nat.lt_of_lt_of_le hlt1 HE4.out.size
  replace hpre := HN.out.preCell
  clear HE4
  have hfd : Hid (∀ m, Calls Tryz.prog k.fFind #[.pointer (some ⟨b, 0, none⟩), .int .u8 (pvt l q).toNat] (w4.drewN m) fun e w' => e = .returned (.pointer (some ⟨b, i, none⟩)) ∧ w4.drewN m = w') := fun m => by
    have := find_any k b pre n v c (w4.drewN m) (pvt l q) (HN.out.drewN m)
    rw [fres, if_neg (by omega), hi, Nat.add_sub_cancel] at this
    exact this
  have hs2 : q ≤ 4611686018427387904 := Nat.le_trans ‹q ≤ l.length› HS.out.small
  have hpv : Hid (∀ m, Calls Tryz.prog 187 #[.slice ao l.length cap, .int .i64 q] (w4.drewN m) fun e w' => e = .returned (.int .u8 (pvt l q).toNat) ∧ w' = w4.drewN m) := fun m => pivot_int l ao cap q q (w4.drewN m) (HS.out.keep ((Kp.refl (fun _ => False) w4).drewN _) (fun _ _ _ _ => id)) hs2 rfl
  clear hs2
  clear hi hcp
  have HBxw4 := HBx.out
  have hx0 : w4.cell? ⟨bx, 0, none⟩ = some (.int .u64 s.m) := HBxw4.cell 0
  have hx1 : w4.cell? ⟨bx, 1, none⟩ = some (.int .u64 s.f) := HBxw4.cell 1
  have hx2 : w4.cell? ⟨bx, 2, none⟩ = some (.int .u64 s.l) := HBxw4.cell 2
  have hx3 : w4.cell? ⟨bx, 3, none⟩ = some (.bool s.a) := HBxw4.cell 3
  have hx4 : w4.cell? ⟨bx, 4, none⟩ = some (.bool s.b) := HBxw4.cell 4
  clear HBxw4
  go_wp2_with (go_quiet (first | (go_at_call 187; exact Calls.quiet_of_same (hpv.out _)) | exact quiet_of_eq (hfd.out _)))
  refine (HR.out _ (HX.out.drewN _)).mono ?_
  rintro e w5 ⟨rfl, hR⟩
  have HRR := Lib.hid hR
  clear hR
  go_wp2_with fail
  go_ret2
  exact ⟨rfl, _, HX.out.drewN _, HRR.out⟩

end Go.Proofs.YtbehafhkgbjgmaaGreatDoor
