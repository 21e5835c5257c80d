/-
  The tree of subjects: 'insert' at an inner node. No condition beyond that the texts are short and bear no byte 127.
-/
import Derived.Test.YtbehafhkgbjgmaaGreatDoorMb08
namespace Go.Proofs.YtbehafhkgbjgmaaGreatDoor
open Go Go.RowKit
set_option maxRecDepth 100000
set_option maxHeartbeats 2000000 in
theorem ins_add0 (p0 : Value) (pb po b si : Nat) (k : K) (n : Nat) (v : Nat → Value) (c : Nat → UInt8) (l : List UInt8) (ao : Option Addr) (cap : Nat) (s : SS) (w : World)
    (hpc : w.cell? ⟨pb, po, none⟩ = some (.iface k.ity (.pointer (some ⟨b, 0, none⟩)))) (hpf : w.frozen? ⟨pb, po, none⟩ = false) (hS : Sl w ao cap l) (hsi : si ≤ l.length) (hN : NodeAt w k b [] n v c) (hi : ix n c (pvt l si) = 0) (hn : n < k.cap) :
    Calls Tryz.prog 190 #[p0, .pointer (some ⟨pb, po, none⟩), .slice ao l.length cap, ssAgg s.m s.f s.l s.a s.b, .int .i64 si] w fun e w' => e = newOne ∧ ∃ nb, w.heap.size ≤ nb ∧ NodeAt w' k b [] (n + 1) (upd v n (.iface 267 (.pointer (some ⟨nb, 0, none⟩)))) (upd c n (pvt l si)) ∧ Blk w' nb (s.cells (l.drop si)) 269 ∧ Kp (· = b) w w' := by
  unfold newOne at *
  have hnew : Hid (∀ i, i < n → c i ≠ pvt l si) := ix_zero hi
  have hlt : pb < w.heap.size := World.block_lt_of_cell? w _ hpc
  have HS := Lib.hid hS
  have HN := Lib.hid hN
  have hm := m_isLeaf k b
  have hm2 := m_base k b
  have hm3 := m_find k b
  have hm4 := n_find k b
  have hm5 := c_find k
  have hm6 := m_full k b
  have hm7 := c_full k
  have hm8 := m_add k b
  have hm9 := n_add k b
  have hm10 := c_add k
  have hsz0 : (str []).size = 0 := rfl
  clear hN hS
  unfold ssAgg
  go_enter Tryz.func190, Tryz.ntmps190
  go_wp2_with fail
  obtain ⟨w1, hw1⟩ : ∃ w1, (w.alloc (.cells #[.int .u64 s.m, .int .u64 s.f, .int .u64 s.l, .bool s.a, .bool s.b] 116)) = w1 := ⟨_, rfl⟩
  rw [hw1]
  have HX : Hid (Ext w w1) := by rw [← hw1]; exact (Kp.refl _ _).alloc _
  have HBx : Hid (Blk w1 w.heap.size #[.int .u64 s.m, .int .u64 s.f, .int .u64 s.l, .bool s.a, .bool s.b] 116) := by rw [← hw1]; exact Blk.new w _ _
  have hbb : Hid (w.heap.size ≠ b) := fun h => by have := HN.out.lt; omega
  replace HS := Lib.hid (HS.out.ext HX.out)
  replace HN := Lib.hid (HN.out.keep HX.out id)
  replace hpc : Hid _ := Lib.hid ((HX.out.cell id hlt).trans hpc)
  replace hpf : Hid _ := Lib.hid ((HX.out.frozen id hlt).trans hpf)
  have hlt1 := Nat.lt_of_lt_of_le hlt HX.out.size
  have hpre := HN.out.preCell
  generalize hbx : w.heap.size = bx at HBx hbb
  clear hw1
  refine (metaIsLeaf _ _).mono ?_
  rintro e w2 ⟨rfl, rfl⟩
  go_wp2_with fail
  refine (metaBase _ _).mono ?_
  rintro e w2 ⟨rfl, rfl⟩
  have hfd : Hid (∀ m, Calls Tryz.prog k.fFind #[.pointer (some ⟨b, 0, none⟩), .int .u8 (pvt l si).toNat] (w1.drewN m) fun e w' => e = .returned (.pointer none) ∧ w1.drewN m = w') := fun m => by
    have := find_any k b [] n v c (w1.drewN m) (pvt l si) (HN.out.drewN m)
    rw [fres, if_pos hi] at this
    exact this
  have hs2 : si ≤ 4611686018427387904 := Nat.le_trans ‹si ≤ l.length› HS.out.small
  have hpv : Hid (∀ m, Calls Tryz.prog 187 #[.slice ao l.length cap, .int .i64 si] (w1.drewN m) fun e w' => e = .returned (.int .u8 (pvt l si).toNat) ∧ w' = w1.drewN m) := fun m => pivot_int l ao cap si si (w1.drewN m) (HS.out.keep ((Kp.refl (fun _ => False) w1).drewN _) (fun _ _ _ _ => id)) hs2 rfl
  clear hs2
  clear hi
  go_wp2_with (go_quiet (first | (go_at_call 187; exact Calls.quiet_of_same (hpv.out _)) | exact quiet_of_eq (hfd.out _)))
  obtain ⟨wf, hw⟩ : ∃ wf, w1.drewN nq = wf := ⟨_, rfl⟩
  rw [hw]
  have HD : Hid (Ext w1 wf) := by rw [← hw]; exact (Kp.refl _ _).drewN _
  replace HS := Lib.hid (HS.out.ext HD.out)
  replace HN := Lib.hid (HN.out.keep HD.out id)
  replace HX := Lib.hid (tail2 HX.out HD.out)
  replace HBx := Lib.hid (HBx.out.keep HD.out id)
  replace hpc : Hid _ := Lib.hid ((HD.out.cell id hlt1).trans hpc.out)
  replace hpf : Hid _ := Lib.hid ((HD.out.frozen id hlt1).trans hpf.out)
  replace hlt1 := Nat.lt_of_lt_of_le hlt1 HD.out.size
  clear HD hw hfd hpv
  have hfl : decide (k.cap ≤ n) = false := by simp; omega
  refine (full_any k b [] n v c wf HN.out).mono ?_
  rw [hfl]
  rintro e w6 ⟨rfl, rfl⟩
  clear hfl
  go_wp2_with fail
  have HSr := Lib.hid (HS.out.cutEnd ‹si ≤ l.length›)
  have HSd := Lib.hid (HS.out.ext ((Kp.refl (fun _ => False) wf).drew))
  have hcut2 := cutEnd36 (w := wf) HS.out ‹si ≤ l.length›
  have hs2 : si ≤ 4611686018427387904 := Nat.le_trans ‹si ≤ l.length› HS.out.small
  have Hr2 : Hid (l.drop si = l.drop si) := rfl
  generalize hr2 : l.drop si = r2 at HSr hcut2
  replace Hr2 := Lib.hid hr2
  clear hr2
  have HBxwf := HBx.out
  have hx0 : wf.cell? ⟨bx, 0, none⟩ = some (.int .u64 s.m) := HBxwf.cell 0
  have hx1 : wf.cell? ⟨bx, 1, none⟩ = some (.int .u64 s.f) := HBxwf.cell 1
  have hx2 : wf.cell? ⟨bx, 2, none⟩ = some (.int .u64 s.l) := HBxwf.cell 2
  have hx3 : wf.cell? ⟨bx, 3, none⟩ = some (.bool s.a) := HBxwf.cell 3
  have hx4 : wf.cell? ⟨bx, 4, none⟩ = some (.bool s.b) := HBxwf.cell 4
  clear HBxwf
  go_region_with (first | (go_at_call 187; (with_reducible refine (pivot_int l _ _ si _ _ HSd.out hs2 rfl).mono ?_); rintro e w9 ⟨rfl, rfl⟩) | (go_at_call 236; (with_reducible refine (newLeafA r2 _ _ s _ HSr.out.bytes.drew HSr.out.plain).mono ?_); rintro e w10 ⟨nb, hnb, rfl, hL10, hX10⟩; have HX10 := Lib.hid (((Kp.refl (fun _ => False) wf).drew).trans hX10 fun _ _ h => h); have HL10 := Lib.hid hL10; have HNB : Hid (wf.heap.size ≤ nb) := hnb; have HN10 := Lib.hid (HN.out.keep HX10.out id); clear hX10 hL10 hnb) | (with_reducible refine (add_any k b [] n v c w10 (pvt l si) 267 _ HN10.out ‹_› hnew.out).mono ?_; rintro e w11 ⟨rfl, hN11, hK11⟩; have HN11 := Lib.hid hN11; have HK11 := Lib.hid hK11; clear hN11 hK11))
  all_goals
    go_wp2_with fail
    go_ret2
    have h1 := HN.out.lt
    have h2 := HNB.out
    have h3 := HX.out.size
    refine ⟨rfl, nb, by omega, HN11.out, ?_, ?_⟩
    · rw [Hr2.out]; exact HL10.out.keep HK11.out (by omega)
    · exact (((HX.out.kp (F := (· = b))).trans HX10.out fun _ _ h => h.elim)).trans HK11.out fun _ _ h => h

set_option maxHeartbeats 2000000 in
theorem ins_add1 (p0 : Value) (pb po b si : Nat) (k : K) (n : Nat) (v : Nat → Value) (c : Nat → UInt8) (l : List UInt8) (ao : Option Addr) (cap : Nat) (s : SS) (w : World)
    (hpc : w.cell? ⟨pb, po, none⟩ = some (.iface k.ity (.pointer (some ⟨b, 0, none⟩)))) (hpf : w.frozen? ⟨pb, po, none⟩ = false) (hS : Sl w ao cap l) (hsi : si ≤ l.length) (pre : List UInt8) (q : Nat) (hq : si + pre.length = q) (hql : q ≤ l.length) (hpl : pre.length ≤ 1099511627776) (hp0 : 0 < pre.length) (hcp : cpl pre (l.drop si) = pre.length) (hN : NodeAt w k b pre n v c) (hi : ix n c (pvt l q) = 0) (hn : n < k.cap) :
    Calls Tryz.prog 190 #[p0, .pointer (some ⟨pb, po, none⟩), .slice ao l.length cap, ssAgg s.m s.f s.l s.a s.b, .int .i64 si] w fun e w' => e = newOne ∧ ∃ nb, w.heap.size ≤ nb ∧ NodeAt w' k b pre (n + 1) (upd v n (.iface 267 (.pointer (some ⟨nb, 0, none⟩)))) (upd c n (pvt l q)) ∧ Blk w' nb (s.cells (l.drop q)) 269 ∧ Kp (· = b) w w' := by
  unfold newOne at *
  have hnew : Hid (∀ i, i < n → c i ≠ pvt l q) := ix_zero hi
  have hlt : pb < w.heap.size := World.block_lt_of_cell? w _ hpc
  have HS := Lib.hid hS
  have HN := Lib.hid hN
  have hm := m_isLeaf k b
  have hm2 := m_base k b
  have hm3 := m_find k b
  have hm4 := n_find k b
  have hm5 := c_find k
  have hm6 := m_full k b
  have hm7 := c_full k
  have hm8 := m_add k b
  have hm9 := n_add k b
  have hm10 := c_add k
  have hsz := str_size pre
  clear hN hS
  unfold ssAgg
  go_enter Tryz.func190, Tryz.ntmps190
  go_wp2_with fail
  obtain ⟨w1, hw1⟩ : ∃ w1, (w.alloc (.cells #[.int .u64 s.m, .int .u64 s.f, .int .u64 s.l, .bool s.a, .bool s.b] 116)) = w1 := ⟨_, rfl⟩
  rw [hw1]
  have HX : Hid (Ext w w1) := by rw [← hw1]; exact (Kp.refl _ _).alloc _
  have HBx : Hid (Blk w1 w.heap.size #[.int .u64 s.m, .int .u64 s.f, .int .u64 s.l, .bool s.a, .bool s.b] 116) := by rw [← hw1]; exact Blk.new w _ _
  have hbb : Hid (w.heap.size ≠ b) := fun h => by have := HN.out.lt; omega
  replace HS := Lib.hid (HS.out.ext HX.out)
  replace HN := Lib.hid (HN.out.keep HX.out id)
  replace hpc : Hid _ := Lib.hid ((HX.out.cell id hlt).trans hpc)
  replace hpf : Hid _ := Lib.hid ((HX.out.frozen id hlt).trans hpf)
  have hlt1 := Nat.lt_of_lt_of_le hlt HX.out.size
  have hpre := HN.out.preCell
  generalize hbx : w.heap.size = bx at HBx hbb
  clear hw1
  refine (metaIsLeaf _ _).mono ?_
  rintro e w2 ⟨rfl, rfl⟩
  go_wp2_with fail
  refine (metaBase _ _).mono ?_
  rintro e w2 ⟨rfl, rfl⟩
  have hmz : (0 : Int) < (pre.length : Int) := by omega
  have hqi : (si : Int) + (pre.length : Int) = (q : Int) := by rw [← hq]; rfl
  have hcut := cutEnd36 (w := w1) HS.out hsi
  have HSc := Lib.hid (HS.out.cutEnd hsi)
  have hrl : (l.drop si).length ≤ l.length := by simp
  generalize l.drop si = r at hcut HSc hcp hrl
  have hll := HS.out.small
  go_wp2_with fail
  go_region_with (first | (go_at_call 238; refine (toB238 pre _ (by omega)).mono ?_; rintro e w3 ⟨b2, cap2, hb2, rfl, hS2, hX2⟩; have HE3 := Lib.hid (tail2 (Kp.refl (fun _ => False) w1).drew hX2); have HS2 := Lib.hid hS2; clear hS2 hX2 hb2) | (go_at_call 237; (with_reducible refine (cpl_any pre r _ _ _ _ _ HS2.out.bytes (HSc.out.ext HE3.out).bytes (by omega) (by omega)).mono ?_); rw [hcp]; rintro e w4 ⟨rfl, hX3⟩; have HE4 := Lib.hid (tail2 HE3.out hX3); clear hX3))
  clear HS2 HE3 hcut HSc hrl
  replace HS := Lib.hid (HS.out.ext HE4.out)
  replace HN := Lib.hid (HN.out.keep HE4.out id)
  replace HX := Lib.hid (tail2 HX.out HE4.out)
  replace HBx := Lib.hid (HBx.out.keep HE4.out id)
  replace hpc : Hid _ := Lib.hid ((HE4.out.cell id hlt1).trans hpc.out)
  replace hpf : Hid _ := Lib.hid ((HE4.out.frozen id hlt1).trans hpf.out)
  replace hlt1 := Nat.lt_of_lt_of_le hlt1 HE4.out.size
  replace hpre := HN.out.preCell
  clear HE4
  have hfd : Hid (∀ m, Calls Tryz.prog k.fFind #[.pointer (some ⟨b, 0, none⟩), .int .u8 (pvt l q).toNat] (w4.drewN m) fun e w' => e = .returned (.pointer none) ∧ w4.drewN m = w') := fun m => by
    have := find_any k b pre n v c (w4.drewN m) (pvt l q) (HN.out.drewN m)
    rw [fres, if_pos hi] at this
    exact this
  have hs2 : q ≤ 4611686018427387904 := Nat.le_trans ‹q ≤ l.length› HS.out.small
  have hpv : Hid (∀ m, Calls Tryz.prog 187 #[.slice ao l.length cap, .int .i64 q] (w4.drewN m) fun e w' => e = .returned (.int .u8 (pvt l q).toNat) ∧ w' = w4.drewN m) := fun m => pivot_int l ao cap q q (w4.drewN m) (HS.out.keep ((Kp.refl (fun _ => False) w4).drewN _) (fun _ _ _ _ => id)) hs2 rfl
  clear hs2
  clear hi hcp
  go_wp2_with (go_quiet (first | (go_at_call 187; exact Calls.quiet_of_same (hpv.out _)) | exact quiet_of_eq (hfd.out _)))
  obtain ⟨wf, hw⟩ : ∃ wf, w4.drewN nq = wf := ⟨_, rfl⟩
  rw [hw]
  have HD : Hid (Ext w4 wf) := by rw [← hw]; exact (Kp.refl _ _).drewN _
  replace HS := Lib.hid (HS.out.ext HD.out)
  replace HN := Lib.hid (HN.out.keep HD.out id)
  replace HX := Lib.hid (tail2 HX.out HD.out)
  replace HBx := Lib.hid (HBx.out.keep HD.out id)
  replace hpc : Hid _ := Lib.hid ((HD.out.cell id hlt1).trans hpc.out)
  replace hpf : Hid _ := Lib.hid ((HD.out.frozen id hlt1).trans hpf.out)
  replace hlt1 := Nat.lt_of_lt_of_le hlt1 HD.out.size
  clear HD hw hfd hpv
  have hfl : decide (k.cap ≤ n) = false := by simp; omega
  refine (full_any k b pre n v c wf HN.out).mono ?_
  rw [hfl]
  rintro e w6 ⟨rfl, rfl⟩
  clear hfl
  go_wp2_with fail
  have HSr := Lib.hid (HS.out.cutEnd ‹q ≤ l.length›)
  have HSd := Lib.hid (HS.out.ext ((Kp.refl (fun _ => False) wf).drew))
  have hcut2 := cutEnd36 (w := wf) HS.out ‹q ≤ l.length›
  have hs2 : q ≤ 4611686018427387904 := Nat.le_trans ‹q ≤ l.length› HS.out.small
  have Hr2 : Hid (l.drop q = l.drop q) := rfl
  generalize hr2 : l.drop q = r2 at HSr hcut2
  replace Hr2 := Lib.hid hr2
  clear hr2
  have HBxwf := HBx.out
  have hx0 : wf.cell? ⟨bx, 0, none⟩ = some (.int .u64 s.m) := HBxwf.cell 0
  have hx1 : wf.cell? ⟨bx, 1, none⟩ = some (.int .u64 s.f) := HBxwf.cell 1
  have hx2 : wf.cell? ⟨bx, 2, none⟩ = some (.int .u64 s.l) := HBxwf.cell 2
  have hx3 : wf.cell? ⟨bx, 3, none⟩ = some (.bool s.a) := HBxwf.cell 3
  have hx4 : wf.cell? ⟨bx, 4, none⟩ = some (.bool s.b) := HBxwf.cell 4
  clear HBxwf
  go_region_with (first | (go_at_call 187; (with_reducible refine (pivot_int l _ _ q _ _ HSd.out hs2 rfl).mono ?_); rintro e w9 ⟨rfl, rfl⟩) | (go_at_call 236; (with_reducible refine (newLeafA r2 _ _ s _ HSr.out.bytes.drew HSr.out.plain).mono ?_); rintro e w10 ⟨nb, hnb, rfl, hL10, hX10⟩; have HX10 := Lib.hid (((Kp.refl (fun _ => False) wf).drew).trans hX10 fun _ _ h => h); have HL10 := Lib.hid hL10; have HNB : Hid (wf.heap.size ≤ nb) := hnb; have HN10 := Lib.hid (HN.out.keep HX10.out id); clear hX10 hL10 hnb) | (with_reducible refine (add_any k b pre n v c w10 (pvt l q) 267 _ HN10.out ‹_› hnew.out).mono ?_; rintro e w11 ⟨rfl, hN11, hK11⟩; have HN11 := Lib.hid hN11; have HK11 := Lib.hid hK11; clear hN11 hK11))
  all_goals
    go_wp2_with fail
    go_ret2
    have h1 := HN.out.lt
    have h2 := HNB.out
    have h3 := HX.out.size
    refine ⟨rfl, nb, by omega, HN11.out, ?_, ?_⟩
    · rw [Hr2.out]; exact HL10.out.keep HK11.out (by omega)
    · exact (((HX.out.kp (F := (· = b))).trans HX10.out fun _ _ h => h.elim)).trans HK11.out fun _ _ h => h

end Go.Proofs.YtbehafhkgbjgmaaGreatDoor
