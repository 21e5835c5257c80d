/-
  The tree of subjects: 'delete' of a text that is there, step by step. No condition beyond that the texts are short and bear no byte 127.
-/
import Derived.Test.YtbehafhkgbjgmaaGreatDoorMb16
namespace Go.Proofs.YtbehafhkgbjgmaaGreatDoor
open Go Go.RowKit
set_option maxRecDepth 100000

set_option maxHeartbeats 2000000 in
theorem del_leaf0 (tb pb po b si i : Nat) (k : K) (n : Nat) (v : Nat → Value) (c : Nat → UInt8) (l : List UInt8) (ao : Option Addr) (cap : Nat) (w : World)
    (hpc : w.cell? ⟨pb, po, none⟩ = some (.iface k.ity (.pointer (some ⟨b, 0, none⟩)))) (hS : Sl w ao cap l) (hsi : si ≤ l.length) (hl0 : 0 < l.length) (hN : NodeAt w k b [] n v c) (hin : i < n) (hi : ix n c (pvt l si) = i + 1) (lb : Nat) (s0 : SS) (hv : v i = .iface 267 (.pointer (some ⟨lb, 0, none⟩))) (hlf : Blk w lb (s0.cells (l.drop si)) 269) (hk : k = .k4) (hn2 : n - 1 = 1) (b3 : Nat) (s3 : SS) (suf3 : List UInt8) (hg : gone v n i 0 = .iface 267 (.pointer (some ⟨b3, 0, none⟩))) (hl3 : Blk w b3 (s3.cells suf3) 269) (hb3 : b3 ≠ b) (hpb3 : pb ≠ b3) (hpb : pb ≠ b) (hpf : w.frozen? ⟨pb, po, none⟩ = false) (hs3 : suf3.length ≤ 1099511627776) (_hpl : ([] : List UInt8).length ≤ 1099511627776) :
    Calls Tryz.prog 197 #[.pointer (some ⟨tb, 0, none⟩), .pointer (some ⟨pb, po, none⟩), .slice ao l.length cap, .int .i64 si] w fun e w' => e = .returned (.tuple #[.pointer (some ⟨lb, 0, none⟩), .bool true]) ∧ Blk w' b3 (s3.cells ([] ++ suf3)) 269 ∧ Kp (fun x => x = b ∨ x = b3 ∨ x = pb) w w' ∧ Put pb po (.iface 267 (.pointer (some ⟨b3, 0, none⟩))) w w' := by
  have hm13 := m_isLeaf_leaf ⟨b3, 0, none⟩
  have hm14 := m_base k b
  have HL3 := Lib.hid hl3
  have HK := Lib.hid hk
  have HN2 := Lib.hid hn2
  have HG := Lib.hid hg
  clear hl3 hk hn2 hg
  have hci : c i = pvt l si := by have := ix_pos (n := n) (c := c) (x := pvt l si) (by omega); rw [hi, Nat.add_sub_cancel] at this; exact this.2
  have HL := Lib.hid hlf
  clear hlf
  have hm8 := m_isLeaf_leaf ⟨lb, 0, none⟩
  have hta := ta_leaf
  have hm9 := m_del k b
  have hm10 := c_del k
  have hm11 := m_shrink k b
  have hm12 := c_shrink k
  have hlt : pb < w.heap.size := World.block_lt_of_cell? w _ hpc
  have hl1 : ¬ ((l.length : Int) = 0) := by omega
  have HS := Lib.hid hS
  have HN := Lib.hid hN
  have hm := m_isLeaf k b
  have hm2 := m_base k b
  have hm3 := m_find k b
  have hm5 := c_find k
  have hsz0 : (str []).size = 0 := rfl
  clear hN hS hl0
  go_enter Tryz.func197, Tryz.ntmps197
  have hpre := HN.out.preCell
  go_wp2_with fail
  refine (metaIsLeaf _ _).mono ?_
  rintro e w2 ⟨rfl, rfl⟩
  go_wp2_with fail
  refine (metaBase _ _).mono ?_
  rintro e w2 ⟨rfl, rfl⟩
  go_wp2_with fail
  obtain ⟨wf, hwf⟩ : ∃ wf, wf = w := ⟨_, rfl⟩
  have HX : Hid (Ext w wf) := by rw [hwf]; exact Kp.refl _ _
  rw [← hwf]
  clear hwf
  replace HS := Lib.hid (HS.out.ext HX.out)
  replace HN := Lib.hid (HN.out.keep HX.out id)
  have hpcf : Hid _ := Lib.hid ((HX.out.cell id hlt).trans hpc)
  replace hpre := HN.out.preCell
  have hlt1 := Nat.lt_of_lt_of_le hlt HX.out.size
  have hvi := HN.out.childCell hin
  rw [hv] at hvi
  have hs2 : si ≤ 4611686018427387904 := Nat.le_trans ‹si ≤ l.length› HS.out.small
  go_wp2_with fail
  (with_reducible refine (pivot_int l ao cap si _ wf HS.out hs2 rfl).mono ?_)
  rintro e w3 ⟨rfl, rfl⟩
  have hfd := find_any k b [] n v c w3 (pvt l si) HN.out
  rw [fres, if_neg (by omega), hi, Nat.add_sub_cancel] at hfd
  clear hs2
  go_wp2_with fail
  refine hfd.mono ?_
  rintro e w4 ⟨rfl, rfl⟩
  clear hfd hm3 hm5
  go_wp2_with fail
  clear hvi hm
  have hcut2 := cutEnd36 (w := w3) HS.out ‹si ≤ l.length›
  have HSr := Lib.hid (HS.out.cutEnd ‹si ≤ l.length›)
  generalize l.drop si = r2 at hcut2 HSr HL
  have HL1 := Lib.hid (HL.out.keep HX.out id)
  have h5 : w3.cell? ⟨lb, 5, none⟩ = some (.string (str r2)) := (HL1.out.cell 5).trans rfl
  have hbq : (r2 == r2) = true := by simp
  refine (leafIsLeaf _ _).mono ?_
  rintro e w4 ⟨rfl, rfl⟩
  go_wp2_with fail
  (with_reducible refine (match_any lb (str r2) r2 _ _ w3 h5 HSr.out.bytes HSr.out.plain).mono ?_)
  rw [str_data, hbq]
  rintro e w5 ⟨rfl, hE5⟩
  have HX5 := Lib.hid (tail2 HX.out hE5)
  have HN5 := Lib.hid (HN.out.keep hE5 id)
  clear hE5 hcut2 HSr h5 hpre hta
  go_wp2_with fail
  have hdel := del_any k b [] n v c w5 i HN5.out hin
  rw [hci] at hdel
  refine hdel.mono ?_
  rintro e w6 ⟨rfl, hN6, hK6⟩
  have HK6 := Lib.hid ((HX5.out.kp (F := (· = b))).trans hK6 fun _ _ h => h)
  have HN6 := Lib.hid hN6
  clear hdel hN6 hK6 hm9 hm10
  go_wp2_with fail
  refine (shrink_one k b _ (n - 1) (gone v n i) (gone c n i) w6 HK.out HN2.out HN6.out).mono ?_
  rw [HG.out]
  rintro e w7 ⟨rfl, rfl⟩
  have HL7 := Lib.hid (HL3.out.keep HK6.out hb3)
  have hpre7 := HN6.out.preCell
  have h75 : w6.cell? ⟨b3, 5, none⟩ = some (.string (str suf3)) := (HL7.out.cell 5).trans rfl
  have f75 : w6.frozen? ⟨b3, 5, none⟩ = false := HL7.out.frozen 5
  have hta := ta_leaf
  have hpc6 := (HK6.out.cell hpb hlt).trans hpc
  have hpf6 := (HK6.out.frozen hpb hlt).trans hpf
  go_wp2_with fail
  refine (metaBase _ _).mono ?_
  rintro e w8 ⟨rfl, rfl⟩
  go_wp2_with fail
  refine (leafIsLeaf _ _).mono ?_
  rintro e w8 ⟨rfl, rfl⟩
  have hsz3 := str_size suf3
  go_wp2_with fail
  go_ret2
  refine ⟨rfl, ?_, Kp.setCell (Kp.setCell (HK6.out.mono fun _ _ h => .inl h) (.inl (.inr (.inl rfl))) _) (.inl (.inr (.inr rfl))) _, ?_⟩
  · rw [str_append]
    exact (HL7.out.set 5 _).setOther (Ne.symm hpb3) _
  · intro cs T h
    exact ((h.keep HK6.out hpb).setOther hpb3 _).set _ _

set_option maxHeartbeats 2000000 in
theorem del_leaf1 (tb pb po b si i : Nat) (k : K) (n : Nat) (v : Nat → Value) (c : Nat → UInt8) (l : List UInt8) (ao : Option Addr) (cap : Nat) (w : World)
    (hpc : w.cell? ⟨pb, po, none⟩ = some (.iface k.ity (.pointer (some ⟨b, 0, none⟩)))) (hS : Sl w ao cap l) (hsi : si ≤ l.length) (hl0 : 0 < l.length) (pre : List UInt8) (q : Nat) (hq : si + pre.length = q) (hql : q ≤ l.length) (hp0 : 0 < pre.length) (hpm : (l.take q).drop si = pre) (hN : NodeAt w k b pre n v c) (hin : i < n) (hi : ix n c (pvt l q) = i + 1) (lb : Nat) (s0 : SS) (hv : v i = .iface 267 (.pointer (some ⟨lb, 0, none⟩))) (hlf : Blk w lb (s0.cells (l.drop q)) 269) (hk : k = .k4) (hn2 : n - 1 = 1) (b3 : Nat) (s3 : SS) (suf3 : List UInt8) (hg : gone v n i 0 = .iface 267 (.pointer (some ⟨b3, 0, none⟩))) (hl3 : Blk w b3 (s3.cells suf3) 269) (hb3 : b3 ≠ b) (hpb3 : pb ≠ b3) (hpb : pb ≠ b) (hpf : w.frozen? ⟨pb, po, none⟩ = false) (hs3 : suf3.length ≤ 1099511627776) (_hpl : (pre : List UInt8).length ≤ 1099511627776) :
    Calls Tryz.prog 197 #[.pointer (some ⟨tb, 0, none⟩), .pointer (some ⟨pb, po, none⟩), .slice ao l.length cap, .int .i64 si] w fun e w' => e = .returned (.tuple #[.pointer (some ⟨lb, 0, none⟩), .bool true]) ∧ Blk w' b3 (s3.cells (pre ++ suf3)) 269 ∧ Kp (fun x => x = b ∨ x = b3 ∨ x = pb) w w' ∧ Put pb po (.iface 267 (.pointer (some ⟨b3, 0, none⟩))) w w' := by
  have hm13 := m_isLeaf_leaf ⟨b3, 0, none⟩
  have hm14 := m_base k b
  have HL3 := Lib.hid hl3
  have HK := Lib.hid hk
  have HN2 := Lib.hid hn2
  have HG := Lib.hid hg
  clear hl3 hk hn2 hg
  have hci : c i = pvt l q := by have := ix_pos (n := n) (c := c) (x := pvt l q) (by omega); rw [hi, Nat.add_sub_cancel] at this; exact this.2
  have HL := Lib.hid hlf
  clear hlf
  have hm8 := m_isLeaf_leaf ⟨lb, 0, none⟩
  have hta := ta_leaf
  have hm9 := m_del k b
  have hm10 := c_del k
  have hm11 := m_shrink k b
  have hm12 := c_shrink k
  have hlt : pb < w.heap.size := World.block_lt_of_cell? w _ hpc
  have hl1 : ¬ ((l.length : Int) = 0) := by omega
  have HS := Lib.hid hS
  have HN := Lib.hid hN
  have hm := m_isLeaf k b
  have hm2 := m_base k b
  have hm3 := m_find k b
  have hm5 := c_find k
  have hsz := str_size pre
  clear hN hS hl0
  go_enter Tryz.func197, Tryz.ntmps197
  have hpre := HN.out.preCell
  go_wp2_with fail
  refine (metaIsLeaf _ _).mono ?_
  rintro e w2 ⟨rfl, rfl⟩
  go_wp2_with fail
  refine (metaBase _ _).mono ?_
  rintro e w2 ⟨rfl, rfl⟩
  have hmz : (0 : Int) < (pre.length : Int) := by omega
  have hqi : (si : Int) + (pre.length : Int) = (q : Int) := by rw [← hq]; rfl
  have hnl : ¬ ((l.length : Int) < (q : Int)) := by omega
  have hcutm := cut36 (w := w) HS.out (k := si) (m := q) (by omega) hql
  have HSm := Lib.hid (HS.out.cut (k := si) (m := q) (by omega) hql)
  rw [hpm] at hcutm HSm
  have hcv : ∀ n, (convert 36 9 (.slice (cutAt ao cap si) pre.length (cap - si))).run Tryz.prog (w.drewN n) = .ok (.string (str pre)) (w.drewN n) := fun n => conv_str (w := w.drewN n) HSm.out.bytes HSm.out.plain (cap - si)
  have hqq : ((str pre).toList == (str pre).toList) = true := by simp
  clear hpm hq
  have hll := HS.out.small
  go_wp2_with fail
  go_quiet (fail)
  obtain ⟨wf, hwf⟩ : ∃ wf, w.drewN nq = wf := ⟨_, rfl⟩
  rw [hwf]
  have HX : Hid (Ext w wf) := by rw [← hwf]; exact (Kp.refl _ _).drewN _
  clear hcutm HSm hcv hqq hwf
  replace HS := Lib.hid (HS.out.ext HX.out)
  replace HN := Lib.hid (HN.out.keep HX.out id)
  have hpcf : Hid _ := Lib.hid ((HX.out.cell id hlt).trans hpc)
  replace hpre := HN.out.preCell
  have hlt1 := Nat.lt_of_lt_of_le hlt HX.out.size
  have hvi := HN.out.childCell hin
  rw [hv] at hvi
  have hs2 : q ≤ 4611686018427387904 := Nat.le_trans ‹q ≤ l.length› HS.out.small
  go_wp2_with fail
  (with_reducible refine (pivot_int l ao cap q _ wf HS.out hs2 rfl).mono ?_)
  rintro e w3 ⟨rfl, rfl⟩
  have hfd := find_any k b pre n v c w3 (pvt l q) HN.out
  rw [fres, if_neg (by omega), hi, Nat.add_sub_cancel] at hfd
  clear hs2
  go_wp2_with fail
  refine hfd.mono ?_
  rintro e w4 ⟨rfl, rfl⟩
  clear hfd hm3 hm5
  go_wp2_with fail
  clear hvi hm
  have hcut2 := cutEnd36 (w := w3) HS.out ‹q ≤ l.length›
  have HSr := Lib.hid (HS.out.cutEnd ‹q ≤ l.length›)
  generalize l.drop q = r2 at hcut2 HSr HL
  have HL1 := Lib.hid (HL.out.keep HX.out id)
  have h5 : w3.cell? ⟨lb, 5, none⟩ = some (.string (str r2)) := (HL1.out.cell 5).trans rfl
  have hbq : (r2 == r2) = true := by simp
  refine (leafIsLeaf _ _).mono ?_
  rintro e w4 ⟨rfl, rfl⟩
  go_wp2_with fail
  (with_reducible refine (match_any lb (str r2) r2 _ _ w3 h5 HSr.out.bytes HSr.out.plain).mono ?_)
  rw [str_data, hbq]
  rintro e w5 ⟨rfl, hE5⟩
  have HX5 := Lib.hid (tail2 HX.out hE5)
  have HN5 := Lib.hid (HN.out.keep hE5 id)
  clear hE5 hcut2 HSr h5 hpre hta
  go_wp2_with fail
  have hdel := del_any k b pre n v c w5 i HN5.out hin
  rw [hci] at hdel
  refine hdel.mono ?_
  rintro e w6 ⟨rfl, hN6, hK6⟩
  have HK6 := Lib.hid ((HX5.out.kp (F := (· = b))).trans hK6 fun _ _ h => h)
  have HN6 := Lib.hid hN6
  clear hdel hN6 hK6 hm9 hm10
  go_wp2_with fail
  refine (shrink_one k b _ (n - 1) (gone v n i) (gone c n i) w6 HK.out HN2.out HN6.out).mono ?_
  rw [HG.out]
  rintro e w7 ⟨rfl, rfl⟩
  have HL7 := Lib.hid (HL3.out.keep HK6.out hb3)
  have hpre7 := HN6.out.preCell
  have h75 : w6.cell? ⟨b3, 5, none⟩ = some (.string (str suf3)) := (HL7.out.cell 5).trans rfl
  have f75 : w6.frozen? ⟨b3, 5, none⟩ = false := HL7.out.frozen 5
  have hta := ta_leaf
  have hpc6 := (HK6.out.cell hpb hlt).trans hpc
  have hpf6 := (HK6.out.frozen hpb hlt).trans hpf
  go_wp2_with fail
  refine (metaBase _ _).mono ?_
  rintro e w8 ⟨rfl, rfl⟩
  go_wp2_with fail
  refine (leafIsLeaf _ _).mono ?_
  rintro e w8 ⟨rfl, rfl⟩
  have hsz3 := str_size suf3
  go_wp2_with fail
  go_ret2
  refine ⟨rfl, ?_, Kp.setCell (Kp.setCell (HK6.out.mono fun _ _ h => .inl h) (.inl (.inr (.inl rfl))) _) (.inl (.inr (.inr rfl))) _, ?_⟩
  · rw [str_append]
    exact (HL7.out.set 5 _).setOther (Ne.symm hpb3) _
  · intro cs T h
    exact ((h.keep HK6.out hpb).setOther hpb3 _).set _ _

set_option maxHeartbeats 2000000 in
theorem del_node0 (tb pb po b si i : Nat) (k : K) (n : Nat) (v : Nat → Value) (c : Nat → UInt8) (l : List UInt8) (ao : Option Addr) (cap : Nat) (w : World)
    (hpc : w.cell? ⟨pb, po, none⟩ = some (.iface k.ity (.pointer (some ⟨b, 0, none⟩)))) (hS : Sl w ao cap l) (hsi : si ≤ l.length) (hl0 : 0 < l.length) (hN : NodeAt w k b [] n v c) (hin : i < n) (hi : ix n c (pvt l si) = i + 1) (lb : Nat) (s0 : SS) (hv : v i = .iface 267 (.pointer (some ⟨lb, 0, none⟩))) (hlf : Blk w lb (s0.cells (l.drop si)) 269) (Z : K → Nat → List UInt8 → Nat → (Nat → Value) → (Nat → UInt8) → Prop) (hpb : pb ≠ b) (hpf : w.frozen? ⟨pb, po, none⟩ = false) (_hpl : ([] : List UInt8).length ≤ 1099511627776)
    (hsh : ∀ W, NodeAt W k b [] (n - 1) (gone v n i) (gone c n i) → Kp (· = b) w W → Calls Tryz.prog k.fShrink #[.pointer (some ⟨b, 0, none⟩)] W fun e w' => ∃ k3 b3 pre3 n3 v3 c3, e = .returned (.iface k3.ity (.pointer (some ⟨b3, 0, none⟩))) ∧ b3 ≠ b ∧ b3 ≠ pb ∧ pre3.length ≤ 1099511627776 ∧ NodeAt w' k3 b3 pre3 n3 v3 c3 ∧ Ext W w' ∧ Z k3 b3 pre3 n3 v3 c3) :
    Calls Tryz.prog 197 #[.pointer (some ⟨tb, 0, none⟩), .pointer (some ⟨pb, po, none⟩), .slice ao l.length cap, .int .i64 si] w fun e w' => e = .returned (.tuple #[.pointer (some ⟨lb, 0, none⟩), .bool true]) ∧ ∃ k3 b3 pre3 n3 v3 c3, Z k3 b3 pre3 n3 v3 c3 ∧ NodeAt w' k3 b3 ([] ++ pre3) n3 v3 c3 ∧ Kp (fun x => x = b ∨ x = b3 ∨ x = pb) w w' ∧ Put pb po (.iface k3.ity (.pointer (some ⟨b3, 0, none⟩))) w w' := by
  have hm14 := m_base k b
  have HSh := Lib.hid hsh
  clear hsh
  have hci : c i = pvt l si := by have := ix_pos (n := n) (c := c) (x := pvt l si) (by omega); rw [hi, Nat.add_sub_cancel] at this; exact this.2
  have HL := Lib.hid hlf
  clear hlf
  have hm8 := m_isLeaf_leaf ⟨lb, 0, none⟩
  have hta := ta_leaf
  have hm9 := m_del k b
  have hm10 := c_del k
  have hm11 := m_shrink k b
  have hm12 := c_shrink k
  have hlt : pb < w.heap.size := World.block_lt_of_cell? w _ hpc
  have hl1 : ¬ ((l.length : Int) = 0) := by omega
  have HS := Lib.hid hS
  have HN := Lib.hid hN
  have hm := m_isLeaf k b
  have hm2 := m_base k b
  have hm3 := m_find k b
  have hm5 := c_find k
  have hsz0 : (str []).size = 0 := rfl
  clear hN hS hl0
  go_enter Tryz.func197, Tryz.ntmps197
  have hpre := HN.out.preCell
  go_wp2_with fail
  refine (metaIsLeaf _ _).mono ?_
  rintro e w2 ⟨rfl, rfl⟩
  go_wp2_with fail
  refine (metaBase _ _).mono ?_
  rintro e w2 ⟨rfl, rfl⟩
  go_wp2_with fail
  obtain ⟨wf, hwf⟩ : ∃ wf, wf = w := ⟨_, rfl⟩
  have HX : Hid (Ext w wf) := by rw [hwf]; exact Kp.refl _ _
  rw [← hwf]
  clear hwf
  replace HS := Lib.hid (HS.out.ext HX.out)
  replace HN := Lib.hid (HN.out.keep HX.out id)
  have hpcf : Hid _ := Lib.hid ((HX.out.cell id hlt).trans hpc)
  replace hpre := HN.out.preCell
  have hlt1 := Nat.lt_of_lt_of_le hlt HX.out.size
  have hvi := HN.out.childCell hin
  rw [hv] at hvi
  have hs2 : si ≤ 4611686018427387904 := Nat.le_trans ‹si ≤ l.length› HS.out.small
  go_wp2_with fail
  (with_reducible refine (pivot_int l ao cap si _ wf HS.out hs2 rfl).mono ?_)
  rintro e w3 ⟨rfl, rfl⟩
  have hfd := find_any k b [] n v c w3 (pvt l si) HN.out
  rw [fres, if_neg (by omega), hi, Nat.add_sub_cancel] at hfd
  clear hs2
  go_wp2_with fail
  refine hfd.mono ?_
  rintro e w4 ⟨rfl, rfl⟩
  clear hfd hm3 hm5
  go_wp2_with fail
  clear hvi hm
  have hcut2 := cutEnd36 (w := w3) HS.out ‹si ≤ l.length›
  have HSr := Lib.hid (HS.out.cutEnd ‹si ≤ l.length›)
  generalize l.drop si = r2 at hcut2 HSr HL
  have HL1 := Lib.hid (HL.out.keep HX.out id)
  have h5 : w3.cell? ⟨lb, 5, none⟩ = some (.string (str r2)) := (HL1.out.cell 5).trans rfl
  have hbq : (r2 == r2) = true := by simp
  refine (leafIsLeaf _ _).mono ?_
  rintro e w4 ⟨rfl, rfl⟩
  go_wp2_with fail
  (with_reducible refine (match_any lb (str r2) r2 _ _ w3 h5 HSr.out.bytes HSr.out.plain).mono ?_)
  rw [str_data, hbq]
  rintro e w5 ⟨rfl, hE5⟩
  have HX5 := Lib.hid (tail2 HX.out hE5)
  have HN5 := Lib.hid (HN.out.keep hE5 id)
  clear hE5 hcut2 HSr h5 hpre hta
  go_wp2_with fail
  have hdel := del_any k b [] n v c w5 i HN5.out hin
  rw [hci] at hdel
  refine hdel.mono ?_
  rintro e w6 ⟨rfl, hN6, hK6⟩
  have HK6 := Lib.hid ((HX5.out.kp (F := (· = b))).trans hK6 fun _ _ h => h)
  have HN6 := Lib.hid hN6
  clear hdel hN6 hK6 hm9 hm10
  go_wp2_with fail
  refine (HSh.out w6 HN6.out HK6.out).mono ?_
  rintro e w7 ⟨k3, b3, pre3, n3, v3, c3, rfl, hb3, hpb3, hl3, hN3, hX7, hZ⟩
  have HZ := Lib.hid hZ
  have HN3 := Lib.hid hN3
  have HK7 := Lib.hid (HK6.out.trans hX7 fun _ _ h => h.elim)
  have HN7 := Lib.hid (HN6.out.keep hX7 id)
  have hpre7 := HN7.out.preCell
  have hpre3 := HN3.out.preCell
  have f75 : w7.frozen? ⟨b3, k3.cap, none⟩ = false := by obtain ⟨cs, hB, _⟩ := hN3; exact hB.frozen _
  have hpc7 := (HK7.out.cell hpb hlt).trans hpc
  have hpf7 := (HK7.out.frozen hpb hlt).trans hpf
  have hm15 := m_isLeaf k3 b3
  have hm16 := m_base k3 b3
  have hsz3 := str_size pre3
  clear hX7 hZ hN3 hm11 hm12 hm8 hm2
  go_wp2_with fail
  refine (metaBase _ _).mono ?_
  rintro e w8 ⟨rfl, rfl⟩
  go_wp2_with fail
  refine (metaIsLeaf _ _).mono ?_
  rintro e w8 ⟨rfl, rfl⟩
  go_wp2_with fail
  go_ret2
  refine ⟨rfl, k3, b3, pre3, n3, v3, c3, HZ.out, ?_, Kp.setCell (HK7.out.mono fun _ _ h => .inl h) (.inl (.inr (.inr rfl))) _, ?_⟩
  · obtain ⟨cs, hB, hC⟩ := HN3.out
    exact ⟨_, hB.setOther hpb3 _, hC⟩
  · intro cs T h
    exact (h.keep HK7.out hpb).set _ _

set_option maxHeartbeats 2000000 in
theorem del_node1 (tb pb po b si i : Nat) (k : K) (n : Nat) (v : Nat → Value) (c : Nat → UInt8) (l : List UInt8) (ao : Option Addr) (cap : Nat) (w : World)
    (hpc : w.cell? ⟨pb, po, none⟩ = some (.iface k.ity (.pointer (some ⟨b, 0, none⟩)))) (hS : Sl w ao cap l) (hsi : si ≤ l.length) (hl0 : 0 < l.length) (pre : List UInt8) (q : Nat) (hq : si + pre.length = q) (hql : q ≤ l.length) (hp0 : 0 < pre.length) (hpm : (l.take q).drop si = pre) (hN : NodeAt w k b pre n v c) (hin : i < n) (hi : ix n c (pvt l q) = i + 1) (lb : Nat) (s0 : SS) (hv : v i = .iface 267 (.pointer (some ⟨lb, 0, none⟩))) (hlf : Blk w lb (s0.cells (l.drop q)) 269) (Z : K → Nat → List UInt8 → Nat → (Nat → Value) → (Nat → UInt8) → Prop) (hpb : pb ≠ b) (hpf : w.frozen? ⟨pb, po, none⟩ = false) (_hpl : (pre : List UInt8).length ≤ 1099511627776)
    (hsh : ∀ W, NodeAt W k b pre (n - 1) (gone v n i) (gone c n i) → Kp (· = b) w W → Calls Tryz.prog k.fShrink #[.pointer (some ⟨b, 0, none⟩)] W fun e w' => ∃ k3 b3 pre3 n3 v3 c3, e = .returned (.iface k3.ity (.pointer (some ⟨b3, 0, none⟩))) ∧ b3 ≠ b ∧ b3 ≠ pb ∧ pre3.length ≤ 1099511627776 ∧ NodeAt w' k3 b3 pre3 n3 v3 c3 ∧ Ext W w' ∧ Z k3 b3 pre3 n3 v3 c3) :
    Calls Tryz.prog 197 #[.pointer (some ⟨tb, 0, none⟩), .pointer (some ⟨pb, po, none⟩), .slice ao l.length cap, .int .i64 si] w fun e w' => e = .returned (.tuple #[.pointer (some ⟨lb, 0, none⟩), .bool true]) ∧ ∃ k3 b3 pre3 n3 v3 c3, Z k3 b3 pre3 n3 v3 c3 ∧ NodeAt w' k3 b3 (pre ++ pre3) n3 v3 c3 ∧ Kp (fun x => x = b ∨ x = b3 ∨ x = pb) w w' ∧ Put pb po (.iface k3.ity (.pointer (some ⟨b3, 0, none⟩))) w w' := by
  have hm14 := m_base k b
  have HSh := Lib.hid hsh
  clear hsh
  have hci : c i = pvt l q := by have := ix_pos (n := n) (c := c) (x := pvt l q) (by omega); rw [hi, Nat.add_sub_cancel] at this; exact this.2
  have HL := Lib.hid hlf
  clear hlf
  have hm8 := m_isLeaf_leaf ⟨lb, 0, none⟩
  have hta := ta_leaf
  have hm9 := m_del k b
  have hm10 := c_del k
  have hm11 := m_shrink k b
  have hm12 := c_shrink k
  have hlt : pb < w.heap.size := World.block_lt_of_cell? w _ hpc
  have hl1 : ¬ ((l.length : Int) = 0) := by omega
  have HS := Lib.hid hS
  have HN := Lib.hid hN
  have hm := m_isLeaf k b
  have hm2 := m_base k b
  have hm3 := m_find k b
  have hm5 := c_find k
  have hsz := str_size pre
  clear hN hS hl0
  go_enter Tryz.func197, Tryz.ntmps197
  have hpre := HN.out.preCell
  go_wp2_with fail
  refine (metaIsLeaf _ _).mono ?_
  rintro e w2 ⟨rfl, rfl⟩
  go_wp2_with fail
  refine (metaBase _ _).mono ?_
  rintro e w2 ⟨rfl, rfl⟩
  have hmz : (0 : Int) < (pre.length : Int) := by omega
  have hqi : (si : Int) + (pre.length : Int) = (q : Int) := by rw [← hq]; rfl
  have hnl : ¬ ((l.length : Int) < (q : Int)) := by omega
  have hcutm := cut36 (w := w) HS.out (k := si) (m := q) (by omega) hql
  have HSm := Lib.hid (HS.out.cut (k := si) (m := q) (by omega) hql)
  rw [hpm] at hcutm HSm
  have hcv : ∀ n, (convert 36 9 (.slice (cutAt ao cap si) pre.length (cap - si))).run Tryz.prog (w.drewN n) = .ok (.string (str pre)) (w.drewN n) := fun n => conv_str (w := w.drewN n) HSm.out.bytes HSm.out.plain (cap - si)
  have hqq : ((str pre).toList == (str pre).toList) = true := by simp
  clear hpm hq
  have hll := HS.out.small
  go_wp2_with fail
  go_quiet (fail)
  obtain ⟨wf, hwf⟩ : ∃ wf, w.drewN nq = wf := ⟨_, rfl⟩
  rw [hwf]
  have HX : Hid (Ext w wf) := by rw [← hwf]; exact (Kp.refl _ _).drewN _
  clear hcutm HSm hcv hqq hwf
  replace HS := Lib.hid (HS.out.ext HX.out)
  replace HN := Lib.hid (HN.out.keep HX.out id)
  have hpcf : Hid _ := Lib.hid ((HX.out.cell id hlt).trans hpc)
  replace hpre := HN.out.preCell
  have hlt1 := Nat.lt_of_lt_of_le hlt HX.out.size
  have hvi := HN.out.childCell hin
  rw [hv] at hvi
  have hs2 : q ≤ 4611686018427387904 := Nat.le_trans ‹q ≤ l.length› HS.out.small
  go_wp2_with fail
  (with_reducible refine (pivot_int l ao cap q _ wf HS.out hs2 rfl).mono ?_)
  rintro e w3 ⟨rfl, rfl⟩
  have hfd := find_any k b pre n v c w3 (pvt l q) HN.out
  rw [fres, if_neg (by omega), hi, Nat.add_sub_cancel] at hfd
  clear hs2
  go_wp2_with fail
  refine hfd.mono ?_
  rintro e w4 ⟨rfl, rfl⟩
  clear hfd hm3 hm5
  go_wp2_with fail
  clear hvi hm
  have hcut2 := cutEnd36 (w := w3) HS.out ‹q ≤ l.length›
  have HSr := Lib.hid (HS.out.cutEnd ‹q ≤ l.length›)
  generalize l.drop q = r2 at hcut2 HSr HL
  have HL1 := Lib.hid (HL.out.keep HX.out id)
  have h5 : w3.cell? ⟨lb, 5, none⟩ = some (.string (str r2)) := (HL1.out.cell 5).trans rfl
  have hbq : (r2 == r2) = true := by simp
  refine (leafIsLeaf _ _).mono ?_
  rintro e w4 ⟨rfl, rfl⟩
  go_wp2_with fail
  (with_reducible refine (match_any lb (str r2) r2 _ _ w3 h5 HSr.out.bytes HSr.out.plain).mono ?_)
  rw [str_data, hbq]
  rintro e w5 ⟨rfl, hE5⟩
  have HX5 := Lib.hid (tail2 HX.out hE5)
  have HN5 := Lib.hid (HN.out.keep hE5 id)
  clear hE5 hcut2 HSr h5 hpre hta
  go_wp2_with fail
  have hdel := del_any k b pre n v c w5 i HN5.out hin
  rw [hci] at hdel
  refine hdel.mono ?_
  rintro e w6 ⟨rfl, hN6, hK6⟩
  have HK6 := Lib.hid ((HX5.out.kp (F := (· = b))).trans hK6 fun _ _ h => h)
  have HN6 := Lib.hid hN6
  clear hdel hN6 hK6 hm9 hm10
  go_wp2_with fail
  refine (HSh.out w6 HN6.out HK6.out).mono ?_
  rintro e w7 ⟨k3, b3, pre3, n3, v3, c3, rfl, hb3, hpb3, hl3, hN3, hX7, hZ⟩
  have HZ := Lib.hid hZ
  have HN3 := Lib.hid hN3
  have HK7 := Lib.hid (HK6.out.trans hX7 fun _ _ h => h.elim)
  have HN7 := Lib.hid (HN6.out.keep hX7 id)
  have hpre7 := HN7.out.preCell
  have hpre3 := HN3.out.preCell
  have f75 : w7.frozen? ⟨b3, k3.cap, none⟩ = false := by obtain ⟨cs, hB, _⟩ := hN3; exact hB.frozen _
  have hpc7 := (HK7.out.cell hpb hlt).trans hpc
  have hpf7 := (HK7.out.frozen hpb hlt).trans hpf
  have hm15 := m_isLeaf k3 b3
  have hm16 := m_base k3 b3
  have hsz3 := str_size pre3
  clear hX7 hZ hN3 hm11 hm12 hm8 hm2
  go_wp2_with fail
  refine (metaBase _ _).mono ?_
  rintro e w8 ⟨rfl, rfl⟩
  go_wp2_with fail
  refine (metaIsLeaf _ _).mono ?_
  rintro e w8 ⟨rfl, rfl⟩
  go_wp2_with fail
  refine (metaBase _ _).mono ?_
  rintro e w8 ⟨rfl, rfl⟩
  go_wp2_with fail
  go_ret2
  refine ⟨rfl, k3, b3, pre3, n3, v3, c3, HZ.out, ?_, Kp.setCell (Kp.setCell (HK7.out.mono fun _ _ h => .inl h) (.inl (.inr (.inl rfl))) _) (.inl (.inr (.inr rfl))) _, ?_⟩
  · rw [str_append]
    obtain ⟨cs, hB, hC⟩ := HN3.out
    exact ⟨_, (hB.set _ _).setOther hpb3 _, hC.setPre _⟩
  · intro cs T h
    exact ((h.keep HK7.out hpb).setOther (Ne.symm hpb3) _).set _ _

end Go.Proofs.YtbehafhkgbjgmaaGreatDoor
