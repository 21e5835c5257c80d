/-
  The tree of subjects: 'delete' of a text that is there, step by step. No condition beyond that the texts are short and bear no byte 127.
-/
import Derived.Test.YtbehafhkgbjgmaaGreatDoorMb08
namespace Go.Proofs.YtbehafhkgbjgmaaGreatDoor
open Go Go.RowKit
set_option maxRecDepth 100000

theorem str_append (a b : List UInt8) : str a ++ str b = str (a ++ b) := by
  apply ByteArray.ext
  simp [str]
theorem shrink_one (k : K) (b : Nat) (pre : List UInt8) (n : Nat) (v : Nat → Value) (c : Nat → UInt8) (w : World) (hk : k = .k4) (hn : n = 1) (h : NodeAt w k b pre n v c) :
    Calls Tryz.prog k.fShrink #[.pointer (some ⟨b, 0, none⟩)] w fun e w' => e = .returned (v 0) ∧ w = w' := by
  subst hk hn
  exact shrink_k4 b pre v c w h
theorem shrink_prev (k : K) (b : Nat) (pre : List UInt8) (n : Nat) (v : Nat → Value) (c : Nat → UInt8) (w : World) (hk : k ≠ .k4) (hn1 : 1 ≤ n) (hn : n ≤ k.low) (h : NodeAt w k b pre n v c) :
    Calls Tryz.prog k.fShrink #[.pointer (some ⟨b, 0, none⟩)] w fun e w' => ∃ g v' c', w.heap.size ≤ g ∧ e = .returned (.iface k.prev.ity (.pointer (some ⟨g, 0, none⟩))) ∧ NodeAt w' k.prev g [] n v' c' ∧ Moved n v c 256 n v' c' ∧ Ext w w' := by
  refine (shrink_any k b pre n v c w h hn1).mono ?_
  rintro e w' (⟨h1, _⟩ | ⟨h1, _⟩ | ⟨_, h1⟩)
  · omega
  · exact absurd h1 hk
  · exact h1
set_option maxHeartbeats 2000000 in
theorem del_desc0 (tb pb po b si i : Nat) (k : K) (n : Nat) (v : Nat → Value) (c : Nat → UInt8) (l : List UInt8) (ao : Option Addr) (cap : Nat) (w : World)
    (hpc : w.cell? ⟨pb, po, none⟩ = some (.iface k.ity (.pointer (some ⟨b, 0, none⟩)))) (hS : Sl w ao cap l) (hsi : si ≤ l.length) (hl0 : 0 < l.length) (hN : NodeAt w k b [] n v c) (hin : i < n) (hi : ix n c (pvt l si) = i + 1) (k2 : K) (b2 : Nat) (hv : v i = .iface k2.ity (.pointer (some ⟨b2, 0, none⟩))) (x : Ending) (hx : ∃ a c, x = .returned (.tuple #[a, c])) (R : World → World → Prop)
    (hrec : ∀ W, Ext w W → Calls Tryz.prog 197 #[.pointer (some ⟨tb, 0, none⟩), .pointer (some ⟨b, i, none⟩), .slice ao l.length cap, .int .i64 si] W fun e w' => e = x ∧ R W w') :
    Calls Tryz.prog 197 #[.pointer (some ⟨tb, 0, none⟩), .pointer (some ⟨pb, po, none⟩), .slice ao l.length cap, .int .i64 si] w fun e w' => e = x ∧ ∃ W, Ext w W ∧ R W w' := by
  obtain ⟨xa, xc, rfl⟩ := hx
  have HR := Lib.hid hrec
  clear hrec
  have hm8 := m_isLeaf k2 b2
  have hlt : pb < w.heap.size := World.block_lt_of_cell? w _ hpc
  have hl1 : ¬ ((l.length : Int) = 0) := by omega
  have HS := Lib.hid hS
  have HN := Lib.hid hN
  have hm := m_isLeaf k b
  have hm2 := m_base k b
  have hm3 := m_find k b
  have hm5 := c_find k
  have hsz0 : (str []).size = 0 := rfl
  clear hN hS hl0
  go_enter Tryz.func197, Tryz.ntmps197
  have hpre := HN.out.preCell
  go_wp2_with fail
  refine (metaIsLeaf _ _).mono ?_
  rintro e w2 ⟨rfl, rfl⟩
  go_wp2_with fail
  refine (metaBase _ _).mono ?_
  rintro e w2 ⟨rfl, rfl⟩
  go_wp2_with fail
  obtain ⟨wf, hwf⟩ : ∃ wf, wf = w := ⟨_, rfl⟩
  have HX : Hid (Ext w wf) := by rw [hwf]; exact Kp.refl _ _
  rw [← hwf]
  clear hwf
  replace HS := Lib.hid (HS.out.ext HX.out)
  replace HN := Lib.hid (HN.out.keep HX.out id)
  have hpcf : Hid _ := Lib.hid ((HX.out.cell id hlt).trans hpc)
  replace hpre := HN.out.preCell
  have hlt1 := Nat.lt_of_lt_of_le hlt HX.out.size
  have hvi := HN.out.childCell hin
  rw [hv] at hvi
  have hs2 : si ≤ 4611686018427387904 := Nat.le_trans ‹si ≤ l.length› HS.out.small
  go_wp2_with fail
  (with_reducible refine (pivot_int l ao cap si _ wf HS.out hs2 rfl).mono ?_)
  rintro e w3 ⟨rfl, rfl⟩
  have hfd := find_any k b [] n v c w3 (pvt l si) HN.out
  rw [fres, if_neg (by omega), hi, Nat.add_sub_cancel] at hfd
  clear hs2
  go_wp2_with fail
  refine hfd.mono ?_
  rintro e w4 ⟨rfl, rfl⟩
  clear hfd hm3 hm5
  go_wp2_with fail
  refine (metaIsLeaf _ _).mono ?_
  rintro e w5 ⟨rfl, rfl⟩
  go_wp2_with fail
  refine (HR.out _ HX.out).mono ?_
  rintro e w6 ⟨rfl, hR⟩
  have HRR := Lib.hid hR
  clear hR
  go_wp2_with fail
  go_ret2
  exact ⟨rfl, _, HX.out, HRR.out⟩

set_option maxHeartbeats 2000000 in
theorem del_desc1 (tb pb po b si i : Nat) (k : K) (n : Nat) (v : Nat → Value) (c : Nat → UInt8) (l : List UInt8) (ao : Option Addr) (cap : Nat) (w : World)
    (hpc : w.cell? ⟨pb, po, none⟩ = some (.iface k.ity (.pointer (some ⟨b, 0, none⟩)))) (hS : Sl w ao cap l) (hsi : si ≤ l.length) (hl0 : 0 < l.length) (pre : List UInt8) (q : Nat) (hq : si + pre.length = q) (hql : q ≤ l.length) (hp0 : 0 < pre.length) (hpm : (l.take q).drop si = pre) (hN : NodeAt w k b pre n v c) (hin : i < n) (hi : ix n c (pvt l q) = i + 1) (k2 : K) (b2 : Nat) (hv : v i = .iface k2.ity (.pointer (some ⟨b2, 0, none⟩))) (x : Ending) (hx : ∃ a c, x = .returned (.tuple #[a, c])) (R : World → World → Prop)
    (hrec : ∀ W, Ext w W → Calls Tryz.prog 197 #[.pointer (some ⟨tb, 0, none⟩), .pointer (some ⟨b, i, none⟩), .slice ao l.length cap, .int .i64 q] W fun e w' => e = x ∧ R W w') :
    Calls Tryz.prog 197 #[.pointer (some ⟨tb, 0, none⟩), .pointer (some ⟨pb, po, none⟩), .slice ao l.length cap, .int .i64 si] w fun e w' => e = x ∧ ∃ W, Ext w W ∧ R W w' := by
  obtain ⟨xa, xc, rfl⟩ := hx
  have HR := Lib.hid hrec
  clear hrec
  have hm8 := m_isLeaf k2 b2
  have hlt : pb < w.heap.size := World.block_lt_of_cell? w _ hpc
  have hl1 : ¬ ((l.length : Int) = 0) := by omega
  have HS := Lib.hid hS
  have HN := Lib.hid hN
  have hm := m_isLeaf k b
  have hm2 := m_base k b
  have hm3 := m_find k b
  have hm5 := c_find k
  have hsz := str_size pre
  clear hN hS hl0
  go_enter Tryz.func197, Tryz.ntmps197
  have hpre := HN.out.preCell
  go_wp2_with fail
  refine (metaIsLeaf _ _).mono ?_
  rintro e w2 ⟨rfl, rfl⟩
  go_wp2_with fail
  refine (metaBase _ _).mono ?_
  rintro e w2 ⟨rfl, rfl⟩
  have hmz : (0 : Int) < (pre.length : Int) := by omega
  have hqi : (si : Int) + (pre.length : Int) = (q : Int) := by rw [← hq]; rfl
  have hnl : ¬ ((l.length : Int) < (q : Int)) := by omega
  have hcutm := cut36 (w := w) HS.out (k := si) (m := q) (by omega) hql
  have HSm := Lib.hid (HS.out.cut (k := si) (m := q) (by omega) hql)
  rw [hpm] at hcutm HSm
  have hcv : ∀ n, (convert 36 9 (.slice (cutAt ao cap si) pre.length (cap - si))).run Tryz.prog (w.drewN n) = .ok (.string (str pre)) (w.drewN n) := fun n => conv_str (w := w.drewN n) HSm.out.bytes HSm.out.plain (cap - si)
  have hqq : ((str pre).toList == (str pre).toList) = true := by simp
  clear hpm hq
  have hll := HS.out.small
  go_wp2_with fail
  go_quiet (fail)
  obtain ⟨wf, hwf⟩ : ∃ wf, w.drewN nq = wf := ⟨_, rfl⟩
  rw [hwf]
  have HX : Hid (Ext w wf) := by rw [← hwf]; exact (Kp.refl _ _).drewN _
  clear hcutm HSm hcv hqq hwf
  replace HS := Lib.hid (HS.out.ext HX.out)
  replace HN := Lib.hid (HN.out.keep HX.out id)
  have hpcf : Hid _ := Lib.hid ((HX.out.cell id hlt).trans hpc)
  replace hpre := HN.out.preCell
  have hlt1 := Nat.lt_of_lt_of_le hlt HX.out.size
  have hvi := HN.out.childCell hin
  rw [hv] at hvi
  have hs2 : q ≤ 4611686018427387904 := Nat.le_trans ‹q ≤ l.length› HS.out.small
  go_wp2_with fail
  (with_reducible refine (pivot_int l ao cap q _ wf HS.out hs2 rfl).mono ?_)
  rintro e w3 ⟨rfl, rfl⟩
  have hfd := find_any k b pre n v c w3 (pvt l q) HN.out
  rw [fres, if_neg (by omega), hi, Nat.add_sub_cancel] at hfd
  clear hs2
  go_wp2_with fail
  refine hfd.mono ?_
  rintro e w4 ⟨rfl, rfl⟩
  clear hfd hm3 hm5
  go_wp2_with fail
  refine (metaIsLeaf _ _).mono ?_
  rintro e w5 ⟨rfl, rfl⟩
  go_wp2_with fail
  refine (HR.out _ HX.out).mono ?_
  rintro e w6 ⟨rfl, hR⟩
  have HRR := Lib.hid hR
  clear hR
  go_wp2_with fail
  go_ret2
  exact ⟨rfl, _, HX.out, HRR.out⟩

set_option maxHeartbeats 2000000 in
theorem del_stay0 (tb pb po b si i : Nat) (k : K) (n : Nat) (v : Nat → Value) (c : Nat → UInt8) (l : List UInt8) (ao : Option Addr) (cap : Nat) (w : World)
    (hpc : w.cell? ⟨pb, po, none⟩ = some (.iface k.ity (.pointer (some ⟨b, 0, none⟩)))) (hS : Sl w ao cap l) (hsi : si ≤ l.length) (hl0 : 0 < l.length) (hN : NodeAt w k b [] n v c) (hin : i < n) (hi : ix n c (pvt l si) = i + 1) (lb : Nat) (s0 : SS) (hv : v i = .iface 267 (.pointer (some ⟨lb, 0, none⟩))) (hlf : Blk w lb (s0.cells (l.drop si)) 269) (hlow : k.low < n - 1) :
    Calls Tryz.prog 197 #[.pointer (some ⟨tb, 0, none⟩), .pointer (some ⟨pb, po, none⟩), .slice ao l.length cap, .int .i64 si] w fun e w' => e = .returned (.tuple #[.pointer (some ⟨lb, 0, none⟩), .bool true]) ∧ NodeAt w' k b [] (n - 1) (gone v n i) (gone c n i) ∧ Kp (· = b) w w' := by
  have hci : c i = pvt l si := by have := ix_pos (n := n) (c := c) (x := pvt l si) (by omega); rw [hi, Nat.add_sub_cancel] at this; exact this.2
  have HL := Lib.hid hlf
  clear hlf
  have hm8 := m_isLeaf_leaf ⟨lb, 0, none⟩
  have hta := ta_leaf
  have hm9 := m_del k b
  have hm10 := c_del k
  have hm11 := m_shrink k b
  have hm12 := c_shrink k
  have hlt : pb < w.heap.size := World.block_lt_of_cell? w _ hpc
  have hl1 : ¬ ((l.length : Int) = 0) := by omega
  have HS := Lib.hid hS
  have HN := Lib.hid hN
  have hm := m_isLeaf k b
  have hm2 := m_base k b
  have hm3 := m_find k b
  have hm5 := c_find k
  have hsz0 : (str []).size = 0 := rfl
  clear hN hS hl0
  go_enter Tryz.func197, Tryz.ntmps197
  have hpre := HN.out.preCell
  go_wp2_with fail
  refine (metaIsLeaf _ _).mono ?_
  rintro e w2 ⟨rfl, rfl⟩
  go_wp2_with fail
  refine (metaBase _ _).mono ?_
  rintro e w2 ⟨rfl, rfl⟩
  go_wp2_with fail
  obtain ⟨wf, hwf⟩ : ∃ wf, wf = w := ⟨_, rfl⟩
  have HX : Hid (Ext w wf) := by rw [hwf]; exact Kp.refl _ _
  rw [← hwf]
  clear hwf
  replace HS := Lib.hid (HS.out.ext HX.out)
  replace HN := Lib.hid (HN.out.keep HX.out id)
  have hpcf : Hid _ := Lib.hid ((HX.out.cell id hlt).trans hpc)
  replace hpre := HN.out.preCell
  have hlt1 := Nat.lt_of_lt_of_le hlt HX.out.size
  have hvi := HN.out.childCell hin
  rw [hv] at hvi
  have hs2 : si ≤ 4611686018427387904 := Nat.le_trans ‹si ≤ l.length› HS.out.small
  go_wp2_with fail
  (with_reducible refine (pivot_int l ao cap si _ wf HS.out hs2 rfl).mono ?_)
  rintro e w3 ⟨rfl, rfl⟩
  have hfd := find_any k b [] n v c w3 (pvt l si) HN.out
  rw [fres, if_neg (by omega), hi, Nat.add_sub_cancel] at hfd
  clear hs2
  go_wp2_with fail
  refine hfd.mono ?_
  rintro e w4 ⟨rfl, rfl⟩
  clear hfd hm3 hm5
  go_wp2_with fail
  clear hvi hm
  have hcut2 := cutEnd36 (w := w3) HS.out ‹si ≤ l.length›
  have HSr := Lib.hid (HS.out.cutEnd ‹si ≤ l.length›)
  generalize l.drop si = r2 at hcut2 HSr HL
  have HL1 := Lib.hid (HL.out.keep HX.out id)
  have h5 : w3.cell? ⟨lb, 5, none⟩ = some (.string (str r2)) := (HL1.out.cell 5).trans rfl
  have hbq : (r2 == r2) = true := by simp
  refine (leafIsLeaf _ _).mono ?_
  rintro e w4 ⟨rfl, rfl⟩
  go_wp2_with fail
  (with_reducible refine (match_any lb (str r2) r2 _ _ w3 h5 HSr.out.bytes HSr.out.plain).mono ?_)
  rw [str_data, hbq]
  rintro e w5 ⟨rfl, hE5⟩
  have HX5 := Lib.hid (tail2 HX.out hE5)
  have HN5 := Lib.hid (HN.out.keep hE5 id)
  clear hE5 hcut2 HSr h5 hpre hta
  go_wp2_with fail
  have hdel := del_any k b [] n v c w5 i HN5.out hin
  rw [hci] at hdel
  refine hdel.mono ?_
  rintro e w6 ⟨rfl, hN6, hK6⟩
  have HK6 := Lib.hid ((HX5.out.kp (F := (· = b))).trans hK6 fun _ _ h => h)
  have HN6 := Lib.hid hN6
  clear hdel hN6 hK6 hm9 hm10
  go_wp2_with fail
  have hsh := shrink_any k b _ (n - 1) (gone v n i) (gone c n i) w6 HN6.out (by omega)
  refine hsh.mono ?_
  clear hsh
  rintro e w7 (⟨_, rfl, rfl⟩ | ⟨rfl, h, _⟩ | ⟨h, _⟩)
  · go_wp2_with fail
    go_ret2
    exact ⟨rfl, HN6.out, HK6.out⟩
  · simp [K.low] at hlow; omega
  · omega

set_option maxHeartbeats 2000000 in
theorem del_stay1 (tb pb po b si i : Nat) (k : K) (n : Nat) (v : Nat → Value) (c : Nat → UInt8) (l : List UInt8) (ao : Option Addr) (cap : Nat) (w : World)
    (hpc : w.cell? ⟨pb, po, none⟩ = some (.iface k.ity (.pointer (some ⟨b, 0, none⟩)))) (hS : Sl w ao cap l) (hsi : si ≤ l.length) (hl0 : 0 < l.length) (pre : List UInt8) (q : Nat) (hq : si + pre.length = q) (hql : q ≤ l.length) (hp0 : 0 < pre.length) (hpm : (l.take q).drop si = pre) (hN : NodeAt w k b pre n v c) (hin : i < n) (hi : ix n c (pvt l q) = i + 1) (lb : Nat) (s0 : SS) (hv : v i = .iface 267 (.pointer (some ⟨lb, 0, none⟩))) (hlf : Blk w lb (s0.cells (l.drop q)) 269) (hlow : k.low < n - 1) :
    Calls Tryz.prog 197 #[.pointer (some ⟨tb, 0, none⟩), .pointer (some ⟨pb, po, none⟩), .slice ao l.length cap, .int .i64 si] w fun e w' => e = .returned (.tuple #[.pointer (some ⟨lb, 0, none⟩), .bool true]) ∧ NodeAt w' k b pre (n - 1) (gone v n i) (gone c n i) ∧ Kp (· = b) w w' := by
  have hci : c i = pvt l q := by have := ix_pos (n := n) (c := c) (x := pvt l q) (by omega); rw [hi, Nat.add_sub_cancel] at this; exact this.2
  have HL := Lib.hid hlf
  clear hlf
  have hm8 := m_isLeaf_leaf ⟨lb, 0, none⟩
  have hta := ta_leaf
  have hm9 := m_del k b
  have hm10 := c_del k
  have hm11 := m_shrink k b
  have hm12 := c_shrink k
  have hlt : pb < w.heap.size := World.block_lt_of_cell? w _ hpc
  have hl1 : ¬ ((l.length : Int) = 0) := by omega
  have HS := Lib.hid hS
  have HN := Lib.hid hN
  have hm := m_isLeaf k b
  have hm2 := m_base k b
  have hm3 := m_find k b
  have hm5 := c_find k
  have hsz := str_size pre
  clear hN hS hl0
  go_enter Tryz.func197, Tryz.ntmps197
  have hpre := HN.out.preCell
  go_wp2_with fail
  refine (metaIsLeaf _ _).mono ?_
  rintro e w2 ⟨rfl, rfl⟩
  go_wp2_with fail
  refine (metaBase _ _).mono ?_
  rintro e w2 ⟨rfl, rfl⟩
  have hmz : (0 : Int) < (pre.length : Int) := by omega
  have hqi : (si : Int) + (pre.length : Int) = (q : Int) := by rw [← hq]; rfl
  have hnl : ¬ ((l.length : Int) < (q : Int)) := by omega
  have hcutm := cut36 (w := w) HS.out (k := si) (m := q) (by omega) hql
  have HSm := Lib.hid (HS.out.cut (k := si) (m := q) (by omega) hql)
  rw [hpm] at hcutm HSm
  have hcv : ∀ n, (convert 36 9 (.slice (cutAt ao cap si) pre.length (cap - si))).run Tryz.prog (w.drewN n) = .ok (.string (str pre)) (w.drewN n) := fun n => conv_str (w := w.drewN n) HSm.out.bytes HSm.out.plain (cap - si)
  have hqq : ((str pre).toList == (str pre).toList) = true := by simp
  clear hpm hq
  have hll := HS.out.small
  go_wp2_with fail
  go_quiet (fail)
  obtain ⟨wf, hwf⟩ : ∃ wf, w.drewN nq = wf := ⟨_, rfl⟩
  rw [hwf]
  have HX : Hid (Ext w wf) := by rw [← hwf]; exact (Kp.refl _ _).drewN _
  clear hcutm HSm hcv hqq hwf
  replace HS := Lib.hid (HS.out.ext HX.out)
  replace HN := Lib.hid (HN.out.keep HX.out id)
  have hpcf : Hid _ := Lib.hid ((HX.out.cell id hlt).trans hpc)
  replace hpre := HN.out.preCell
  have hlt1 := Nat.lt_of_lt_of_le hlt HX.out.size
  have hvi := HN.out.childCell hin
  rw [hv] at hvi
  have hs2 : q ≤ 4611686018427387904 := Nat.le_trans ‹q ≤ l.length› HS.out.small
  go_wp2_with fail
  (with_reducible refine (pivot_int l ao cap q _ wf HS.out hs2 rfl).mono ?_)
  rintro e w3 ⟨rfl, rfl⟩
  have hfd := find_any k b pre n v c w3 (pvt l q) HN.out
  rw [fres, if_neg (by omega), hi, Nat.add_sub_cancel] at hfd
  clear hs2
  go_wp2_with fail
  refine hfd.mono ?_
  rintro e w4 ⟨rfl, rfl⟩
  clear hfd hm3 hm5
  go_wp2_with fail
  clear hvi hm
  have hcut2 := cutEnd36 (w := w3) HS.out ‹q ≤ l.length›
  have HSr := Lib.hid (HS.out.cutEnd ‹q ≤ l.length›)
  generalize l.drop q = r2 at hcut2 HSr HL
  have HL1 := Lib.hid (HL.out.keep HX.out id)
  have h5 : w3.cell? ⟨lb, 5, none⟩ = some (.string (str r2)) := (HL1.out.cell 5).trans rfl
  have hbq : (r2 == r2) = true := by simp
  refine (leafIsLeaf _ _).mono ?_
  rintro e w4 ⟨rfl, rfl⟩
  go_wp2_with fail
  (with_reducible refine (match_any lb (str r2) r2 _ _ w3 h5 HSr.out.bytes HSr.out.plain).mono ?_)
  rw [str_data, hbq]
  rintro e w5 ⟨rfl, hE5⟩
  have HX5 := Lib.hid (tail2 HX.out hE5)
  have HN5 := Lib.hid (HN.out.keep hE5 id)
  clear hE5 hcut2 HSr h5 hpre hta
  go_wp2_with fail
  have hdel := del_any k b pre n v c w5 i HN5.out hin
  rw [hci] at hdel
  refine hdel.mono ?_
  rintro e w6 ⟨rfl, hN6, hK6⟩
  have HK6 := Lib.hid ((HX5.out.kp (F := (· = b))).trans hK6 fun _ _ h => h)
  have HN6 := Lib.hid hN6
  clear hdel hN6 hK6 hm9 hm10
  go_wp2_with fail
  have hsh := shrink_any k b _ (n - 1) (gone v n i) (gone c n i) w6 HN6.out (by omega)
  refine hsh.mono ?_
  clear hsh
  rintro e w7 (⟨_, rfl, rfl⟩ | ⟨rfl, h, _⟩ | ⟨h, _⟩)
  · go_wp2_with fail
    go_ret2
    exact ⟨rfl, HN6.out, HK6.out⟩
  · simp [K.low] at hlow; omega
  · omega

end Go.Proofs.YtbehafhkgbjgmaaGreatDoor
