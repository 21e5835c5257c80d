/-
  The tree of subjects: 'insert' at an empty place, and at a leaf that is to be parted. No condition beyond that the texts are short and bear no byte 127.
-/
import Derived.Test.YtbehafhkgbjgmaaGreatDoorMb07
namespace Go.Proofs.YtbehafhkgbjgmaaGreatDoor
open Go Go.RowKit
set_option maxRecDepth 100000

/-- The cell at po of the block pb has turned to v', and nothing else of that block. -/
def Put (pb po : Nat) (v' : Value) (w w' : World) : Prop := ∀ cs T, Blk w pb cs T → Blk w' pb (cs.setIfInBounds po v') T
/-- What 'insert' answers at a new text. -/
def newOne : Ending := .returned (.tuple #[.pointer none, .bool false])

theorem slBytes (w : World) (l : List UInt8) (hl : l.length ≤ 4611686018427387904) : ∃ cap, (convert 9 36 (.string (str l))).run Tryz.prog w = .ok (.slice (some ⟨w.heap.size, 0, none⟩) l.length cap) (Lib.bytesWorld w 5 (str l)) ∧
    Sl (Lib.bytesWorld w 5 (str l)) (some ⟨w.heap.size, 0, none⟩) cap l := by
  have hcv := Lib.run_convert_string_bytes (P := Tryz.prog) w 9 36 5 (str l) Tryz.underlying9 Tryz.underlying36 Tryz.underlying5
  refine ⟨_, hcv.trans (by rw [str_size]), ?_, ?_, ?_, hl⟩
  · have := bytes_bytesWorld w (str l)
    rwa [str_data] at this
  · exact ⟨fun h => by simp at h, fun a h => by simp at h; subst h; rfl⟩
  · exact grownCap_ge _ _ _ _

/-- What '[]byte(s)' leaves. -/
def NewSl (l : List UInt8) (w : World) (e : Ending) (w' : World) : Prop :=
  ∃ b cap, w.heap.size ≤ b ∧ e = .returned (.slice (some ⟨b, 0, none⟩) l.length cap) ∧ Sl w' (some ⟨b, 0, none⟩) cap l ∧ Ext w w'
set_option maxHeartbeats 400000 in
theorem toB99 (l : List UInt8) (w : World) (hl : l.length ≤ 4611686018427387904) : Calls Tryz.prog 99 #[.string (str l)] w (NewSl l w) := by
  obtain ⟨cap, hcv, hS⟩ := slBytes w l hl
  go_enter Tryz.func99, Tryz.ntmps99
  go_wp2
  go_ret
  exact ⟨w.heap.size, _, Nat.le_refl _, rfl, hS, ext_bytesWorld w 5 _⟩
set_option maxHeartbeats 400000 in
theorem toB238 (l : List UInt8) (w : World) (hl : l.length ≤ 4611686018427387904) : Calls Tryz.prog 238 #[.string (str l)] w (NewSl l w) := by
  obtain ⟨cap, hcv, hS⟩ := slBytes w l hl
  go_enter Tryz.func238, Tryz.ntmps238
  go_wp2
  go_ret
  exact ⟨w.heap.size, _, Nat.le_refl _, rfl, hS, ext_bytesWorld w 5 _⟩

theorem cpl_take : ∀ l m : List UInt8, l.take (cpl l m) = m.take (cpl l m)
  | [], m => by simp [cpl]
  | a :: l, [] => by simp [cpl]
  | a :: l, b :: m => by
    simp only [cpl]
    split
    · rename_i h; simp [h, cpl_take l m]
    · simp
theorem cpl_max : ∀ l m : List UInt8, cpl l m < l.length → cpl l m < m.length → l[cpl l m]? ≠ m[cpl l m]?
  | [], m => by simp
  | a :: l, [] => by simp
  | a :: l, b :: m => by
    simp only [cpl, List.length_cons]
    split
    · intro h1 h2
      simpa using cpl_max l m (by omega) (by omega)
    · rename_i h
      intro _ _
      simpa using h
theorem pvt_in {l : List UInt8} {k : Nat} (h : k < l.length) : pvt l k ∈ l := by
  unfold pvt List.getD
  rw [List.getElem?_eq_getElem h]
  simp
theorem split_ne {l m : List UInt8} (hne : m ≠ l) (hl : (127 : UInt8) ∉ l) (hm : (127 : UInt8) ∉ m) : pvt m (cpl l m) ≠ pvt l (cpl l m) := by
  have hle := cpl_le l m
  intro he
  by_cases h1 : cpl l m < l.length
  · by_cases h2 : cpl l m < m.length
    · refine cpl_max l m h1 h2 ?_
      unfold pvt List.getD at he
      rw [List.getElem?_eq_getElem h1, List.getElem?_eq_getElem h2] at he ⊢
      simp at he
      rw [he]
    · refine hl ?_
      have : pvt m (cpl l m) = 127 := by unfold pvt List.getD; rw [List.getElem?_eq_none (by omega)]; rfl
      rw [← this, he]
      exact pvt_in h1
  · by_cases h2 : cpl l m < m.length
    · refine hm ?_
      have : pvt l (cpl l m) = 127 := by unfold pvt List.getD; rw [List.getElem?_eq_none (by omega)]; rfl
      rw [← this, ← he]
      exact pvt_in h2
    · have := cpl_take l m
      rw [List.take_of_length_le (by omega), List.take_of_length_le (by omega)] at this
      exact hne this.symm
theorem newLeafA (l : List UInt8) (ao : Option Addr) (cap : Nat) (s : SS) (w : World) (hb : BytesAt w ao l) (hp : Plain ao l) :
    Calls Tryz.prog 236 #[.slice ao l.length cap, .agg #[.int .u64 s.m, .int .u64 s.f, .int .u64 s.l, .bool s.a, .bool s.b]] w fun e w' => ∃ k, w.heap.size ≤ k ∧ e = .returned (.pointer (some ⟨k, 0, none⟩)) ∧ Blk w' k (s.cells l) 269 ∧ Ext w w' :=
  newLeaf_any l ao cap s.m s.f s.l s.a s.b w hb hp
theorem strEnd9 (l : List UInt8) (k : Nat) (hk : k ≤ l.length) (w : World) : (Instr.slice 9 (.string (str l)) (some (.int .i64 k)) none none).run Tryz.prog w = .ok (.string (str (l.drop k))) w := by
  simp [Instr.slice, run_underlying Tryz.underlying9, Instr.sliceBounds, Instr.sliceBound, asIntOf, Sem.run_bind, Sem.run_pure, str_size, hk, str_extractEnd]
theorem add4 (b : Nat) (pre : List UInt8) (n : Nat) (v : Nat → Value) (c : Nat → UInt8) (w : World) (ch : UInt8) (t : TypeId) (y : Value) (h : NodeAt w .k4 b pre n v c) (hn : n < 4) (hnew : ∀ i, i < n → c i ≠ ch) :
    Calls Tryz.prog 241 #[.pointer (some ⟨b, 0, none⟩), .int .u8 ch.toNat, .iface t y] w fun e w' => e = .returned (.tuple #[]) ∧ NodeAt w' .k4 b pre (n + 1) (upd v n (.iface t y)) (upd c n ch) ∧ Kp (· = b) w w' := add_any .k4 b pre n v c w ch t y h hn hnew
theorem pvt0 (l : List UInt8) (ao : Option Addr) (cap : Nat) (w : World) (hb : BytesAt w ao l) (hl : l.length ≤ 4611686018427387904) :
    Calls Tryz.prog 187 #[.slice ao l.length cap, .int .i64 0] w fun e w' => e = .returned (.int .u8 (pvt l 0).toNat) ∧ w' = w := pivot_any l ao cap 0 w hb hl (by omega)

theorem tail2 {w0 w1 w2 : World} (h : Ext w0 w1) (k : Ext w1 w2) : Ext w0 w2 := h.trans k fun _ _ h => h

set_option maxHeartbeats 1000000 in
theorem ins_nil (p0 : Value) (pb po : Nat) (l : List UInt8) (ao : Option Addr) (cap : Nat) (s : SS) (w : World)
    (hpc : w.cell? ⟨pb, po, none⟩ = some .nilIface) (hpf : w.frozen? ⟨pb, po, none⟩ = false) (hS : Sl w ao cap l) :
    Calls Tryz.prog 190 #[p0, .pointer (some ⟨pb, po, none⟩), .slice ao l.length cap, ssAgg s.m s.f s.l s.a s.b, .int .i64 0] w fun e w' => e = newOne ∧ ∃ nb, w.heap.size ≤ nb ∧
      Blk w' nb (s.cells l) 269 ∧ Kp (· = pb) w w' ∧ Put pb po (.iface 267 (.pointer (some ⟨nb, 0, none⟩))) w w' := by
  have hlt : pb < w.heap.size := World.block_lt_of_cell? w _ hpc
  have HS := Lib.hid hS
  clear hS
  unfold ssAgg
  go_enter Tryz.func190, Tryz.ntmps190
  go_wp2_with fail
  (with_reducible refine (newLeafA l ao cap s _ (HS.out.bytes.alloc _) HS.out.plain).mono ?_)
  rintro e w1 ⟨k, hk, rfl, hB, hX⟩
  have HX := Lib.hid (((Kp.refl (fun _ => False) w).alloc _).trans hX fun _ _ h => h)
  have hpc1 := (HX.out.cell id hlt).trans hpc
  have hpf1 := (HX.out.frozen id hlt).trans hpf
  have HB := Lib.hid hB
  have Hk : Hid (w.heap.size ≤ k ∧ k ≠ pb) := by
    have : w.heap.size + 1 ≤ k := by simpa using hk
    exact ⟨by omega, by omega⟩
  clear hB hX hk
  go_wp2_with fail
  go_ret2
  exact ⟨rfl, k, Hk.out.1, HB.out.setOther Hk.out.2 _, Kp.setCell (F := (· = pb)) (Ext.kp HX.out) (.inl rfl) _, fun cs T h => (h.keep HX.out id).set _ _⟩

set_option maxHeartbeats 2000000 in
theorem ins_leaf (p0 : Value) (pb po b si : Nat) (suf l : List UInt8) (ao : Option Addr) (cap : Nat) (s0 s : SS) (w : World)
    (hpc : w.cell? ⟨pb, po, none⟩ = some (.iface 267 (.pointer (some ⟨b, 0, none⟩)))) (hpf : w.frozen? ⟨pb, po, none⟩ = false) (hb : Blk w b (s0.cells suf) 269) (hne : pb ≠ b)
    (hS : Sl w ao cap l) (hoff : BytesOff (fun x => x = b ∨ x = pb) ao) (hsi : si ≤ l.length) (hr : l.drop si ≠ suf) (h127 : (127 : UInt8) ∉ l) (h127' : (127 : UInt8) ∉ suf) (hsl : suf.length ≤ 1099511627776) (hll : l.length ≤ 1099511627776) :
    Calls Tryz.prog 190 #[p0, .pointer (some ⟨pb, po, none⟩), .slice ao l.length cap, ssAgg s.m s.f s.l s.a s.b, .int .i64 si] w fun e w' => e = newOne ∧ ∃ b1 nb, w.heap.size ≤ b1 ∧ w.heap.size ≤ nb ∧
      (∃ v c, NodeAt w' .k4 b1 ((l.drop si).take (cpl suf (l.drop si))) 2 (upd (upd v 0 (.iface 267 (.pointer (some ⟨nb, 0, none⟩)))) 1 (.iface 267 (.pointer (some ⟨b, 0, none⟩)))) (upd (upd c 0 (pvt l (si + cpl suf (l.drop si)))) 1 (pvt suf (cpl suf (l.drop si))))) ∧
      Blk w' nb (s.cells (l.drop (si + cpl suf (l.drop si)))) 269 ∧ Blk w' b (s0.cells (suf.drop (cpl suf (l.drop si)))) 269 ∧
      Kp (fun x => x = b ∨ x = pb) w w' ∧ Put pb po (.iface 316 (.pointer (some ⟨b1, 0, none⟩))) w w' := by
  have hlt : pb < w.heap.size := World.block_lt_of_cell? w _ hpc
  have HS := Lib.hid hS
  have HB := Lib.hid hb
  have HO := Lib.hid hoff
  have hm := m_isLeaf_leaf ⟨b, 0, none⟩
  have hta := ta_leaf
  have hcut := cutEnd36 (w := w) HS.out hsi
  have HSc := Lib.hid (HS.out.cutEnd hsi)
  have h5 : w.cell? ⟨b, 5, none⟩ = some (.string (str suf)) := (hb.cell 5).trans rfl
  clear hb hS hoff
  generalize hrd : l.drop si = r at *
  have hno : Hid (r ≠ suf) := hr
  have hbq : (r == suf) = false := by simpa using hr
  have hrl : Hid (r.length = l.length - si) := by rw [Hid, ← hrd, List.length_drop]
  clear hr
  unfold ssAgg
  have hcpl := cpl_le suf r
  have hrl2 : r.length ≤ l.length := by rw [← hrd, List.length_drop]; omega
  generalize hcp : cpl suf r = cp at *
  go_enter Tryz.func190, Tryz.ntmps190
  go_wp2_with (go_at_call 337; refine (leafIsLeaf _ _).mono ?_; rintro e w' ⟨rfl, rfl⟩)
  obtain ⟨w1, hw1⟩ : ∃ w1, (w.alloc (.cells #[.int .u64 s.m, .int .u64 s.f, .int .u64 s.l, .bool s.a, .bool s.b] 116)) = w1 := ⟨_, rfl⟩
  rw [hw1]
  have HX : Hid (Ext w w1) := by rw [← hw1]; exact (Kp.refl _ _).alloc _
  have HBx : Hid (Blk w1 w.heap.size #[.int .u64 s.m, .int .u64 s.f, .int .u64 s.l, .bool s.a, .bool s.b] 116) := by rw [← hw1]; exact Blk.new w _ _
  replace HS := Lib.hid (HS.out.ext HX.out)
  replace HSc := Lib.hid (HSc.out.ext HX.out)
  replace HB := Lib.hid (HB.out.keep HX.out id)
  replace hpc : Hid _ := Lib.hid ((HX.out.cell id hlt).trans hpc)
  replace hpf : Hid _ := Lib.hid ((HX.out.frozen id hlt).trans hpf)
  have hlt1 := Nat.lt_of_lt_of_le hlt HX.out.size
  generalize hbx : w.heap.size = bx at HBx
  have hbb : Hid (bx ≠ b) := by rintro rfl; exact absurd HB.out (by have := HBx.out; unfold Blk at *; rw [this]; intro h; simp at h)
  have h51 : w1.cell? ⟨b, 5, none⟩ = some (.string (str suf)) := (HB.out.cell 5).trans rfl
  clear hw1 h5
  (with_reducible refine (match_any b (str suf) r _ _ w1 h51 HSc.out.bytes HSc.out.plain).mono ?_)
  rw [str_data, hbq]
  rintro e w2 ⟨rfl, hE2⟩
  have HE2 := Lib.hid hE2
  have h52 : w2.cell? ⟨b, 5, none⟩ = some (.string (str suf)) := (HE2.out.cell id HB.out.lt).trans h51
  clear hE2
  go_wp2_with fail
  go_region_with (first | (go_at_call 238; refine (toB238 suf _ (by omega)).mono ?_; rintro e w3 ⟨b2, cap2, hb2, rfl, hS2, hX2⟩; have HE3 := Lib.hid (tail2 HE2.out.drew hX2); have HS2 := Lib.hid hS2; clear hS2 hX2 hb2) | (go_at_call 237; (with_reducible refine (cpl_any suf r _ _ _ _ _ HS2.out.bytes (HSc.out.ext HE3.out).bytes (by omega) (by omega)).mono ?_); rw [hcp]; rintro e w4 ⟨rfl, hX3⟩; have HE4 := Lib.hid (tail2 HE3.out hX3); clear hX3))
  clear HS2 HE3 h52 HE2 w2 w3 hcut
  obtain ⟨q, hq⟩ : ∃ q, si + cp = q := ⟨_, rfl⟩
  have hqi : (si : Int) + (cp : Int) = (q : Int) := by rw [← hq]; rfl
  have hql : q ≤ l.length := by have := hrl.out; omega
  have hcut2 := cutEnd36 (w := w1) HS.out hql
  have HS3 := Lib.hid (HS.out.cutEnd hql)
  have hcutm := cut36 (w := w1) HS.out (k := si) (m := q) (by omega) hql
  have HSm := Lib.hid (HS.out.cut (k := si) (m := q) (by omega) hql)
  have hstr := strEnd9 suf cp hcpl.1
  have h54 : w4.cell? ⟨b, 5, none⟩ = some (.string (str suf)) := (HE4.out.cell id HB.out.lt).trans h51
  have hr2 : l.drop q = r.drop cp := by rw [← hq, ← hrd, List.drop_drop]
  have hpr : (l.take q).drop si = r.take cp := by rw [← hq, ← hrd, List.drop_take]; congr 1; omega
  generalize hL2 : l.drop q = r2 at hcut2 HS3 hr2
  generalize hLm : (l.take q).drop si = pre at hcutm HSm hpr
  generalize hs2 : suf.drop cp = suf2 at hstr
  have hsuf2 : suf2.length ≤ suf.length := by rw [← hs2]; simp
  have hr2l : r2.length ≤ l.length := by rw [← hL2]; simp
  have Hs2 := Lib.hid hs2
  have Hr2 := Lib.hid hr2
  have Hpr := Lib.hid hpr
  have HL2 := Lib.hid hL2
  have Hrd := Lib.hid hrd
  clear hs2 hr2 hpr hL2 hLm hrd h51
  go_wp2_with fail
  (with_reducible refine (new_k4 pre _ _ _ (HSm.out.ext HE4.out).bytes HSm.out.plain (fun _ => .nilIface) (fun _ => 0)).mono ?_)
  rintro e w5 ⟨b1, hb1, rfl, hN5, hX5⟩
  have HB1 := Lib.hid (Nat.le_trans HE4.out.size hb1)
  have HE5 := Lib.hid (tail2 HE4.out hX5)
  have HN5 := Lib.hid hN5
  have h55 : w5.cell? ⟨b, 5, none⟩ = some (.string (str suf)) := (HE5.out.cell id HB.out.lt).trans ((HB.out.cell 5).trans rfl)
  clear hN5 hX5 hb1 HE4 h54 hcutm HSm
  go_wp2_with fail
  refine (toB238 suf2 _ (by omega)).mono ?_
  rintro e w6 ⟨b6, cap6, hb6, rfl, hS6, hX6⟩
  have HE6 := Lib.hid (tail2 HE5.out hX6)
  have HN6 := Lib.hid (HN5.out.keep hX6 id)
  have h56 : w6.cell? ⟨b, 5, none⟩ = some (.string (str suf)) := (HE6.out.cell id HB.out.lt).trans ((HB.out.cell 5).trans rfl)
  have f56 : w6.frozen? ⟨b, 5, none⟩ = false := (HE6.out.frozen id HB.out.lt).trans (HB.out.frozen 5)
  clear hX6 HN5 HE5 h55 hb6
  go_wp2_with fail
  refine (setSuffix_any b _ suf2 _ _ w6 h56 f56 hS6.bytes hS6.plain).mono ?_
  rintro e w7 ⟨rfl, hw7⟩
  have hne1 : b1 ≠ b := by have := HB.out.lt; have := HB1.out; omega
  have HE7 : Hid (Kp (· = b) w1 w7) := by rw [← hw7]; exact Kp.setCell (F := (· = b)) (HE6.out.kp) (.inl rfl) _
  have HB7 : Hid (Blk w7 b (s0.cells suf2) 269) := by rw [← hw7]; exact (HB.out.keep HE6.out id).set 5 _
  have HN7 : Hid (NodeAt w7 .k4 b1 pre 0 (fun _ => .nilIface) (fun _ => 0)) := by rw [← hw7]; exact HN6.out.keep (Kp.setCell (F := (· = b)) (Kp.refl _ _) (.inl rfl) _) hne1
  have h57 : w7.cell? ⟨b, 5, none⟩ = some (.string (str suf2)) := (HB7.out.cell 5).trans rfl
  clear hw7 hS6 h56 f56 HE6 HN6 hcut2
  go_wp2_with fail
  refine (toB238 suf2 _ (by omega)).mono ?_
  rintro e w8 ⟨b8, cap8, hb8, rfl, hS8, hX8⟩
  have HE8 := Lib.hid (HE7.out.trans hX8 fun _ _ h => h.elim)
  have HN8 := Lib.hid (HN7.out.keep hX8 id)
  have HB8 := Lib.hid (HB7.out.keep hX8 id)
  clear hX8 HN7 HB7 HE7 h57 hb8
  go_wp2_with fail
  refine (pvt0 suf2 _ _ _ hS8.bytes (by omega)).mono ?_
  rintro e w9 ⟨rfl, rfl⟩
  clear hS8
  have h9 : w9.cell? ⟨b, 5, none⟩ = some (.string (str suf2)) := (HB8.out.cell 5).trans rfl
  have HS9 := Lib.hid (HS3.out.keep HE8.out (BytesOff.cut fun bb o ss e h => HO.out bb o ss e (.inl h)))
  have HBx9 := HBx.out.keep HE8.out hbb.out
  have hx0 : w9.cell? ⟨bx, 0, none⟩ = some (.int .u64 s.m) := HBx9.cell 0
  have hx1 : w9.cell? ⟨bx, 1, none⟩ = some (.int .u64 s.f) := HBx9.cell 1
  have hx2 : w9.cell? ⟨bx, 2, none⟩ = some (.int .u64 s.l) := HBx9.cell 2
  have hx3 : w9.cell? ⟨bx, 3, none⟩ = some (.bool s.a) := HBx9.cell 3
  have hx4 : w9.cell? ⟨bx, 4, none⟩ = some (.bool s.b) := HBx9.cell 4
  have hp2 : pvt suf2 0 = pvt suf cp := by rw [← Hs2.out, pvt_drop]
  have hp3 : pvt r2 0 = pvt l q := by rw [← HL2.out, pvt_drop]
  have hp4 : pvt r2 0 = pvt r cp := by rw [Hr2.out, pvt_drop]
  have hsp : Hid (pvt r2 0 ≠ pvt suf2 0) := by
    rw [Hid, hp2, hp4, ← hcp]
    refine split_ne hno.out h127' fun h => h127 ?_
    rw [← Hrd.out] at h
    exact List.mem_of_mem_drop h
  have hsp1 : Hid (∀ i, i < 1 → upd (fun _ => (0 : UInt8)) 0 (pvt r2 0) i ≠ pvt suf2 0) := fun i hi => by
    obtain rfl : i = 0 := by omega
    exact hsp.out
  have Hp2 := Lib.hid hp2
  have Hq := Lib.hid hq
  have Hp3 := Lib.hid hp3
  have hcut3 := cutEnd36 (w := w1) HS.out hql
  rw [HL2.out] at hcut3
  have hcase : cp = 0 ∨ (0 < cp ∧ q = l.length) ∨ (0 < cp ∧ q < l.length) := by omega
  clear HBx9 hp2 hp3 hp4 hbq hrl hrl2 hcp hcpl hq h127 h127' hstr hlt HSc
  have hgo : ∀ (ws : World), ws = w9 → True := fun _ _ => trivial
  rcases hcase with hc | ⟨hd, hq2⟩ | ⟨hf, hq3⟩
  all_goals
    first
    | (have hc0 : ((cp : Int) > 0) = False := by simp [hc]
       go_wp2_with fail)
    | (have hc0 : (0 : Int) < (cp : Int) := by have := hd; omega
       have hc1 : ¬ ((q : Int) < (l.length : Int)) := by omega
       clear hq2
       go_wp2_with fail)
    | (have hc0 : (0 : Int) < (cp : Int) := by have := hf; omega
       have hc1 : ((q : Int) < (l.length : Int)) := by omega
       obtain ⟨bl, ol, rfl, hby⟩ := HS.out.bytes q hq3
       have hby9 : w9.cell? ⟨bl, ol + q, none⟩ = some (.int .u8 (l[q].toNat : Int)) := (HE8.out.cell (fun h => HO.out bl ol none rfl (.inl h)) (World.block_lt_of_cell? _ _ hby)).trans hby
       have hneb : (((pvt suf2 0).toNat : Int) == (l[q].toNat : Int)) = false := by
         have h1 := hsp.out
         rw [Hp3.out] at h1
         have h2 : pvt l q = l[q] := by unfold pvt List.getD; rw [List.getElem?_eq_getElem hq3]; rfl
         rw [h2] at h1
         have : (pvt suf2 0).toNat ≠ l[q].toNat := fun h => h1 (UInt8.toNat_inj.1 h).symm
         simp only [beq_eq_false_iff_ne, ne_eq]
         omega
       clear hby
       go_wp2_with fail
       clear hneb hby9)
  all_goals
    go_region_with (go_at_call 236; (with_reducible refine (newLeafA r2 _ _ s _ HS9.out.bytes.drew HS9.out.plain).mono ?_); rintro e w10 ⟨nb, hnb, rfl, hL10, hX10⟩)
    have HE10 := Lib.hid (HE8.out.trans (((Kp.refl (fun _ => False) w9).drew).trans hX10 fun _ _ h => h) fun _ _ h => h.elim)
    have HnbS : Hid (b1 < nb ∧ b < nb ∧ pb < nb ∧ w1.heap.size ≤ nb) := by
      have h1 := HN8.out.lt; have h2 := HB8.out.lt; have h3 := HE8.out.size; have : w9.heap.size ≤ nb := hnb
      exact ⟨by omega, by omega, by omega, by omega⟩
    have HL10 := Lib.hid hL10
    have HN10 := Lib.hid (HN8.out.drew.keep hX10 id)
    have HB10 := Lib.hid (HB8.out.drew.keep hX10 id)
    have hn5 : w10.cell? ⟨nb, 5, none⟩ = some (.string (str r2)) := (HL10.out.cell 5).trans rfl
    clear hX10 hL10 hnb hx0 hx1 hx2 hx3 hx4 h9 hcut3
    go_wp2_with fail
    refine (toB238 r2 _ (by omega)).mono ?_
    rintro e w11 ⟨b11, cap11, hb11, rfl, hS11, hX11⟩
    have HE11 := Lib.hid (HE10.out.trans hX11 fun _ _ h => h.elim)
    have HN11 := Lib.hid (HN10.out.keep hX11 id)
    have HB11 := Lib.hid (HB10.out.keep hX11 id)
    have HL11 := Lib.hid (HL10.out.keep hX11 id)
    clear hX11 hb11 hn5
    go_wp2_with fail
    refine (pvt0 r2 _ _ _ hS11.bytes (by omega)).mono ?_
    rintro e w12 ⟨rfl, rfl⟩
    clear hS11
    go_wp2_with fail
    refine (add4 b1 pre 0 _ _ w12 (pvt r2 0) _ _ HN11.out (by omega) (fun i hi => absurd hi (Nat.not_lt_zero i))).mono ?_
    rintro e w13 ⟨rfl, hN13, hK13⟩
    have hb1 := HB1.out
    have HE13 := Lib.hid (HE11.out.trans hK13 fun i hi h => by subst h; omega)
    have HN13 := Lib.hid hN13
    have HB13 := Lib.hid (HB11.out.keep hK13 hne1.symm)
    have HL13 := Lib.hid (HL11.out.keep hK13 (by have := HnbS.out; omega))
    have h13 : w13.cell? ⟨b, 5, none⟩ = some (.string (str suf2)) := (HB13.out.cell 5).trans rfl
    clear hK13 hN13
    go_wp2_with fail
    refine (toB238 suf2 _ (by omega)).mono ?_
    rintro e w14 ⟨b14, cap14, hb14, rfl, hS14, hX14⟩
    have HE14 := Lib.hid (HE13.out.trans hX14 fun _ _ h => h.elim)
    have HN14 := Lib.hid (HN13.out.keep hX14 id)
    have HB14 := Lib.hid (HB13.out.keep hX14 id)
    have HL14 := Lib.hid (HL13.out.keep hX14 id)
    clear hX14 hb14 h13
    go_wp2_with fail
    refine (pvt0 suf2 _ _ _ hS14.bytes (by omega)).mono ?_
    rintro e w15 ⟨rfl, rfl⟩
    clear hS14
    go_wp2_with fail
    refine (add4 b1 pre 1 _ _ w15 (pvt suf2 0) _ _ HN14.out (by omega) hsp1.out).mono ?_
    rintro e w16 ⟨rfl, hN16, hK16⟩
    have HE16 := Lib.hid (HE14.out.trans hK16 fun i hi h => by subst h; omega)
    have HN16 := Lib.hid hN16
    have HB16 := Lib.hid (HB14.out.keep hK16 hne1.symm)
    have HL16 := Lib.hid (HL14.out.keep hK16 (by have := HnbS.out; omega))
    have hpc16 := (HE16.out.cell hne hlt1).trans hpc.out
    have hpf16 := (HE16.out.frozen hne hlt1).trans hpf.out
    clear hK16 hN16
    go_wp2_with fail
    go_ret2
    have hz := HX.out.size
    rw [Hq.out]
    refine ⟨rfl, b1, nb, by omega, by have := HnbS.out; omega, ⟨fun _ => .nilIface, fun _ => 0, ?_⟩, ?_, ?_, ?_, ?_⟩
    · have h0 := HN16.out.keep (Kp.setCell (F := (· = pb)) (Kp.refl _ w16) (p := ⟨pb, po, none⟩) (.inl rfl) (.iface 316 (.pointer (some ⟨b1, 0, none⟩)))) (by omega)
      rw [← Hpr.out, ← Hp3.out, ← Hp2.out]
      exact h0
    · rw [HL2.out]
      exact HL16.out.setOther (by have := HnbS.out; show nb ≠ pb; omega) _
    · rw [Hs2.out]
      exact HB16.out.setOther (Ne.symm hne) _
    · exact Kp.setCell ((HX.out.kp).trans HE16.out fun i _ h => .inl h) (.inl (.inr rfl)) _
    · intro cs T h
      exact ((h.keep HX.out id).keep HE16.out hne).set _ _
end Go.Proofs.YtbehafhkgbjgmaaGreatDoor
