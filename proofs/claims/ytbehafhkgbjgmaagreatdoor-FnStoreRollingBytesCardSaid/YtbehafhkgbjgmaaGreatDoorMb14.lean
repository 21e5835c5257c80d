/-
  The tree of subjects: 'insert' at an inner node whose text is to be parted. No condition beyond that the texts are short and bear no byte 127.
-/
import Derived.Test.YtbehafhkgbjgmaaGreatDoorMb08
namespace Go.Proofs.YtbehafhkgbjgmaaGreatDoor
open Go Go.RowKit
set_option maxRecDepth 100000
set_option maxHeartbeats 2000000 in
theorem ins_split (p0 : Value) (pb po b si : Nat) (k : K) (n : Nat) (v : Nat → Value) (c : Nat → UInt8) (l : List UInt8) (ao : Option Addr) (cap : Nat) (s : SS) (w : World)
    (hpc : w.cell? ⟨pb, po, none⟩ = some (.iface k.ity (.pointer (some ⟨b, 0, none⟩)))) (hpf : w.frozen? ⟨pb, po, none⟩ = false) (hS : Sl w ao cap l) (hsi : si ≤ l.length) (hne : pb ≠ b) (HO : BytesOff (fun x => x = b ∨ x = pb) ao) (pre : List UInt8) (cp q : Nat) (hq : si + cp = q) (hql : q ≤ l.length) (hpl : pre.length ≤ 1099511627776)
    (hN : NodeAt w k b pre n v c) (hcpl : cp < pre.length) (hcp : cpl pre (l.drop si) = cp) (hsp : pvt pre cp ≠ pvt l q) :
    Calls Tryz.prog 190 #[p0, .pointer (some ⟨pb, po, none⟩), .slice ao l.length cap, ssAgg s.m s.f s.l s.a s.b, .int .i64 si] w fun e w' => e = newOne ∧ ∃ b1 nb, w.heap.size ≤ b1 ∧ w.heap.size ≤ nb ∧ b1 ≠ nb ∧
      (∃ v0 c0, NodeAt w' .k4 b1 ((l.take q).drop si) 2 (upd (upd v0 0 (.iface k.ity (.pointer (some ⟨b, 0, none⟩)))) 1 (.iface 267 (.pointer (some ⟨nb, 0, none⟩)))) (upd (upd c0 0 (pvt pre cp)) 1 (pvt l q))) ∧
      NodeAt w' k b (pre.drop cp) n v c ∧ Blk w' nb (s.cells (l.drop q)) 269 ∧ Kp (fun x => x = b ∨ x = pb) w w' ∧ Put pb po (.iface 316 (.pointer (some ⟨b1, 0, none⟩))) w w' := by
  unfold newOne at *
  have Hsp := Lib.hid hsp
  have HO := Lib.hid HO
  clear hsp
  have hlt : pb < w.heap.size := World.block_lt_of_cell? w _ hpc
  have HS := Lib.hid hS
  have HN := Lib.hid hN
  have hm := m_isLeaf k b
  have hm2 := m_base k b
  have hm3 := m_setPrefix k b
  have hm4 := n_setPrefix k b
  have hsz := str_size pre
  clear hN hS
  unfold ssAgg
  go_enter Tryz.func190, Tryz.ntmps190
  go_wp2_with fail
  obtain ⟨w1, hw1⟩ : ∃ w1, (w.alloc (.cells #[.int .u64 s.m, .int .u64 s.f, .int .u64 s.l, .bool s.a, .bool s.b] 116)) = w1 := ⟨_, rfl⟩
  rw [hw1]
  have HX : Hid (Ext w w1) := by rw [← hw1]; exact (Kp.refl _ _).alloc _
  have HBx : Hid (Blk w1 w.heap.size #[.int .u64 s.m, .int .u64 s.f, .int .u64 s.l, .bool s.a, .bool s.b] 116) := by rw [← hw1]; exact Blk.new w _ _
  have hbb : Hid (w.heap.size ≠ b) := fun h => by have := HN.out.lt; omega
  replace HS := Lib.hid (HS.out.ext HX.out)
  replace HN := Lib.hid (HN.out.keep HX.out id)
  replace hpc : Hid _ := Lib.hid ((HX.out.cell id hlt).trans hpc)
  replace hpf : Hid _ := Lib.hid ((HX.out.frozen id hlt).trans hpf)
  have hlt1 := Nat.lt_of_lt_of_le hlt HX.out.size
  have hpre := HN.out.preCell
  generalize hbx : w.heap.size = bx at HBx hbb
  clear hw1
  refine (metaIsLeaf _ _).mono ?_
  rintro e w2 ⟨rfl, rfl⟩
  go_wp2_with fail
  refine (metaBase _ _).mono ?_
  rintro e w2 ⟨rfl, rfl⟩
  have hmz : (0 : Int) < (pre.length : Int) := by omega
  have hqi : (si : Int) + (cp : Int) = (q : Int) := by rw [← hq]; rfl
  have hstr := strEnd9 pre cp (by omega)
  have hcutm := cut36 (w := w1) HS.out (k := si) (m := q) (by omega) hql
  have HSm := Lib.hid (HS.out.cut (k := si) (m := q) (by omega) hql)
  have hlm : ((l.take q).drop si).length = cp := by simp [Nat.min_eq_left hql]; omega
  have HSr := Lib.hid (HS.out.cutEnd hql)
  have hcut2 := cutEnd36 (w := w1) HS.out hql
  have hcut := cutEnd36 (w := w1) HS.out hsi
  have HSc := Lib.hid (HS.out.cutEnd hsi)
  have hrl : (l.drop si).length ≤ l.length := by simp
  generalize l.drop si = r at hcut HSc hcp hrl
  have hll := HS.out.small
  go_wp2_with fail
  go_region_with (first | (go_at_call 238; refine (toB238 pre _ (by omega)).mono ?_; rintro e w3 ⟨b2, cap2, hb2, rfl, hS2, hX2⟩; have HE3 := Lib.hid (tail2 (Kp.refl (fun _ => False) w1).drew hX2); have HS2 := Lib.hid hS2; clear hS2 hX2 hb2) | (go_at_call 237; (with_reducible refine (cpl_any pre r _ _ _ _ _ HS2.out.bytes (HSc.out.ext HE3.out).bytes (by omega) (by omega)).mono ?_); rw [hcp]; rintro e w4 ⟨rfl, hX3⟩; have HE4 := Lib.hid (tail2 HE3.out hX3); clear hX3))
  clear HS2 HE3 hcut HSc hrl
  replace HS := Lib.hid (HS.out.ext HE4.out)
  replace HSm := Lib.hid (HSm.out.ext HE4.out)
  replace HSr := Lib.hid (HSr.out.ext HE4.out)
  replace HN := Lib.hid (HN.out.keep HE4.out id)
  replace HX := Lib.hid (tail2 HX.out HE4.out)
  replace HBx := Lib.hid (HBx.out.keep HE4.out id)
  replace hpc : Hid _ := Lib.hid ((HE4.out.cell id hlt1).trans hpc.out)
  replace hpf : Hid _ := Lib.hid ((HE4.out.frozen id hlt1).trans hpf.out)
  replace hlt1 := Nat.lt_of_lt_of_le hlt1 HE4.out.size
  replace hpre := HN.out.preCell
  clear HE4
  have hs2 : pre.length - cp ≤ pre.length := by omega
  have hrl2 : (l.drop q).length ≤ l.length := by simp
  have hpv0 : pvt (pre.drop cp) 0 = pvt pre cp := pvt_drop _ _
  have hpv2 : pvt (l.drop q) 0 = pvt l q := pvt_drop _ _
  have hp2l : (pre.drop cp).length ≤ pre.length := by simp
  generalize hpr : (l.take q).drop si = pr at hcutm HSm hlm
  generalize hr2 : l.drop q = r2 at HSr hcut2 hrl2 hpv2
  generalize hp2 : pre.drop cp = pre2 at hstr hpv0 hp2l
  have Hpr := Lib.hid hpr
  have Hr2 := Lib.hid hr2
  have Hp2 := Lib.hid hp2
  have Hpv0 := Lib.hid hpv0
  have Hpv2 := Lib.hid hpv2
  have hqi2 : (si : Int) + (pr.length : Int) = (q : Int) := by rw [hlm, ← hq]; rfl
  have hge : ¬ ((pre.length : Int) ≤ (cp : Int)) := by omega
  clear hpr hr2 hp2 hpv0 hpv2 hlm hcp hs2
  go_wp2_with fail
  (with_reducible refine (new_k4 pr _ _ _ HSm.out.bytes HSm.out.plain (fun _ => .nilIface) (fun _ => 0)).mono ?_)
  rintro e w5 ⟨b1, hb1, rfl, hN5, hX5⟩
  have HX5 := Lib.hid (tail2 HX.out hX5)
  have HX45 := Lib.hid hX5
  have HN5 := Lib.hid hN5
  have HNk5 := Lib.hid (HN.out.keep hX5 id)
  have Hb : Hid (w4.heap.size ≤ b1 ∧ b < w4.heap.size ∧ pb < w4.heap.size ∧ bx < w4.heap.size) := ⟨hb1, HN.out.lt, hlt1, HBx.out.lt⟩
  have Hw : Hid (w.heap.size ≤ w4.heap.size) := HX.out.size
  have HBx5 := Lib.hid (HBx.out.keep hX5 id)
  have HSr5 := Lib.hid (HSr.out.ext hX5)
  have hpre5 := HNk5.out.preCell
  have HSa := HSr.out.bytes
  clear hN5 hX5 hb1 HSm hcutm
  go_wp2_with fail
  go_region_with (first | (go_at_call 238; refine (toB238 pre2 _ (by omega)).mono ?_; rintro e w6 ⟨b6, cap6, hb6, rfl, hS6, hX6⟩; have HE6 := Lib.hid (tail2 (Kp.refl (fun _ => False) w5).drew hX6); have HS6 := Lib.hid hS6; have HNk6 := Lib.hid (HNk5.out.keep HE6.out id); clear hS6 hX6 hb6) | (go_at_call 271; (with_reducible refine (setPrefixAt HNk6.out pre2 _ _ HS6.out.bytes HS6.out.plain).mono ?_); rintro e w7 ⟨rfl, hN7, hK7⟩; have HNk7 := Lib.hid hN7; have HK7 := Lib.hid hK7; have hpre7 := hN7.preCell; clear hN7 hK7))
  all_goals
    have hb1 : b1 ≠ b := by have := Hb.out; omega
    have HXa := Lib.hid (((HX5.out.kp (F := (· = b))).trans HE6.out fun _ _ h => h.elim).trans HK7.out fun _ _ h => h)
    have HEa := Lib.hid ((HE6.out.kp (F := (· = b))).trans HK7.out fun _ _ h => h)
    have HN7 := Lib.hid (HN5.out.keep HEa.out hb1)
    have HE47 := Lib.hid ((HX45.out.kp (F := (· = b))).trans HEa.out fun _ _ h => h)
    have HBx7 := Lib.hid (HBx5.out.keep HEa.out hbb.out)
    have HPut7 : Hid (∀ cs T, Blk w pb cs T → Blk w7 pb cs T) := fun cs T h => h.keep HXa.out hne
    have HPc7 : Hid _ := Lib.hid ((HEa.out.cell hne (by have := HX5.out.size; have := Hb.out; have := HN5.out.lt; omega)).trans ((HX45.out.cell id Hb.out.2.2.1).trans hpc.out))
    have HPf7 : Hid _ := Lib.hid ((HEa.out.frozen hne (by have := HX5.out.size; have := Hb.out; have := HN5.out.lt; omega)).trans ((HX45.out.frozen id Hb.out.2.2.1).trans hpf.out))
    clear HEa HE6 HK7 HNk6 HNk5 HN5 HS6 HSr5 HBx5 hpre5 hstr
    go_wp2_with fail
    refine (toB238 pre2 _ (by omega)).mono ?_
    rintro e w8 ⟨b8, cap8, hb8, rfl, hS8, hX8⟩
    have HE8 := Lib.hid hX8
    have HN8 := Lib.hid (HN7.out.keep hX8 id)
    clear hX8 hb8
    go_wp2_with fail
    refine (pvt0 pre2 _ _ _ hS8.bytes (by omega)).mono ?_
    rintro e w9 ⟨rfl, rfl⟩
    clear hS8
    go_wp2_with fail
    refine (add4 b1 pr 0 _ _ w9 (pvt pre2 0) _ _ HN8.out (by omega) (fun i hi => absurd hi (Nat.not_lt_zero i))).mono ?_
    rintro e w10 ⟨rfl, hN10, hK10⟩
    have HK10 := Lib.hid ((HE8.out.kp (F := (· = b1))).trans hK10 fun _ _ h => h)
    have HN10 := Lib.hid hN10
    have hs7 : Hid (w4.heap.size ≤ w7.heap.size) := by have h1 := HN7.out.lt; have := Hb.out; exact (by omega : w4.heap.size ≤ w7.heap.size)
    have HNk10 := Lib.hid (HNk7.out.keep HK10.out (Ne.symm hb1))
    have HBx10 := Lib.hid (HBx7.out.keep HK10.out (by have := Hb.out; omega))
    have HSr10 := Lib.hid (HSr.out.keep (HE47.out.trans HK10.out fun i hi h => by subst h; have := Hb.out; omega) (BytesOff.cut fun bb o ss e h => HO.out bb o ss e (.inl h)))
    have hsp1 : Hid (∀ i, i < 1 → upd (fun _ => (0 : UInt8)) 0 (pvt pre2 0) i ≠ pvt r2 0) := fun i hi => by
      obtain rfl : i = 0 := by omega
      show pvt pre2 0 ≠ pvt r2 0
      rw [Hpv0.out, Hpv2.out]
      exact Hsp.out
    have hpb1 : pb ≠ b1 := by have := Hb.out; omega
    have hlt7 : Hid (pb < w7.heap.size) := by have := Hb.out; have := hs7.out; exact (by omega : pb < w7.heap.size)
    clear hK10 hN10 HN8 HE8
    have HBxw10 := HBx10.out
    have hx0 : w10.cell? ⟨bx, 0, none⟩ = some (.int .u64 s.m) := HBxw10.cell 0
    have hx1 : w10.cell? ⟨bx, 1, none⟩ = some (.int .u64 s.f) := HBxw10.cell 1
    have hx2 : w10.cell? ⟨bx, 2, none⟩ = some (.int .u64 s.l) := HBxw10.cell 2
    have hx3 : w10.cell? ⟨bx, 3, none⟩ = some (.bool s.a) := HBxw10.cell 3
    have hx4 : w10.cell? ⟨bx, 4, none⟩ = some (.bool s.b) := HBxw10.cell 4
    clear HBxw10
    go_wp2_with fail
    have HSd := Lib.hid (HSr10.out.ext ((Kp.refl (fun _ => False) w10).drew))
    go_region_with (first | (go_at_call 187; (with_reducible refine (pvt0 r2 _ _ _ HSd.out.bytes (by omega)).mono ?_); rintro e w11 ⟨rfl, rfl⟩) | (go_at_call 236; (with_reducible refine (newLeafA r2 _ _ s _ HSd.out.bytes HSd.out.plain).mono ?_); rintro e w12 ⟨nb, hnb, rfl, hL12, hX12⟩; have HX12 := Lib.hid (((Kp.refl (fun _ => False) w10).drew).trans hX12 fun _ _ h => h); have HL12 := Lib.hid hL12; have HNB : Hid (w10.heap.size ≤ nb) := hnb; have HN12 := Lib.hid (HN10.out.keep HX12.out id); clear hX12 hL12 hnb) | (go_at_call 241; (with_reducible refine (add4 b1 pr 1 _ _ w12 (pvt r2 0) _ _ HN12.out (by omega) hsp1.out).mono ?_); rintro e w13 ⟨rfl, hN13, hK13⟩; have HN13 := Lib.hid hN13; have HK13 := Lib.hid hK13; have HKb := Lib.hid (((HK10.out.trans HX12.out fun _ _ h => h.elim)).trans HK13.out fun _ _ h => h); have hpc13 := (HKb.out.cell hpb1 hlt7.out).trans (HPc7.out); have hpf13 := (HKb.out.frozen hpb1 hlt7.out).trans (HPf7.out); clear hN13 hK13))
    all_goals
      have HPut : Hid (∀ cs T, Blk w pb cs T → Blk w13 pb cs T) := fun cs T h => (HPut7.out cs T h).keep HKb.out hpb1
      go_wp2_with fail
      go_ret2
      have h1 := HN10.out.lt
      have h2 := HNB.out
      have h3 := Hb.out
      have h4 := Hw.out
      refine ⟨rfl, b1, nb, by omega, by omega, by omega, ⟨fun _ => .nilIface, fun _ => 0, ?_⟩, ?_, ?_, ?_, ?_⟩
      · rw [Hpr.out, ← Hpv0.out, ← Hpv2.out]
        exact HN13.out.keep (Kp.setCell (F := (· = pb)) (Kp.refl _ _) (.inl rfl) _) (Ne.symm hpb1)
      · rw [Hp2.out]
        exact (HNk7.out.keep HKb.out (Ne.symm hb1)).keep (Kp.setCell (F := (· = pb)) (Kp.refl _ _) (.inl rfl) _) (Ne.symm hne)
      · rw [Hr2.out]
        exact ((HL12.out.keep HK13.out (by omega)).setOther (by show nb ≠ pb; omega) _)
      · exact Kp.setCell ((HXa.out.mono fun _ _ h => .inl h).trans HKb.out fun i hi h => by subst h; omega) (.inl (.inr rfl)) _
      · intro cs T h
        exact (HPut.out cs T h).set _ _

end Go.Proofs.YtbehafhkgbjgmaaGreatDoor
