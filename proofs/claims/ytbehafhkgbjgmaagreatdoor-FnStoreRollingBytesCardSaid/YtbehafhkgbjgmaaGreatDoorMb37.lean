/-
  The law of the rolling store by size: true at every script. No condition beyond the two errors.
-/
import Derived.Test.YtbehafhkgbjgmaaGreatDoorMb36
import Derived.Deep.MidRow
namespace Go.Proofs.YtbehafhkgbjgmaaGreatDoor
open Go Go.RowKit
set_option maxRecDepth 100000

set_option maxHeartbeats 8000000 in
theorem rolling4 (vs : List StepV) (ao : Option Addr) (cap : Nat) (mm : Int) (w : World) (hS : StepsAt w ao vs) (hO : ∀ v, v ∈ vs → v.Ok w) (hN : ao = none → vs = [] ∧ cap = 0) (hl : vs.length ≤ 9223372036854775807) (hE : Errs w) :
    Calls Tryz.prog 4 #[.slice ao vs.length cap, .int .i64 mm] w fun e w' => e = .returned (.bool true) ∧ Ext w w' := by
  have H6 := Lib.hid (fits6 vs ao cap w hS hO hl)
  have H7 : Hid ((∀ v, v ∈ vs → v.Fits) → ∀ W, Ext w W → Calls Tryz.prog 7 #[.slice ao vs.length cap] W fun e w' => (∃ b, e = .returned (.bool b) ∧ (b = true → GoodDeeds W vs)) ∧ Ext W w') := Lib.hid fun hF W hX =>
    (stores7 vs ao cap W (hS.keep hX fun _ _ _ _ => id) (fun v hv => ok_keep (hO v hv) hX) hF hl).mono fun e w' ⟨⟨b, e1, e2⟩, e3⟩ => ⟨⟨b, e1, fun hb => .of (fun v hv => ok_keep (hO v hv) hX) (e2 hb).1 (e2 hb).2⟩, e3⟩
  have HEE : Hid (∀ W, Ext w W → Errs W) := Lib.hid fun W hX => hE.keep hX id id
  have H8 : Hid (∀ W, Ext w W → Calls Tryz.prog 8 #[] W fun e w' => e = .returned (.bool true) ∧ Ext W w') := Lib.hid fun W hX => awake8 W (hE.keep hX id id)
  have H9 : Hid (∀ (m k : Nat) W, m ≤ 1048576 → k ≤ vs.length → after 0 m (vs.map StepV.rc) = (vs.map StepV.rc).drop k → Ext w W → GoodDeeds W vs → Calls Tryz.prog 9 #[confAgg 0 m, .slice ao vs.length cap] W fun e w' => (∃ t1 t2 sz ao' cap', e = .returned (.tuple #[.agg (stCells (vs.length - k) (total ((vs.map StepV.rc).drop k)) (fst1 vs.length + k) vs.length t1 t2 sz), .slice ao' (vs.length - k) cap', .bool true]) ∧ MsgsAt w' ao' (num (fst1 vs.length + k) ((vs.map StepV.rc).drop k)) ∧ vs.length - k ≤ cap' ∧ (ao' = none → vs.length - k = 0 ∧ cap' = 0) ∧ ∀ ad, ao' = some ad → ∃ g, ad = ⟨g, 0, none⟩) ∧ Ext W w') := Lib.hid fun m k W hm hk ha hX hD => by
    have e := ps_left 0 m vs hk ha
    have := held9 0 m vs ao cap W hD (hS.keep hX fun _ _ _ _ => id) hN (by omega) hm (hE.keep hX id id) _ _ _ (congrArg PS.q e) (congrArg PS.f e) (congrArg PS.la e)
    simpa using this
  generalize hn : vs.length = n at *
  clear hS hO hN hE
  go_enter Tryz.func4, Tryz.ntmps4
  go_wp2_with fail
  refine H6.out.mono ?_
  rintro e w1 ⟨⟨b, rfl, hb⟩, hX1⟩
  have HB := Lib.hid hb
  have HX1 := Lib.hid hX1
  clear hb hX1
  cases b
  · go_wp2_with fail
    go_ret
    exact ⟨by trivial, HX1.out⟩
  have H7a := Lib.hid (H7.out (HB.out rfl) w1 HX1.out)
  have H8a := Lib.hid (H8.out w1 HX1.out)
  clear HB H7 H6
  go_wp2_with fail
  rotate_left 1
  · skip
    refine H8a.out.mono ?_
    rintro e w2 ⟨rfl, hX2⟩
    have HX2 := Lib.hid (HX1.out.trans hX2 fun _ _ h => h)
    clear hX2
    go_wp2_with fail
    go_ret
    exact ⟨by trivial, HX2.out⟩
  · skip
    refine H8a.out.mono ?_
    rintro e w2 ⟨rfl, hX2⟩
    have HX2 := Lib.hid (HX1.out.trans hX2 fun _ _ h => h)
    clear hX2
    go_wp2_with fail
    go_ret
    exact ⟨by trivial, HX2.out⟩
  refine H7a.out.mono ?_
  rintro e w2 ⟨⟨b, rfl, hb⟩, hX2⟩
  have HB := Lib.hid hb
  have HX2 := Lib.hid (HX1.out.trans hX2 fun _ _ h => h)
  have HX12 := Lib.hid hX2
  clear hb hX2 H7a H8a
  have H8a := Lib.hid (H8.out w2 HX2.out)
  cases b
  · go_wp2_with fail
    refine H8a.out.mono ?_
    rintro e w3 ⟨rfl, hX3⟩
    have HX3 := Lib.hid (HX2.out.trans hX3 fun _ _ h => h)
    clear hX3
    go_wp2_with fail
    go_ret
    exact ⟨by trivial, HX3.out⟩
  obtain ⟨m, rfl⟩ : ∃ m : Nat, mm = m := ⟨mm.toNat, by omega⟩
  have hD2 := (HB.out rfl).keep HX12.out
  have hfew : n ≤ 24 := by rw [← hn]; exact hD2.few
  obtain ⟨k, hk, hak, htot, hgt⟩ := after_bytes m (by omega) (vs.map StepV.rc)
  rw [List.length_map, hn] at hk
  rw [hak] at htot
  have HGT := Lib.hid hgt
  clear hgt
  have H9a := Lib.hid (H9.out 0 0 w2 (by omega) (by omega) (by rw [after_all]; rfl) HX2.out hD2)
  have HD2 := Lib.hid hD2
  clear hD2 HB H8a
  unfold confAgg at H9 H9a
  unfold stCells at H9 H9a
  simp only [Nat.sub_zero, Nat.add_zero, List.drop_zero] at H9a
  go_wp2_with fail
  refine H9a.out.mono ?_
  rintro e w3 ⟨⟨t1, t2, sz, a1, c1, rfl, hM1, hc1, hN1, hg1⟩, hX3⟩
  have HM1 := Lib.hid hM1
  have HX3 := Lib.hid (HX2.out.trans hX3 fun _ _ h => h)
  have H9b : Hid (∀ W, Ext w3 W → _) := Lib.hid fun W hX => H9.out m k W (by omega) hk hak (HX3.out.trans hX fun _ _ h => h) (HD2.out.keep (hX3.trans hX fun _ _ h => h))
  have HD3 := Lib.hid (HD2.out.keep hX3)
  clear hM1 hX3 H9a H9 HD2 HX2 HX12 HX1 hak
  generalize total (vs.map StepV.rc) = tq
  generalize fst1 n = f at *
  generalize htl : total ((vs.map StepV.rc).drop k) = tl at *
  go_wp2_with fail
  refine (H9b.out _ ((Kp.refl _ _).alloc _)).mono ?_
  rintro e w4 ⟨⟨t1', t2', sz', a2, c2, rfl, hM2, hc2, hN2, hg2⟩, hX4⟩
  have HX34 : Hid (Ext w3 w4) := Lib.hid (((Kp.refl _ _).alloc _).trans hX4 fun _ _ h => h)
  have hM14 : MsgsAt w4 a1 (num f (vs.map StepV.rc)) := HM1.out.keep HX34.out
  have HM14 := Lib.hid hM14
  obtain ⟨L, hL⟩ : ∃ L, num (f + k) ((vs.map StepV.rc).drop k) = L := ⟨_, rfl⟩
  have hLd : (num f (vs.map StepV.rc)).drop k = L := by rw [num_drop, hL]
  have hLn : L.length = n - k := by rw [← hLd, List.length_drop, num_length, List.length_map, hn]
  have hLs := num_small HD3.out (f + k) k
  rw [hL] at hLs hM2
  have H10 : Hid (∀ W (b : Option Addr) cb, Ext w4 W → MsgsAt w4 b L → Calls Tryz.prog 10 #[.slice a2 (n - k) c2, .slice b (n - k) cb] W fun e w' => e = .returned (.bool true) ∧ Ext W w') := Lib.hid fun W b cb hX hb => by
    have := sameMsgs10 L a2 b c2 cb W (hM2.keep hX) (hb.keep hX) hLs.1 hLs.2
    rw [hLn] at this
    exact this
  have HX4 := Lib.hid (HX3.out.trans HX34.out fun _ _ h => h)
  have HBm : Hid (0 < n → MsgsAt w4 (a1.map fun x => x.add (k * 5)) L) := Lib.hid fun h => by
    cases a1 with
    | none => have := hN1 rfl; omega
    | some ad =>
      obtain ⟨g, rfl⟩ := hg1 ad rfl
      have := hM14.drop (d := k)
      rw [hLd] at this
      simpa [add_off] using this
  have HBn : Hid (k = 0 → MsgsAt w4 a1 L) := Lib.hid fun h => by
    rw [h, List.drop_zero] at hLd
    rw [← hLd]; exact hM14
  have HNE : Hid (n - k = 0 → ∀ ao, MsgsAt w4 ao L) := Lib.hid fun h ao => by
    rw [List.eq_nil_of_length_eq_zero (hLn.trans h)]; exact MsgsAt.empty
  clear hM2 hX4 H9b hM14 hL hLd hLs HM1
  go_wp2_with fail
  case' inl =>
    have e : n - (n - (n - k)) = n - k := by omega
    rw [e]
    refine (H10.out _ _ _ ((Kp.refl _ _).alloc _) (HNE.out (by omega) _)).mono ?_
  case' inr =>
    have e : n - (n - k) = k := by omega
    rw [e]
    refine (H10.out _ _ _ ((Kp.refl _ _).alloc _) (by
      by_cases h0 : 0 < n
      · exact HBm.out h0
      · exact HNE.out (by omega) _)).mono ?_
  all_goals
    rintro e w5 ⟨rfl, hX5⟩
    have k1 : w5.cell? ⟨w4.heap.size, 1, none⟩ = some (.int .u64 tl) := ((Blk.new w4 _ _).keep hX5 id).cell 1
    have HB8 := Lib.hid ((Blk.new w4 _ _).keep hX5 id)
    have HX5 : Hid (Ext w w5) := Lib.hid (HX4.out.trans (((Kp.refl _ _).alloc _).trans hX5 fun _ _ h => h) fun _ _ h => h)
    have HX45 : Hid (Ext w4 w5) := Lib.hid (((Kp.refl _ _).alloc _).trans hX5 fun _ _ h => h)
    have H8a := Lib.hid (H8.out w5 HX5.out)
    clear hX5
    by_cases hk0 : k = 0
    · go_wp2_with fail
      refine H8a.out.mono ?_
      rintro e w6 ⟨rfl, hX6⟩
      have HX6 := Lib.hid (HX5.out.trans hX6 fun _ _ h => h)
      clear hX6
      go_wp2_with fail
      go_ret
      exact ⟨by trivial, HX6.out⟩
    · obtain ⟨g, rfl⟩ : ∃ g, a1 = some ⟨g, 0, none⟩ := by
        cases a1 with
        | none => have := hN1 rfl; omega
        | some ad => obtain ⟨g, rfl⟩ := hg1 ad rfl; exact ⟨g, rfl⟩
      obtain ⟨v, hv⟩ : ∃ v, vs[k - 1]? = some v := ⟨vs[k - 1]'(by omega), by simp⟩
      have hget : (num f (vs.map StepV.rc))[k - 1]? = some (f + (k - 1), v.rc) := by rw [num_get, List.getElem?_map, hv]; rfl
      obtain ⟨b', off', ms, e1, ⟨ha, hc, da, dc, rfl, hb1, hb2, hr1, hr2⟩, hcell⟩ := HM14.out (k - 1) _ hget
      obtain ⟨rfl, rfl⟩ : b' = g ∧ off' = 0 := by simp at e1; exact ⟨e1.1.symm, e1.2.symm⟩
      have hcell' : ∀ {i : Nat} {x : Value}, w4.cell? ⟨b', i, none⟩ = some x → w5.cell? ⟨b', i, none⟩ = some x := fun h => (HX45.out.cell id (World.block_lt_of_cell? w4 _ h)).trans h
      have m0 : w5.cell? ⟨b', (k - 1) * 5, none⟩ = some (.string (str v.subj)) := hcell' (by simpa [StepV.rc] using hcell 0 _ rfl)
      have m1 : w5.cell? ⟨b', (k - 1) * 5 + 1, none⟩ = some (.slice ha v.hdr.length hc) := hcell' (by simpa [StepV.rc] using hcell 1 _ rfl)
      have m2 : w5.cell? ⟨b', (k - 1) * 5 + 2, none⟩ = some (.slice da v.data.length dc) := hcell' (by simpa [StepV.rc] using hcell 2 _ rfl)
      have m3 : w5.cell? ⟨b', (k - 1) * 5 + 3, none⟩ = some (.int .u64 ((f + (k - 1) : Nat) : Int)) := hcell' (by simpa [StepV.rc] using hcell 3 _ rfl)
      have m4 : w5.cell? ⟨b', (k - 1) * 5 + 4, none⟩ = some (.int .i64 v.time) := hcell' (by simpa [StepV.rc] using hcell 4 _ rfl)
      have ek : k - 1 = n - (n - k) - 1 := by omega
      have p0 := m0
      have p1 := m1
      have p2 := m2
      have p3 := m3
      have p4 := m4
      rw [ek] at p0 p1 p2 p3 p4
      have hvm : v ∈ vs := List.mem_of_getElem? hv
      have hsz := HD3.out.sz v hvm
      have hgt := HGT.out (by omega)
      have hdrop : total ((vs.map StepV.rc).drop (k - 1)) = v.rc.size + tl := by
        obtain ⟨hlt, hve⟩ := List.getElem?_eq_some_iff.1 hv
        rw [List.drop_eq_getElem_cons (by simpa using hlt), total, ← htl]
        congr 1
        · rw [List.getElem_map, hve]
        · rw [show k - 1 + 1 = k by omega]
      rw [hdrop] at hgt
      have HQ : Hid (∀ W, Ext w4 W → Bs W ha hc v.hdr ∧ Bs W da dc v.data) := Lib.hid fun W hX => ⟨⟨hb1.keep hX fun _ _ _ _ => id, hr1.1, by unfold maxLen; have := hsz.2.1; omega, hr1.2⟩, ⟨hb2.keep hX fun _ _ _ _ => id, hr2.1, by unfold maxLen; have := hsz.2.2; omega, hr2.2⟩⟩
      clear hcell hcell' hget hv hb1 hb2 hr1 hr2 htl hdrop hg1 hN1 HGT HM14 HBm HBn HNE e1 H10
      obtain ⟨sz, hszv⟩ : ∃ sz, v.rc.size = sz := ⟨_, rfl⟩
      rw [hszv] at hgt
      have hszl : sz ≤ 65536 := by rw [← hszv]; exact HD3.out.size hvm
      have hask : ∀ (W : World) (b1 b2 : Nat), Ext w5 W → Blk W b1 #[.int .i64 0, .string (str v.subj), .slice ha v.hdr.length hc, .slice da v.data.length dc, .int .i64 1, .int .u64 0, .int .u64 0, .int .u64 0, .bool false, .slice none 0 0, .int .i64 0, .int .i64 0, .int .i64 0, .bool false, .bool false, .int .u64 0] 44 →
          Blk W b2 #[.int .i64 32, .string ⟨#[]⟩, .slice none 0 0, .slice none 0 0, .int .i64 0, .int .u64 0, .int .u64 0, .int .u64 0, .bool false, .slice none 0 0, .int .i64 0, .int .i64 0, .int .i64 0, .bool false, .bool false, .int .u64 0] 44 →
          Calls Tryz.prog 11 #[confAgg 0 0, .slice (some ⟨b1, 0, none⟩) 1 1, .slice (some ⟨b2, 0, none⟩) 1 1] W fun e w' => (∃ ao' cap', e = .returned (.tuple #[.slice ao' 1 cap', .bool true]) ∧ ToldAt w' ao' [.state 1 sz 1 1]) ∧ Ext W w' := by
        intro W b1 b2 hX h1 h2
        have hq := HQ.out W (HX45.out.trans hX fun _ _ h => h)
        have hE' := HEE.out W (HX5.out.trans hX fun _ _ h => h)
        let mv : StepV := ⟨0, v.subj, ha, hc, v.hdr, da, dc, v.data, 1, 0, 0, 0, false, none, 0, [], 0, 0, 0, false, false, 0⟩
        have hsm : mv.rc.size = sz := hszv
        have hGD : GoodDeeds W [mv] := ⟨by simp, fun x hx => by simp at hx; subst hx; rfl, fun x hx => by simp at hx; subst hx; exact hsz, fun x hx => by simp at hx; subst hx; exact hq⟩
        have hps : psAt 0 0 [mv] 1 = ⟨[mv.rc], 1, 1⟩ := rfl
        refine askedH 0 0 [mv] [quest 32 0] [.state 1 sz 1 1] (some ⟨b1, 0, none⟩) (some ⟨b2, 0, none⟩) 1 1 W hGD (stepsAt_blk (v := mv) h1) (stepsAt_blk (v := quest 32 0) h2) (fun e => by simp at e) (fun e => by simp at e) (fun x hx => ⟨32, 0, by simpa using hx⟩) rfl (fun i x a hx ha' => ?_) (by simp) (by omega) (by omega) hE'
        cases i with
        | zero =>
          simp at hx ha'
          subst hx ha'
          show StepRel _ 0 0 (psAt 0 0 [mv] 1) _ (psAt 0 0 [mv] 1) _
          rw [hps]
          have := StepRel.state (K := [mv].map (·.subj)) (m := 0) (n := 0) ⟨[mv.rc], 1, 1⟩ (quest 32 0) rfl
          simpa [total, hsm] using this
        | succ i => simp at hx
      have HASK := Lib.hid hask
      clear hask HQ hsz
      generalize v.hdr.length = n1 at *
      generalize v.data.length = n2 at *
      generalize str v.subj = S at *
      generalize v.time = tm at *
      rw [← ek] at p3
      rw [show (w5.cell? ⟨b', (k - 1) * 5 + 3, none⟩ = _) = (w5.cell? ⟨b', (n - (n - k) - 1) * 5 + 3, none⟩ = _) by rw [← ek]] at p3
      clear ek
      generalize f + (k - 1) = sq at *
      go_wp2_with fail
      obtain ⟨w6, hw6⟩ : ∃ w6, ((w5.alloc (.cells #[.string S, .slice ha n1 hc, .slice da n2 dc, .int .u64 sq, .int .i64 tm] 38)).alloc (.cells #[.int .i64 0, .string S, .slice ha n1 hc, .slice da n2 dc, .int .i64 1, .int .u64 0, .int .u64 0, .int .u64 0, .bool false, .slice none 0 0, .int .i64 0, .int .i64 0, .int .i64 0, .bool false, .bool false, .int .u64 0] 44)).alloc (.cells #[.int .i64 32, .string ⟨#[]⟩, .slice none 0 0, .slice none 0 0, .int .i64 0, .int .u64 0, .int .u64 0, .int .u64 0, .bool false, .slice none 0 0, .int .i64 0, .int .i64 0, .int .i64 0, .bool false, .bool false, .int .u64 0] 44) = w6 := ⟨_, rfl⟩
      rw [hw6]
      have hX6 : Ext w5 w6 := by rw [← hw6]; exact (((Kp.refl _ _).alloc _).alloc _).alloc _
      have hb1 : Blk w6 (w5.heap.size + 1) #[.int .i64 0, .string S, .slice ha n1 hc, .slice da n2 dc, .int .i64 1, .int .u64 0, .int .u64 0, .int .u64 0, .bool false, .slice none 0 0, .int .i64 0, .int .i64 0, .int .i64 0, .bool false, .bool false, .int .u64 0] 44 := by rw [← hw6]; exact (Blk.newAt (w := w5.alloc _) (by simp)).alloc _
      have hb2 : Blk w6 (w5.heap.size + 1 + 1) #[.int .i64 32, .string ⟨#[]⟩, .slice none 0 0, .slice none 0 0, .int .i64 0, .int .u64 0, .int .u64 0, .int .u64 0, .bool false, .slice none 0 0, .int .i64 0, .int .i64 0, .int .i64 0, .bool false, .bool false, .int .u64 0] 44 := by rw [← hw6]; exact Blk.newAt (w := (w5.alloc _).alloc _) (by simp)
      refine (HASK.out w6 _ _ hX6 hb1 hb2).mono ?_
      rintro e w7 ⟨⟨a7, c7, rfl, hT⟩, hX7⟩
      obtain ⟨bt, ot, ct, rfl, ⟨_, _, _, rfl⟩, hct⟩ := hT 0 _ rfl
      have t12 : w7.cell? ⟨bt, ot + 11 + 1, none⟩ = some (.int .u64 sz) := hct 12 _ rfl
      have q1 : w7.cell? ⟨w4.heap.size, 1, none⟩ = some (.int .u64 tl) := ((HB8.out.keep hX6 id).keep hX7 id).cell 1
      have HX7 := Lib.hid ((HX5.out.trans hX6 fun _ _ h => h).trans hX7 fun _ _ h => h)
      have H87 : Hid (∀ W, Ext w7 W → Calls Tryz.prog 8 #[] W fun e w' => e = .returned (.bool true) ∧ Ext W w') := Lib.hid fun W hX => H8.out W (HX7.out.trans hX fun _ _ h => h)
      clear hX6 hb1 hb2 hT hct hX7 hw6 m0 m1 m2 m3 m4 p0 p1 p2 p3 p4 HASK k1 H8a
      obtain ⟨TT, hTT⟩ : ∃ TT : Int, (tl : Int) + (sz : Int) = TT := ⟨_, rfl⟩
      have hgti : (m : Int) < TT := by omega
      have hT0 : 0 ≤ TT := by omega
      have hT1 : TT ≤ 4294967296 := by omega
      have hw1 : IntKind.u64.wrap TT = TT := by rw [IntKind.wrap_u64]; omega
      have hw2 : IntKind.i64.wrap TT = TT := by rw [IntKind.wrap_i64]; omega
      clear hgt
      go_wp2_with fail
      first | (go_region_with (go_at_call 8; refine (H87.out _ ((Kp.refl _ _).drew)).mono ?_; rintro e w8 ⟨rfl, hX8⟩; have HX8 : Hid (Ext w w8) := Lib.hid ((HX7.out.trans ((Kp.refl _ _).drew) fun _ _ h => h).trans hX8 fun _ _ h => h); clear hX8)) | fail
      all_goals (
        go_wp2_with fail
        go_ret
        exact ⟨by trivial, HX8.out⟩)
end Go.Proofs.YtbehafhkgbjgmaaGreatDoor
