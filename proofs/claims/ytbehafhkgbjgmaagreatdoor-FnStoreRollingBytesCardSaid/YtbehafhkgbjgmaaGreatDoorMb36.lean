/-
  The filter of the rolling laws: at most 24 stores of small messages. No condition beyond the reading.
-/
import Derived.Test.YtbehafhkgbjgmaaGreatDoorMb35
import Derived.Test.YtbehafhkgbjgmaaGreatDoorMb34
namespace Go.Proofs.YtbehafhkgbjgmaaGreatDoor
open Go Go.RowKit
set_option maxRecDepth 100000

set_option maxHeartbeats 1000000 in
theorem stores7 (vs : List StepV) (ao : Option Addr) (cap : Nat) (w : World) (hS : StepsAt w ao vs) (hO : ∀ v, v ∈ vs → v.Ok w) (hF : ∀ v, v ∈ vs → v.Fits) (hl : vs.length ≤ 9223372036854775807) :
    Calls Tryz.prog 7 #[.slice ao vs.length cap] w fun e w' => (∃ b, e = .returned (.bool b) ∧ (b = true → vs.length ≤ 24 ∧ ∀ v, v ∈ vs → v.op = 0 ∧ v.Small)) ∧ Ext w w' := by
  have H14 : Hid ((∀ v, v ∈ vs → v.op = 0) → Calls Tryz.prog 14 #[.slice ao vs.length cap] w fun e w' => (∃ b, e = .returned (.bool b) ∧ (b = true → vs.length ≤ 24 ∧ ∀ v, v ∈ vs → v.op = 0 ∧ v.Small)) ∧ Ext w w') := Lib.hid fun hop =>
    (deeds14 vs ao cap w hS hO hop hF hl).mono fun e w' ⟨⟨b, e1, e2⟩, e3⟩ => ⟨⟨b, e1, fun hb => ⟨(e2 hb).1, fun v hv => ⟨hop v hv, (e2 hb).2 v hv⟩⟩⟩, e3⟩
  have HS := Lib.hid hS
  clear hS hO hF
  generalize hn : vs.length = n at H14 hl
  go_enter Tryz.func7, Tryz.ntmps7
  go_wp2_with fail
  go_loopw [3] (fun x wr => ∃ j : Nat, j ≤ n ∧ x = .int .i64 j ∧ w = wr ∧ Hid (∀ (k : Nat) (v : StepV), k < j → vs[k]? = some v → v.op = 0)) (fun x _ => n - (intOf x).toNat)
  case atStart => exact ⟨0, Nat.zero_le _, rfl, rfl, Lib.hid fun k v h => by omega⟩
  case round =>
    obtain ⟨j, hj, rfl, rfl, hK⟩ := hrel
    by_cases hjn : j < n
    · obtain ⟨b, off, rfl⟩ := HS.out.some (j := j) (by omega)
      have hjv : j < vs.length := by omega
      have c0 := (HS.out.at hjv).c0
      have HVJ : Hid (vs[j]? = some vs[j]) := Lib.hid (by simp)
      generalize vs[j] = v at c0 HVJ
      go_wp2_with fail
      all_goals first
        | (go_ret; refine ⟨⟨false, rfl, fun h => ?_⟩, Kp.refl _ _⟩; cases h)
        | (have hop0 : v.op = 0 := by first | assumption | omega | simp_all
           have HKJ : Hid (∀ (k : Nat) (v' : StepV), k < j + 1 → vs[k]? = some v' → v'.op = 0) := Lib.hid fun k v' hk hv' => by
             by_cases hkj : k = j
             · subst hkj
               rw [HVJ.out] at hv'
               simp at hv'
               subst hv'
               exact hop0
             · exact hK.out k v' (by omega) hv'
           go_roundw
           case measure => simp [intOf]; omega
           case rel => exact ⟨j + 1, by omega, by simp, by trivial, HKJ⟩)
    · have H14a := Lib.hid (H14.out fun v hv => by
        obtain ⟨r, hr, rfl⟩ := List.getElem_of_mem hv
        exact hK.out r _ (by omega) (by simp [hr]))
      clear H14
      go_wp2_with fail
      refine H14a.out.mono ?_
      rintro e w1 ⟨⟨b, rfl, hb⟩, hX⟩
      have HB := Lib.hid hb
      have HX := Lib.hid hX
      clear hb hX
      go_wp2_with fail
      go_ret
      exact ⟨⟨_, rfl, HB.out⟩, HX.out⟩
end Go.Proofs.YtbehafhkgbjgmaaGreatDoor

/-
  What is left of a rolling store: the last messages with their numbers. Plain.
-/
namespace Go.Proofs.YtbehafhkgbjgmaaGreatDoor
open Go Go.RowKit
theorem num_drop : ∀ (f : Nat) (q : List Rec) (k : Nat), (num f q).drop k = num (f + k) (q.drop k)
  | _, [], k => by simp [num]
  | f, r :: q, 0 => by simp [num]
  | f, r :: q, k + 1 => by
    simp only [num, List.drop_succ_cons]
    rw [num_drop (f + 1) q k, show f + 1 + k = f + (k + 1) by omega]
def fst1 (n : Nat) : Nat := if n = 0 then 0 else 1
theorem ps_all (ds : List StepV) : psAt 0 0 ds ds.length = ⟨ds.map StepV.rc, fst1 ds.length, ds.length⟩ := by
  have e : (ds.map StepV.rc).take ds.length = ds.map StepV.rc := by rw [List.take_of_length_le (by simp)]
  simp only [psAt, e, after_all, List.length_map, fst1]
  congr 1
  split <;> omega
theorem ps_left (m n : Nat) (ds : List StepV) {k : Nat} (hk : k ≤ ds.length) (ha : after m n (ds.map StepV.rc) = (ds.map StepV.rc).drop k) :
    psAt m n ds ds.length = ⟨(ds.map StepV.rc).drop k, fst1 ds.length + k, ds.length⟩ := by
  have e : (ds.map StepV.rc).take ds.length = ds.map StepV.rc := by rw [List.take_of_length_le (by simp)]
  simp only [psAt, e, ha, List.length_map, List.length_drop, fst1]
  congr 1
  split <;> omega
theorem MsgsAt.drop {w : World} {b off d : Nat} {l : List (Nat × Rec)} (h : MsgsAt w (Option.some ⟨b, off, Option.none⟩) l) : MsgsAt w (Option.some ⟨b, off + d * 5, Option.none⟩) (l.drop d) := by
  intro i x hx
  rw [List.getElem?_drop] at hx
  obtain ⟨b', off', ms, e, hM, hc⟩ := h (d + i) x hx
  simp at e
  obtain ⟨rfl, rfl⟩ := e
  refine ⟨b, off + d * 5, ms, rfl, hM, fun k c hk => ?_⟩
  have := hc k c hk
  rw [show off + ((d + i) * 5 + k) = off + d * 5 + (i * 5 + k) by omega] at this
  exact this
theorem MsgsAt.empty {w : World} {ao : Option Addr} : MsgsAt w ao [] := fun i x hx => by simp at hx
/-- Two lists of messages hold alike: the questions of the tenth function. -/
theorem num_small {w : World} {ds : List StepV} (h : GoodDeeds w ds) (f k : Nat) : (num f ((ds.map StepV.rc).drop k)).length ≤ 1000 ∧ ∀ x, x ∈ num f ((ds.map StepV.rc).drop k) → x.2.size ≤ 1099511627776 := by
  have hf := h.few
  refine ⟨by rw [num_length]; simp; omega, fun x hx => ?_⟩
  obtain ⟨i, hi, rfl⟩ := List.getElem_of_mem hx
  have hg := num_get f ((ds.map StepV.rc).drop k) i
  rw [List.getElem?_eq_getElem hi] at hg
  obtain ⟨r, hr, e⟩ := Option.map_eq_some_iff.1 hg.symm
  rw [← e]
  obtain ⟨v, hv, rfl⟩ := List.mem_map.1 (List.mem_of_mem_drop (List.mem_of_getElem? hr))
  have := h.size hv
  show v.rc.size ≤ _
  omega
end Go.Proofs.YtbehafhkgbjgmaaGreatDoor

/-
  The law of the rolling store by number: true at every script. No condition beyond the two errors.
-/
namespace Go.Proofs.YtbehafhkgbjgmaaGreatDoor
open Go Go.RowKit
set_option maxRecDepth 100000

theorem GoodDeeds.of {w : World} {vs : List StepV} (hO : ∀ v, v ∈ vs → v.Ok w) (hl : vs.length ≤ 24) (h : ∀ v, v ∈ vs → v.op = 0 ∧ v.Small) : GoodDeeds w vs :=
  ⟨hl, fun v hv => (h v hv).1, fun v hv => (h v hv).2, fun v hv => ⟨(hO v hv).hdr, (hO v hv).data⟩⟩
theorem GoodDeeds.keep {w w' : World} {vs : List StepV} (h : GoodDeeds w vs) (hX : Ext w w') : GoodDeeds w' vs :=
  ⟨h.few, h.op, h.sz, fun v hv => ⟨⟨(h.bs v hv).1.1.keep hX fun _ _ _ _ => id, (h.bs v hv).1.2⟩, ⟨(h.bs v hv).2.1.keep hX fun _ _ _ _ => id, (h.bs v hv).2.2⟩⟩⟩
theorem strs_keep {w w' : World} {ao : Option Addr} {l : List (List UInt8)} (h : StrsAt w ao l) (hX : Ext w w') : StrsAt w' ao l := fun i hi => by
  obtain ⟨b, off, e, hc⟩ := h i hi
  exact ⟨b, off, e, (hX.cell id (World.block_lt_of_cell? w _ hc)).trans hc⟩
theorem ok_keep {w w' : World} {v : StepV} (h : v.Ok w) (hX : Ext w w') : v.Ok w' :=
  ⟨⟨h.hdr.1.keep hX fun _ _ _ _ => id, h.hdr.2⟩, ⟨h.data.1.keep hX fun _ _ _ _ => id, h.data.2⟩, strs_keep h.subs hX, h.sle, h.subj, h.op, h.time, h.seq, h.num, h.keep⟩
set_option maxHeartbeats 1000000 in
theorem rolling3 (vs : List StepV) (ao : Option Addr) (cap : Nat) (mm : Int) (w : World) (hS : StepsAt w ao vs) (hO : ∀ v, v ∈ vs → v.Ok w) (hN : ao = none → vs = [] ∧ cap = 0) (hl : vs.length ≤ 9223372036854775807) (hE : Errs w) :
    Calls Tryz.prog 3 #[.slice ao vs.length cap, .int .i64 mm] w fun e w' => e = .returned (.bool true) ∧ Ext w w' := by
  have H6 := Lib.hid (fits6 vs ao cap w hS hO hl)
  have H7 : Hid ((∀ v, v ∈ vs → v.Fits) → ∀ W, Ext w W → Calls Tryz.prog 7 #[.slice ao vs.length cap] W fun e w' => (∃ b, e = .returned (.bool b) ∧ (b = true → GoodDeeds W vs)) ∧ Ext W w') := Lib.hid fun hF W hX =>
    (stores7 vs ao cap W (hS.keep hX fun _ _ _ _ => id) (fun v hv => ok_keep (hO v hv) hX) hF hl).mono fun e w' ⟨⟨b, e1, e2⟩, e3⟩ => ⟨⟨b, e1, fun hb => .of (fun v hv => ok_keep (hO v hv) hX) (e2 hb).1 (e2 hb).2⟩, e3⟩
  have H8 : Hid (∀ W, Ext w W → Calls Tryz.prog 8 #[] W fun e w' => e = .returned (.bool true) ∧ Ext W w') := Lib.hid fun W hX => awake8 W (hE.keep hX id id)
  have H9 : Hid (∀ (m k : Nat) W, m ≤ 1048576 → k ≤ vs.length → after m 0 (vs.map StepV.rc) = (vs.map StepV.rc).drop k → Ext w W → GoodDeeds W vs → Calls Tryz.prog 9 #[confAgg m 0, .slice ao vs.length cap] W fun e w' => (∃ t1 t2 sz ao' cap', e = .returned (.tuple #[.agg (stCells (vs.length - k) (total ((vs.map StepV.rc).drop k)) (fst1 vs.length + k) vs.length t1 t2 sz), .slice ao' (vs.length - k) cap', .bool true]) ∧ MsgsAt w' ao' (num (fst1 vs.length + k) ((vs.map StepV.rc).drop k)) ∧ vs.length - k ≤ cap' ∧ (ao' = none → vs.length - k = 0 ∧ cap' = 0) ∧ ∀ ad, ao' = some ad → ∃ g, ad = ⟨g, 0, none⟩) ∧ Ext W w') := Lib.hid fun m k W hm hk ha hX hD => by
    have e := ps_left m 0 vs hk ha
    have := held9 m 0 vs ao cap W hD (hS.keep hX fun _ _ _ _ => id) hN hm (by omega) (hE.keep hX id id) _ _ _ (congrArg PS.q e) (congrArg PS.f e) (congrArg PS.la e)
    simpa using this
  generalize hn : vs.length = n at *
  clear hS hO hN hE
  go_enter Tryz.func3, Tryz.ntmps3
  go_wp2_with fail
  refine H6.out.mono ?_
  rintro e w1 ⟨⟨b, rfl, hb⟩, hX1⟩
  have HB := Lib.hid hb
  have HX1 := Lib.hid hX1
  clear hb hX1
  cases b
  · go_wp2_with fail
    go_ret
    exact ⟨by trivial, HX1.out⟩
  have H7a := Lib.hid (H7.out (HB.out rfl) w1 HX1.out)
  have H8a := Lib.hid (H8.out w1 HX1.out)
  clear HB H7 H6
  go_wp2_with fail
  rotate_left 1
  · skip
    refine H8a.out.mono ?_
    rintro e w2 ⟨rfl, hX2⟩
    have HX2 := Lib.hid (HX1.out.trans hX2 fun _ _ h => h)
    clear hX2
    go_wp2_with fail
    go_ret
    exact ⟨by trivial, HX2.out⟩
  · skip
    refine H8a.out.mono ?_
    rintro e w2 ⟨rfl, hX2⟩
    have HX2 := Lib.hid (HX1.out.trans hX2 fun _ _ h => h)
    clear hX2
    go_wp2_with fail
    go_ret
    exact ⟨by trivial, HX2.out⟩
  refine H7a.out.mono ?_
  rintro e w2 ⟨⟨b, rfl, hb⟩, hX2⟩
  have HB := Lib.hid hb
  have HX2 := Lib.hid (HX1.out.trans hX2 fun _ _ h => h)
  have HX12 := Lib.hid hX2
  clear hb hX2 H7a H8a
  have H8a := Lib.hid (H8.out w2 HX2.out)
  cases b
  · go_wp2_with fail
    refine H8a.out.mono ?_
    rintro e w3 ⟨rfl, hX3⟩
    have HX3 := Lib.hid (HX2.out.trans hX3 fun _ _ h => h)
    clear hX3
    go_wp2_with fail
    go_ret
    exact ⟨by trivial, HX3.out⟩
  obtain ⟨m, rfl⟩ : ∃ m : Nat, mm = m := ⟨mm.toNat, by omega⟩
  have hD2 := (HB.out rfl).keep HX12.out
  have hfew : n ≤ 24 := by rw [← hn]; exact hD2.few
  have H9a := Lib.hid (H9.out 0 0 w2 (by omega) (by omega) (by rw [after_all]; rfl) HX2.out hD2)
  have HD2 := Lib.hid hD2
  clear hD2 HB H8a
  unfold confAgg at H9 H9a
  unfold stCells at H9 H9a
  simp only [Nat.sub_zero, Nat.add_zero, List.drop_zero] at H9a
  go_wp2_with fail
  refine H9a.out.mono ?_
  rintro e w3 ⟨⟨t1, t2, sz, a1, c1, rfl, hM1, hc1, hN1, hg1⟩, hX3⟩
  have HM1 := Lib.hid hM1
  have HX3 := Lib.hid (HX2.out.trans hX3 fun _ _ h => h)
  have H9b : Hid (∀ W, Ext w3 W → _) := Lib.hid fun W hX => H9.out m (n - m) W (by omega) (by omega) (by rw [after_most m (by omega)]; simp [hn]) (HX3.out.trans hX fun _ _ h => h) (HD2.out.keep (hX3.trans hX fun _ _ h => h))
  have HD3 := Lib.hid (HD2.out.keep hX3)
  clear hM1 hX3 H9a H9 HD2 HX2 HX12 HX1
  generalize total (vs.map StepV.rc) = tq
  generalize fst1 n = f at *
  go_wp2_with fail
  refine (H9b.out _ ((Kp.refl _ _).alloc _)).mono ?_
  rintro e w4 ⟨⟨t1', t2', sz', a2, c2, rfl, hM2, hc2, hN2, hg2⟩, hX4⟩
  have HX34 : Hid (Ext w3 w4) := Lib.hid (((Kp.refl _ _).alloc _).trans hX4 fun _ _ h => h)
  have HM2 := Lib.hid hM2
  have hM14 : MsgsAt w4 a1 (num f (vs.map StepV.rc)) := HM1.out.keep HX34.out
  obtain ⟨L, hL⟩ : ∃ L, num (f + (n - m)) ((vs.map StepV.rc).drop (n - m)) = L := ⟨_, rfl⟩
  have hLd : (num f (vs.map StepV.rc)).drop (n - m) = L := by rw [num_drop, hL]
  have hLn : L.length = n - (n - m) := by rw [← hLd, List.length_drop, num_length, List.length_map, hn]
  have hLs := num_small HD3.out (f + (n - m)) (n - m)
  rw [hL] at hLs hM2
  have H10 : Hid (∀ W (b : Option Addr) cb, Ext w4 W → MsgsAt w4 b L → Calls Tryz.prog 10 #[.slice a2 (n - (n - m)) c2, .slice b (n - (n - m)) cb] W fun e w' => e = .returned (.bool true) ∧ Ext w w') := Lib.hid fun W b cb hX hb => by
    have := sameMsgs10 L a2 b c2 cb W (hM2.keep hX) (hb.keep hX) hLs.1 hLs.2
    rw [hLn] at this
    exact this.mono fun e w' ⟨e1, e2⟩ => ⟨e1, ((HX3.out.trans HX34.out fun _ _ h => h).trans hX fun _ _ h => h).trans e2 fun _ _ h => h⟩
  have HBm : Hid (m < n → MsgsAt w4 (a1.map fun x => x.add ((n - m) * 5)) L) := Lib.hid fun h => by
    cases a1 with
    | none => have := hN1 rfl; omega
    | some ad =>
      obtain ⟨g, rfl⟩ := hg1 ad rfl
      have := hM14.drop (d := n - m)
      rw [hLd] at this
      simpa [add_off] using this
  have HBn : Hid (¬ m < n → MsgsAt w4 a1 L) := Lib.hid fun h => by
    rw [show n - m = 0 by omega, List.drop_zero] at hLd
    rw [← hLd]; exact hM14
  clear hM2 hX4 H9b hM14 hL hLd hLs HM1 hg1
  go_wp2_with fail
  · have e : n - (n - m) = n := by omega
    rw [e] at H10 ⊢
    refine (H10.out _ _ _ ((Kp.refl _ _).alloc _) (HBn.out (by omega))).mono ?_
    rintro e w5 ⟨rfl, hX5⟩
    have H8a := Lib.hid (H8.out w5 hX5)
    have HX5 := Lib.hid hX5
    clear hX5
    go_wp2_with fail
    refine H8a.out.mono ?_
    rintro e w6 ⟨rfl, hX6⟩
    have HX6 := Lib.hid (HX5.out.trans hX6 fun _ _ h => h)
    clear hX6
    go_wp2_with fail
    go_ret
    exact ⟨by trivial, HX6.out⟩
  · refine (H10.out _ _ _ ((Kp.refl _ _).alloc _) (HBm.out (by omega))).mono ?_
    rintro e w5 ⟨rfl, hX5⟩
    have H8a := Lib.hid (H8.out w5 hX5)
    have HX5 := Lib.hid hX5
    clear hX5
    go_wp2_with fail
    refine H8a.out.mono ?_
    rintro e w6 ⟨rfl, hX6⟩
    have HX6 := Lib.hid (HX5.out.trans hX6 fun _ _ h => h)
    clear hX6
    go_wp2_with fail
    go_ret
    exact ⟨by trivial, HX6.out⟩
  · have e : n - (n - m) = n := by omega
    rw [e] at H10 ⊢
    refine (H10.out _ _ _ ((Kp.refl _ _).alloc _) (HBn.out (by omega))).mono ?_
    rintro e w5 ⟨rfl, hX5⟩
    have H8a := Lib.hid (H8.out w5 hX5)
    have HX5 := Lib.hid hX5
    clear hX5
    go_wp2_with fail
    refine H8a.out.mono ?_
    rintro e w6 ⟨rfl, hX6⟩
    have HX6 := Lib.hid (HX5.out.trans hX6 fun _ _ h => h)
    clear hX6
    go_wp2_with fail
    go_ret
    exact ⟨by trivial, HX6.out⟩
end Go.Proofs.YtbehafhkgbjgmaaGreatDoor
