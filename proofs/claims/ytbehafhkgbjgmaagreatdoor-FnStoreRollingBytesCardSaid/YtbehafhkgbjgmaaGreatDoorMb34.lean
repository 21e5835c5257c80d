/-
  What the store is behind a script of deeds, in plain words; deeds and questions are asked. No condition beyond the deeds.
-/
import Derived.Test.YtbehafhkgbjgmaaGreatDoorMb33
import Derived.Lib.SlBytesConst
namespace Go.Proofs.YtbehafhkgbjgmaaGreatDoor
open Go Go.RowKit
set_option maxRecDepth 100000

/-- A question: its kind, its number. -/
def quest (op sq : Int) : StepV := ⟨op, [], none, 0, [], none, 0, [], 0, sq, 0, 0, false, none, 0, [], 0, 0, 0, false, false, 0⟩
/-- The store behind i of the deeds. -/
def psAt (m n : Nat) (ds : List StepV) (i : Nat) : PS := ⟨after m n ((ds.map StepV.rc).take i), if i = 0 then 0 else i + 1 - (after m n ((ds.map StepV.rc).take i)).length, i⟩
theorem psAt_zero (m n : Nat) (ds : List StepV) : psAt m n ds 0 = ⟨[], 0, 0⟩ := by simp [psAt, after]
theorem psAt_succ (m n : Nat) {ds : List StepV} {i : Nat} {v : StepV} (h : ds[i]? = some v) : psAt m n ds (i + 1) = ⟨put m n (psAt m n ds i).q v.rc, firstOf ((psAt m n ds i).la + 1) (put m n (psAt m n ds i).q v.rc), (psAt m n ds i).la + 1⟩ := by
  have hi : i < ds.length := (List.getElem?_eq_some_iff.1 h).1
  have e : (ds.map StepV.rc).take (i + 1) = (ds.map StepV.rc).take i ++ [v.rc] := by
    rw [List.take_succ_eq_append_getElem (by simpa using hi)]
    congr 2
    obtain ⟨_, rfl⟩ := List.getElem?_eq_some_iff.1 h
    simp
  simp only [psAt, e, after_snoc, firstOf]
  congr 1
theorem after_len (m n : Nat) (l : List Rec) : (after m n l).length ≤ l.length ∧ ∀ r, r ∈ after m n l → r ∈ l := by
  refine snoc_cases (fun l => (after m n l).length ≤ l.length ∧ ∀ r, r ∈ after m n l → r ∈ l) (by simp [after]) ?_ l
  intro l r ⟨h1, h2⟩
  rw [after_snoc]
  unfold put
  obtain ⟨k, _, e, _, _⟩ := dropB_spec n (dropN m (after m n l ++ [r]))
  rw [e]
  have hd : dropN m (after m n l ++ [r]) = (after m n l ++ [r]).drop (if m = 0 then 0 else (after m n l ++ [r]).length - m) := by
    unfold dropN; split <;> simp
  rw [hd]
  refine ⟨by simp; omega, fun x hx => ?_⟩
  have hx := List.mem_of_mem_drop (List.mem_of_mem_drop hx)
  rcases List.mem_append.1 hx with hx | hx
  · exact List.mem_append.2 (.inl (h2 x hx))
  · exact List.mem_append.2 (.inr hx)

/-- Deeds that the laws speak of. -/
structure GoodDeeds (w : World) (ds : List StepV) : Prop where
  few : ds.length ≤ 24
  op : ∀ v, v ∈ ds → v.op = 0
  sz : ∀ v, v ∈ ds → GoodSubj v.subj ∧ v.hdr.length ≤ 40 ∧ v.data.length ≤ 60
  bs : ∀ v, v ∈ ds → Bs w v.ha v.hc v.hdr ∧ Bs w v.da v.dc v.data
theorem GoodDeeds.kgood {w : World} {ds : List StepV} (h : GoodDeeds w ds) : KGood (ds.map (·.subj)) := by
  refine ⟨by simp; have := h.few; omega, fun key hk => ?_⟩
  obtain ⟨v, hv, rfl⟩ := List.mem_map.1 hk
  have := (h.sz v hv).1
  exact ⟨this.2.2, this.1, by have := this.2.1; omega⟩
theorem GoodDeeds.size {w : World} {ds : List StepV} (h : GoodDeeds w ds) {v : StepV} (hv : v ∈ ds) : v.rc.size ≤ 65536 := by
  obtain ⟨h1, h2, h3⟩ := h.sz v hv
  have := h1.2.1
  unfold StepV.rc Rec.size
  simp only
  omega
theorem GoodDeeds.rel {w : World} {ds : List StepV} (h : GoodDeeds w ds) (m n : Nat) {i : Nat} {v : StepV} (hv : ds[i]? = some v) : StepRel (ds.map (·.subj)) m n (psAt m n ds i) v (psAt m n ds (i + 1)) .deed := by
  rw [psAt_succ m n hv]
  have hm := List.mem_of_getElem? hv
  have hi : i < ds.length := (List.getElem?_eq_some_iff.1 hv).1
  refine .store _ _ (h.op v hm) ?_ (List.mem_map.2 ⟨v, hm, rfl⟩) (h.size hm)
  show i < 59
  have := h.few
  omega
/-- What the store has in the end. -/
theorem psAt_end (m n : Nat) {w : World} {ds : List StepV} (h : GoodDeeds w ds) : (psAt m n ds ds.length).q = after m n (ds.map StepV.rc) ∧ (psAt m n ds ds.length).la = ds.length ∧
    ((psAt m n ds ds.length).f + (psAt m n ds ds.length).q.length = ds.length + 1 ∨ ((psAt m n ds ds.length).q = [] ∧ (psAt m n ds ds.length).f = 0 ∧ ds.length = 0)) ∧ ∀ r, r ∈ (psAt m n ds ds.length).q → r.size ≤ 65536 := by
  have e : (ds.map StepV.rc).take ds.length = ds.map StepV.rc := by rw [List.take_of_length_le (by simp)]
  refine ⟨by simp [psAt, e], rfl, ?_, fun r hr => ?_⟩
  · by_cases h0 : ds.length = 0
    · right
      obtain rfl := List.eq_nil_of_length_eq_zero h0
      simp [psAt, after]
    · left
      have := (after_len m n (ds.map StepV.rc)).1
      simp only [List.length_map] at this
      simp only [psAt, e, if_neg h0]
      omega
  · simp only [psAt, e] at hr
    obtain ⟨v, hv, rfl⟩ := List.mem_map.1 ((after_len m n _).2 r hr)
    exact h.size hv

/-- The script of the deeds and some questions: what the store is at each step. -/
def psQ (m n : Nat) (ds : List StepV) (i : Nat) : PS := psAt m n ds (min i ds.length)
theorem rel_all (m n : Nat) {w : World} {ds qs : List StepV} {aq : List Ans} (h : GoodDeeds w ds) (hq : ∀ (i : Nat) (v : StepV) (a : Ans), qs[i]? = some v → aq[i]? = some a → StepRel (ds.map (·.subj)) m n (psAt m n ds ds.length) v (psAt m n ds ds.length) a) :
    ∀ (i : Nat) (v : StepV) (a : Ans), (ds ++ qs)[i]? = some v → (List.replicate ds.length Ans.deed ++ aq)[i]? = some a → StepRel (ds.map (·.subj)) m n (psQ m n ds i) v (psQ m n ds (i + 1)) a := by
  intro i v a hv ha
  unfold psQ
  by_cases hi : i < ds.length
  · rw [List.getElem?_append_left hi] at hv
    rw [List.getElem?_append_left (by simpa using hi), List.getElem?_replicate, if_pos hi] at ha
    simp at ha
    subst ha
    rw [Nat.min_eq_left (by omega), Nat.min_eq_left (by omega)]
    exact h.rel m n hv
  · rw [List.getElem?_append_right (by omega)] at hv
    rw [List.getElem?_append_right (by simp; omega), List.length_replicate] at ha
    rw [Nat.min_eq_right (by omega), Nat.min_eq_right (by omega)]
    exact hq _ _ _ hv ha
theorem quest_bs (w : World) (op sq : Int) : Bs w (quest op sq).ha (quest op sq).hc (quest op sq).hdr ∧ Bs w (quest op sq).da (quest op sq).dc (quest op sq).data :=
  ⟨⟨BytesAt.nil _ _, Nat.le_refl _, by simp [quest], fun _ => ⟨rfl, rfl⟩⟩, ⟨BytesAt.nil _ _, Nat.le_refl _, by simp [quest], fun _ => ⟨rfl, rfl⟩⟩⟩

/-- 'asked' over deeds and questions. -/
theorem askedH (m n : Nat) (ds qs : List StepV) (aq : List Ans) (ao bo : Option Addr) (cap cap2 : Nat) (w : World) (hD : GoodDeeds w ds) (hS1 : StepsAt w ao ds) (hS2 : StepsAt w bo qs) (hN1 : ao = none → ds = [] ∧ cap = 0) (hN2 : bo = none → qs = [] ∧ cap2 = 0)
    (hqs : ∀ v, v ∈ qs → ∃ op sq, v = quest op sq) (hl : aq.length = qs.length) (hq : ∀ (i : Nat) (v : StepV) (a : Ans), qs[i]? = some v → aq[i]? = some a → StepRel (ds.map (·.subj)) m n (psAt m n ds ds.length) v (psAt m n ds ds.length) a) (hn : qs.length ≤ 100) (hmb : m ≤ 1048576) (hnb : n ≤ 1048576) (hE : Errs w) :
    Calls Tryz.prog 11 #[confAgg m n, .slice ao ds.length cap, .slice bo qs.length cap2] w fun e w' => (∃ ao' cap', e = .returned (.tuple #[.slice ao' qs.length cap', .bool true]) ∧ ToldAt w' ao' aq) ∧ Ext w w' := by
  have hf := hD.few
  refine (asked11 m n (ds.map (·.subj)) hD.kgood ds qs ao bo cap cap2 (psQ m n ds) (List.replicate ds.length Ans.deed ++ aq) w hS1 hS2 hN1 hN2 (fun v hv => ?_) ?_ (by simp [hl]) (rel_all m n hD hq) (by omega) hmb hnb hE).mono ?_
  · rcases List.mem_append.1 hv with hv | hv
    · exact hD.bs v hv
    · obtain ⟨op, sq, rfl⟩ := hqs v hv
      exact quest_bs w op sq
  · unfold psQ
    rw [Nat.zero_min]
    exact psAt_zero m n ds
  · rintro e w' ⟨⟨a1, c1, rfl, h1⟩, h2⟩
    refine ⟨⟨a1, c1, rfl, ?_⟩, h2⟩
    have e : (List.replicate ds.length Ans.deed ++ aq).drop ds.length = aq := by
      have := List.drop_left (l₁ := List.replicate ds.length Ans.deed) (l₂ := aq)
      rwa [List.length_replicate] at this
    rwa [e] at h1
end Go.Proofs.YtbehafhkgbjgmaaGreatDoor

/-
  Bytes, messages and lists of messages that are compared. No condition but that they are not too long.
-/
namespace Go.Proofs.YtbehafhkgbjgmaaGreatDoor
open Go Go.RowKit
set_option maxRecDepth 100000

set_option maxHeartbeats 1000000 in
theorem same20 (l : List UInt8) (ao bo : Option Addr) (c1 c2 : Nat) (w : World) (hA : BytesAt w ao l) (hB : BytesAt w bo l) (hl : l.length ≤ 1099511627776) :
    Calls Tryz.prog 20 #[.slice ao l.length c1, .slice bo l.length c2] w fun e w' => e = .returned (.bool true) ∧ Ext w w' := by
  have HA := Lib.hid hA
  have HB := Lib.hid hB
  clear hA hB
  generalize hn : l.length = n at hl
  go_enter Tryz.func20, Tryz.ntmps20
  go_wp2_with fail
  go_loopw [5] (fun x wr => ∃ j : Nat, j ≤ n ∧ x = .int .i64 j ∧ Hid (Ext w wr)) (fun x _ => n - (intOf x).toNat)
  case atStart => exact ⟨0, Nat.zero_le _, rfl, Lib.hid (Kp.refl _ _)⟩
  case round =>
    obtain ⟨j, hj, rfl, hX⟩ := hrel
    by_cases hjn : j < n
    · obtain ⟨b1, o1, rfl, g1⟩ := HA.out j (by omega)
      obtain ⟨b2, o2, rfl, g2⟩ := HB.out j (by omega)
      have g1 := (hX.out.cell id (World.block_lt_of_cell? w _ g1)).trans g1
      have g2 := (hX.out.cell id (World.block_lt_of_cell? w _ g2)).trans g2
      generalize l[j]'(by omega) = c at g1 g2
      go_wp2_with fail
      go_quiet (fail)
      have HX := Lib.hid (hX.out.drewN nq)
      go_wp2_with fail
      go_roundw
      case measure => simp [intOf]; omega
      case rel => exact ⟨j + 1, by omega, by simp, HX⟩
    · go_wp2_with fail
      go_ret
      exact ⟨rfl, hX.out⟩

/-- A slice's room; nil has none. -/
def Room (ao : Option Addr) (cap : Nat) (l : List UInt8) : Prop := l.length ≤ cap ∧ (ao = none → l = [] ∧ cap = 0)
/-- A message as values: its number, the rest. -/
def MsgV (w : World) (s : Nat) (r : Rec) (ms : List Value) : Prop :=
  ∃ ha hc da dc, ms = [.string (str r.subj), .slice ha r.hdr.length hc, .slice da r.data.length dc, .int .u64 s, .int .i64 r.time] ∧ BytesAt w ha r.hdr ∧ BytesAt w da r.data ∧ Room ha hc r.hdr ∧ Room da dc r.data
theorem MsgV.keep {w w' : World} {s : Nat} {r : Rec} {ms : List Value} (h : MsgV w s r ms) (hX : Ext w w') : MsgV w' s r ms := by
  obtain ⟨ha, hc, da, dc, e, h1, h2, h3⟩ := h
  exact ⟨ha, hc, da, dc, e, h1.keep hX fun _ _ _ _ => id, h2.keep hX fun _ _ _ _ => id, h3⟩
/-- The messages l lie behind ao. -/
def MsgsAt (w : World) (ao : Option Addr) (l : List (Nat × Rec)) : Prop := ∀ (i : Nat) (x : Nat × Rec), l[i]? = some x → ∃ b off ms, ao = some ⟨b, off, none⟩ ∧ MsgV w x.1 x.2 ms ∧ ∀ k c, ms[k]? = some c → w.cell? ⟨b, off + (i * 5 + k), none⟩ = some c
theorem MsgsAt.keep {w w' : World} {ao : Option Addr} {l : List (Nat × Rec)} (h : MsgsAt w ao l) (hX : Ext w w') : MsgsAt w' ao l := by
  intro i x hx
  obtain ⟨b, off, ms, e, hM, hc⟩ := h i x hx
  exact ⟨b, off, ms, e, hM.keep hX, fun k c hk => (hX.cell id (World.block_lt_of_cell? w _ (hc k c hk))).trans (hc k c hk)⟩

set_option maxHeartbeats 2000000 in
theorem sameMsg15 (s : Nat) (r : Rec) (m1 m2 : List Value) (w : World) (h1 : MsgV w s r m1) (h2 : MsgV w s r m2) (hs : r.size ≤ 1099511627776) :
    Calls Tryz.prog 15 #[.agg m1.toArray, .agg m2.toArray] w fun e w' => e = .returned (.bool true) ∧ Ext w w' := by
  obtain ⟨ha, hc, da, dc, rfl, g1, g2, _⟩ := h1
  obtain ⟨hb, hd, db, dd, rfl, g3, g4, _⟩ := h2
  have HH : Hid (∀ W, Ext w W → Calls Tryz.prog 20 #[.slice ha r.hdr.length hc, .slice hb r.hdr.length hd] W fun e w' => e = .returned (.bool true) ∧ Ext W w') := Lib.hid fun W hX => same20 r.hdr ha hb hc hd W (g1.keep hX fun _ _ _ _ => id) (g3.keep hX fun _ _ _ _ => id) (by unfold Rec.size at hs; omega)
  have HD : Hid (∀ W, Ext w W → Calls Tryz.prog 20 #[.slice da r.data.length dc, .slice db r.data.length dd] W fun e w' => e = .returned (.bool true) ∧ Ext W w') := Lib.hid fun W hX => same20 r.data da db dc dd W (g2.keep hX fun _ _ _ _ => id) (g4.keep hX fun _ _ _ _ => id) (by unfold Rec.size at hs; omega)
  clear g1 g2 g3 g4 hs
  generalize r.hdr.length = n1 at HH
  generalize r.data.length = n2 at HD
  generalize str r.subj = S
  generalize r.time = t
  go_enter Tryz.func15, Tryz.ntmps15
  go_wp2_with fail
  obtain ⟨w0, hw0⟩ : ∃ w0, (w.alloc (.cells #[.string S, .slice ha n1 hc, .slice da n2 dc, .int .u64 s, .int .i64 t] 38)).alloc (.cells #[.string S, .slice hb n1 hd, .slice db n2 dd, .int .u64 s, .int .i64 t] 38) = w0 := ⟨_, rfl⟩
  rw [hw0]
  have HX0 : Hid (Ext w w0) := Lib.hid (by rw [← hw0]; exact ((Kp.refl _ _).alloc _).alloc _)
  have HP0 : Hid (Blk w0 w.heap.size #[.string S, .slice ha n1 hc, .slice da n2 dc, .int .u64 s, .int .i64 t] 38) := Lib.hid (by rw [← hw0]; exact (Blk.new w _ _).alloc _)
  have HQ0 : Hid (Blk w0 (w.heap.size + 1) #[.string S, .slice hb n1 hd, .slice db n2 dd, .int .u64 s, .int .i64 t] 38) := Lib.hid (by rw [← hw0]; exact Blk.newAt (by simp))
  clear hw0
  refine (HH.out w0 HX0.out).mono ?_
  rintro e w1 ⟨rfl, hX1⟩
  have HX1 := Lib.hid (HX0.out.trans hX1 fun _ _ h => h)
  have p2 : w1.cell? ⟨w.heap.size, 2, none⟩ = some (.slice da n2 dc) := (HP0.out.keep hX1 id).cell 2
  have q2 : w1.cell? ⟨w.heap.size + 1, 2, none⟩ = some (.slice db n2 dd) := (HQ0.out.keep hX1 id).cell 2
  clear hX1
  go_wp2_with fail
  refine (HD.out w1 HX1.out).mono ?_
  rintro e w2 ⟨rfl, hX2⟩
  have HX2 := Lib.hid (HX1.out.trans hX2 fun _ _ h => h)
  clear hX2
  go_wp2_with fail
  go_ret
  exact ⟨rfl, HX2.out⟩

set_option maxHeartbeats 2000000 in
theorem sameMsgs10 (l : List (Nat × Rec)) (ao bo : Option Addr) (c1 c2 : Nat) (w : World) (hA : MsgsAt w ao l) (hB : MsgsAt w bo l) (hl : l.length ≤ 1000) (hs : ∀ x, x ∈ l → x.2.size ≤ 1099511627776) :
    Calls Tryz.prog 10 #[.slice ao l.length c1, .slice bo l.length c2] w fun e w' => e = .returned (.bool true) ∧ Ext w w' := by
  have HA := Lib.hid hA
  have HB := Lib.hid hB
  have HS := Lib.hid hs
  clear hA hB hs
  generalize hn : l.length = n at hl
  go_enter Tryz.func10, Tryz.ntmps10
  go_wp2_with fail
  go_loopw [5] (fun x wr => ∃ j : Nat, j ≤ n ∧ x = .int .i64 j ∧ Hid (Ext w wr)) (fun x _ => n - (intOf x).toNat)
  case atStart => exact ⟨0, Nat.zero_le _, rfl, Lib.hid (Kp.refl _ _)⟩
  case round =>
    obtain ⟨j, hj, rfl, hX⟩ := hrel
    by_cases hjn : j < n
    · obtain ⟨x, hx⟩ : ∃ x, l[j]? = some x := ⟨l[j]'(by omega), by simp⟩
      obtain ⟨b1, o1, m1, rfl, hM1, g1⟩ := HA.out j x hx
      obtain ⟨b2, o2, m2, rfl, hM2, g2⟩ := HB.out j x hx
      have H15 : Hid (∀ W, Ext w W → Calls Tryz.prog 15 #[.agg m1.toArray, .agg m2.toArray] W fun e w' => e = .returned (.bool true) ∧ Ext W w') := Lib.hid fun W hW => sameMsg15 x.1 x.2 m1 m2 W (hM1.keep hW) (hM2.keep hW) (HS.out x (List.mem_of_getElem? hx))
      obtain ⟨ha, hc, da, dc, rfl, _, _⟩ := hM1
      obtain ⟨hb, hd, db, dd, rfl, _, _⟩ := hM2
      have hcell : ∀ {b o : Nat} {v : Value}, w.cell? ⟨b, o, none⟩ = some v → wr.cell? ⟨b, o, none⟩ = some v := fun h => (hX.out.cell id (World.block_lt_of_cell? w _ h)).trans h
      have p0 : wr.cell? ⟨b1, o1 + j * 5, none⟩ = some (.string (str x.2.subj)) := hcell (g1 0 _ rfl)
      have p1 : wr.cell? ⟨b1, o1 + j * 5 + 1, none⟩ = some (.slice ha x.2.hdr.length hc) := hcell (g1 1 _ rfl)
      have p2 : wr.cell? ⟨b1, o1 + j * 5 + 2, none⟩ = some (.slice da x.2.data.length dc) := hcell (g1 2 _ rfl)
      have p3 : wr.cell? ⟨b1, o1 + j * 5 + 3, none⟩ = some (.int .u64 x.1) := hcell (g1 3 _ rfl)
      have p4 : wr.cell? ⟨b1, o1 + j * 5 + 4, none⟩ = some (.int .i64 x.2.time) := hcell (g1 4 _ rfl)
      have q0 : wr.cell? ⟨b2, o2 + j * 5, none⟩ = some (.string (str x.2.subj)) := hcell (g2 0 _ rfl)
      have q1 : wr.cell? ⟨b2, o2 + j * 5 + 1, none⟩ = some (.slice hb x.2.hdr.length hd) := hcell (g2 1 _ rfl)
      have q2 : wr.cell? ⟨b2, o2 + j * 5 + 2, none⟩ = some (.slice db x.2.data.length dd) := hcell (g2 2 _ rfl)
      have q3 : wr.cell? ⟨b2, o2 + j * 5 + 3, none⟩ = some (.int .u64 x.1) := hcell (g2 3 _ rfl)
      have q4 : wr.cell? ⟨b2, o2 + j * 5 + 4, none⟩ = some (.int .i64 x.2.time) := hcell (g2 4 _ rfl)
      clear g1 g2 hcell hx
      go_wp2_with fail
      go_region_with (go_at_call 15; refine (H15.out _ hX.out.drew).mono ?_; rintro e w1 ⟨rfl, hX1⟩; have HX1 : Hid (Ext w w1) := Lib.hid (hX.out.drew.trans hX1 fun _ _ h => h); clear hX1)
      all_goals (
        go_wp2_with fail
        go_roundw
        case measure => simp [intOf]; omega
        case rel => exact ⟨j + 1, by omega, by simp, HX1⟩)
    · go_wp2_with fail
      go_ret
      exact ⟨rfl, hX.out⟩
end Go.Proofs.YtbehafhkgbjgmaaGreatDoor

/-
  The state and the messages that are left behind a script of deeds. No condition beyond the deeds.
-/
namespace Go.Proofs.YtbehafhkgbjgmaaGreatDoor
open Go Go.RowKit
set_option maxRecDepth 100000

theorem results_cell_tmp2 {P : Program} {fn : Func} {p u v : Tmp} {ty : TypeId} (h : fn.results = #[.cell p ty, .tmp u, .tmp v]) (tmps : Array Value) (w : World) (g : Nat) (t : TypeId) (cs : Array Value) (fr : Nat × Nat) (d : TypeDesc)
    (hp : tmps.getD p undef = .pointer (some ⟨g, 0, none⟩)) (hg : w.heap[g]? = some (.cells cs t fr))
    (hu : P.underlying ty = some d) (hd : (match d with | .struct _ | .array _ _ => true | _ => false) = true) (hi : (P.info? ty).map (·.size) = some cs.size) :
    (results fn tmps).run P w = .ok (.tuple #[.agg cs, tmps.getD u undef, tmps.getD v undef]) w := by
  have hp' : tmps[p]?.getD undef = .pointer (some ⟨g, 0, none⟩) := by simpa using hp
  simp [results, h, hp', asAddr, run_loadVar_row w g t ty cs fr d hg hu hd hi]

theorem inf38w : ∃ i, Tryz.prog.info? 38 = some i ∧ i.zero = some (.agg #[.string ⟨#[]⟩, .slice none 0 0, .slice none 0 0, .int .u64 0, .int .i64 0]) ∧ i.size = 5 ∧ i.bytes = 80 := by
  have h : (Tryz.prog.info? 38).map (fun i => (i.zero, i.size, i.bytes)) = some (some (.agg #[.string ⟨#[]⟩, .slice none 0 0, .slice none 0 0, .int .u64 0, .int .i64 0]), 5, 80) := by kernel_rfl
  exact info_parts h
/-- The messages q, numbered from f on. -/
def num : Nat → List Rec → List (Nat × Rec)
  | _, [] => []
  | f, r :: q => (f, r) :: num (f + 1) q
theorem num_length : ∀ (f : Nat) (q : List Rec), (num f q).length = q.length
  | _, [] => rfl
  | f, r :: q => by simp [num, num_length (f + 1) q]
theorem num_get : ∀ (f : Nat) (q : List Rec) (i : Nat), (num f q)[i]? = q[i]?.map fun r => (f + i, r)
  | _, [], i => by simp [num]
  | f, r :: q, 0 => by simp [num]
  | f, r :: q, i + 1 => by
    simp only [num, List.getElem?_cons_succ]
    rw [num_get (f + 1) q i, show f + 1 + i = f + (i + 1) by omega]
def stCells (n b f la : Nat) (t1 t2 sz : Int) : Array Value := #[.int .u64 n, .int .u64 b, .int .u64 f, .int .u64 la, .int .i64 t1, .int .i64 t2, .int .i64 sz, .int .i64 0, .slice none 0 0, .int .u64 0]

theorem BytesAt.keepBlk {w w' : World} {b0 : Nat} {cs : Array Value} {T : TypeId} {ao : Option Addr} {l : List UInt8} (h : BytesAt w ao l) (hB : Blk w b0 cs T) (hno : ∀ (k : Nat) (c : Int), cs[k]? ≠ some (.int .u8 c)) (hK : Kp (· = b0) w w') : BytesAt w' ao l := by
  intro i hi
  obtain ⟨b, off, e, hc⟩ := h i hi
  refine ⟨b, off, e, (hK.cell (fun hb => ?_) (World.block_lt_of_cell? w _ hc)).trans hc⟩
  have hb' : b = b0 := hb
  subst hb'
  rw [hB.cell] at hc
  exact hno _ _ hc
theorem MsgV.keepBlk {w w1 w' : World} {b0 s : Nat} {r : Rec} {ms : List Value} {cs : Array Value} {T : TypeId} (h : MsgV w s r ms) (hX : Ext w w1) (hB : Blk w1 b0 cs T) (hno : ∀ (k : Nat) (c : Int), cs[k]? ≠ some (.int .u8 c)) (hK : Kp (· = b0) w1 w') : MsgV w' s r ms := by
  obtain ⟨ha, hc, da, dc, e, h1, h2, h3⟩ := h.keep hX
  exact ⟨ha, hc, da, dc, e, h1.keepBlk hB hno hK, h2.keepBlk hB hno hK, h3⟩
theorem no_u8 : ∀ (k : Nat) (c : Int), (#[.int .u64 0, .int .u64 0, .int .u64 0, .int .u64 0, .int .i64 0, .int .i64 0, .int .i64 0, .int .i64 0, .slice none 0 0, .int .u64 0] : Array Value)[k]? ≠ some (.int .u8 c)
  | 0, _ | 1, _ | 2, _ | 3, _ | 4, _ | 5, _ | 6, _ | 7, _ | 8, _ | 9, _ => by simp
  | k + 10, _ => by simp
theorem own_msgs {w : World} {base f : Nat} {v : Value} {mss : List (List Value)} {q : List Rec} (hl : mss.length = q.length) (h : w.ownsRow base 38 5 v q.length mss.flatten) (hm : ∀ (k : Nat) (ms : List Value) (r : Rec), mss[k]? = some ms → q[k]? = some r → MsgV w (f + k) r ms) :
    ∃ ao cap, v = .slice ao q.length cap ∧ MsgsAt w ao (num f q) ∧ q.length ≤ cap ∧ (ao = none → q.length = 0 ∧ cap = 0) ∧ ∀ ad, ao = some ad → ∃ g, ad = ⟨g, 0, none⟩ := by
  have hc := fun g => h.cells (g := g)
  rcases h.2 with ⟨rfl, h0⟩ | ⟨g, cap, cur, rfl, _, _, hcap, _⟩
  · refine ⟨none, 0, by rw [h0], fun i x hx => ?_, by omega, fun _ => ⟨h0, rfl⟩, fun _ e => by simp at e⟩
    rw [num_get, List.eq_nil_of_length_eq_zero h0] at hx
    simp at hx
  · refine ⟨_, cap, rfl, fun i x hx => ?_, hcap, fun e => by simp at e, fun ad e => ⟨g, by simp at e; exact e.symm⟩⟩
    rw [num_get] at hx
    obtain ⟨r, hr, rfl⟩ := Option.map_eq_some_iff.1 hx
    have hi : i < mss.length := by have := (List.getElem?_eq_some_iff.1 hr).1; omega
    have hM := hm i mss[i] r (by simp [hi]) hr
    have hall : ∀ l, l ∈ mss → l.length = 5 := fun l hl' => by
      obtain ⟨k, hk, rfl⟩ := List.getElem_of_mem hl'
      obtain ⟨_, _, _, _, e, _⟩ := hm k mss[k] (q[k]'(by omega)) (by simp [hk]) (by simp)
      rw [e]; rfl
    refine ⟨g, 0, mss[i], rfl, hM, fun k c hk => ?_⟩
    have hk5 : k < 5 := by have := (List.getElem?_eq_some_iff.1 hk).1; rw [hall _ (List.getElem_mem hi)] at this; exact this
    have := hc g rfl (i * 5 + k) c (by rw [flat_get 5 mss hall i k mss[i] (by simp [hi]) hk5]; exact hk)
    rwa [add_off] at this
/-- The questions for i messages, from the number f on. -/
def qst (f i : Nat) : List StepV := (List.range i).map fun k => quest 20 ((f + k : Nat) : Int)
theorem qst_length (f i : Nat) : (qst f i).length = i := by simp [qst]
theorem qst_succ (f i : Nat) : qst f (i + 1) = qst f i ++ [quest 20 ((f + i : Nat) : Int)] := by simp [qst, List.range_succ]
def ansL (f : Nat) (q : List Rec) (k : Nat) : List Ans := (List.range k).map fun i => match q[i]? with
  | some r => .msg (f + i) r
  | none => .none
theorem ansL_length (f : Nat) (q : List Rec) (k : Nat) : (ansL f q k).length = k := by simp [ansL]
theorem ansL_get {f : Nat} {q : List Rec} {k i : Nat} (hi : i < k) : (ansL f q k)[i]? = some (match q[i]? with | some r => .msg (f + i) r | none => .none) := by simp [ansL, hi]
theorem stepsAt_blk {w : World} {b : Nat} {v : StepV} (h : Blk w b v.cells.toArray 44) : StepsAt w (some ⟨b, 0, none⟩) [v] := by
  intro i hi
  have e : i = 0 := by simp at hi; exact hi
  subst e
  refine ⟨b, 0, rfl, fun k c hk => ?_⟩
  have := h.cell k
  rw [show 0 + (0 * 16 + k) = k by omega, this]
  simpa using hk
set_option maxHeartbeats 8000000 in
theorem held9 (m n : Nat) (ds : List StepV) (ao : Option Addr) (cap : Nat) (w : World) (hD : GoodDeeds w ds) (hS : StepsAt w ao ds) (hN : ao = none → ds = [] ∧ cap = 0) (hmb : m ≤ 1048576) (hnb : n ≤ 1048576) (hE : Errs w)
    (q : List Rec) (f la : Nat) (hq : (psAt m n ds ds.length).q = q) (hf : (psAt m n ds ds.length).f = f) (hla : (psAt m n ds ds.length).la = la) :
    Calls Tryz.prog 9 #[confAgg m n, .slice ao ds.length cap] w fun e w' => (∃ t1 t2 sz ao' cap', e = .returned (.tuple #[.agg (stCells q.length (total q) f la t1 t2 sz), .slice ao' q.length cap', .bool true]) ∧ MsgsAt w' ao' (num f q) ∧ q.length ≤ cap' ∧ (ao' = none → q.length = 0 ∧ cap' = 0) ∧ ∀ ad, ao' = some ad → ∃ g, ad = ⟨g, 0, none⟩) ∧ Ext w w' := by
  obtain ⟨e1, e2, e3, e4⟩ := psAt_end m n hD
  rw [hq, hf] at e3
  rw [hq] at e4
  have hla' : la = ds.length := by rw [← hla, e2]
  have hd24 := hD.few
  have H32 : Hid (∀ W bo c2, Ext w W → StepsAt W (some bo) [quest 32 0] → Calls Tryz.prog 11 #[confAgg m n, .slice ao ds.length cap, .slice (some bo) 1 c2] W fun e w' => (∃ ao' cap', e = .returned (.tuple #[.slice ao' 1 cap', .bool true]) ∧ ToldAt w' ao' [.state q.length (total q) f la]) ∧ Ext W w') := Lib.hid fun W bo c2 hX hS2 =>
    askedH m n ds [quest 32 0] [.state q.length (total q) f la] ao (some bo) cap c2 W ⟨hD.few, hD.op, hD.sz, fun v hv => ⟨⟨(hD.bs v hv).1.1.keep hX fun _ _ _ _ => id, (hD.bs v hv).1.2⟩, ⟨(hD.bs v hv).2.1.keep hX fun _ _ _ _ => id, (hD.bs v hv).2.2⟩⟩⟩ (hS.keep hX fun _ _ _ _ => id) hS2 hN (fun e => by simp at e) (fun v hv => ⟨32, 0, by simpa using hv⟩) rfl (fun i v a hv ha => by
      cases i with
      | zero =>
        simp at hv ha
        subst hv ha
        have := StepRel.state (K := ds.map (·.subj)) (m := m) (n := n) (psAt m n ds ds.length) (quest 32 0) rfl
        rwa [hq, hf, hla] at this
      | succ i => simp at hv) (by simp) hmb hnb (hE.keep hX id id)
  have H20 : Hid (∀ W bo c2, Ext w W → StepsAt W bo (qst f (la + 1 - f)) → (bo = none → qst f (la + 1 - f) = [] ∧ c2 = 0) → Calls Tryz.prog 11 #[confAgg m n, .slice ao ds.length cap, .slice bo (la + 1 - f) c2] W fun e w' => (∃ ao' cap', e = .returned (.tuple #[.slice ao' (la + 1 - f) cap', .bool true]) ∧ ToldAt w' ao' (ansL f q (la + 1 - f))) ∧ Ext W w') := Lib.hid fun W bo c2 hX hS2 hN2 => by
    have := askedH m n ds (qst f (la + 1 - f)) (ansL f q (la + 1 - f)) ao bo cap c2 W ⟨hD.few, hD.op, hD.sz, fun v hv => ⟨⟨(hD.bs v hv).1.1.keep hX fun _ _ _ _ => id, (hD.bs v hv).1.2⟩, ⟨(hD.bs v hv).2.1.keep hX fun _ _ _ _ => id, (hD.bs v hv).2.2⟩⟩⟩ (hS.keep hX fun _ _ _ _ => id) hS2 hN hN2 (fun v hv => by
        simp only [qst, List.mem_map] at hv
        obtain ⟨k, _, rfl⟩ := hv
        exact ⟨_, _, rfl⟩) (by rw [ansL_length, qst_length]) (fun i v a hv ha => by
      have hi : i < la + 1 - f := by have := (List.getElem?_eq_some_iff.1 hv).1; rwa [qst_length] at this
      have ev : v = quest 20 ((f + i : Nat) : Int) := by simp [qst, hi] at hv; exact hv.symm
      rw [ansL_get hi] at ha
      simp only [Option.some.injEq] at ha
      subst ev ha
      have hps : psAt m n ds ds.length = ⟨q, f, la⟩ := by rw [← hq, ← hf, ← hla]
      rw [hps]
      cases hqi : q[i]? with
      | some r => exact StepRel.hit _ _ i (f + i) r rfl rfl hqi rfl (e4 r (List.mem_of_getElem? hqi))
      | none =>
        refine StepRel.miss _ _ (f + i) rfl rfl ?_ ?_
        · have hlen := List.getElem?_eq_none_iff.1 hqi
          rcases e3 with h | h
          · show q = []
            apply List.eq_nil_of_length_eq_zero
            omega
          · exact h.1
        · show f + i ≤ la
          omega) (by rw [qst_length]; omega) hmb hnb (hE.keep hX id id)
    rw [qst_length] at this
    exact this
  have HD := Lib.hid hD
  have HS := Lib.hid hS
  have HN := Lib.hid hN
  have HE := Lib.hid hE
  have HQ := Lib.hid (And.intro hq (And.intro hf hla))
  have H4 := Lib.hid e4
  have hla24 : la ≤ 24 := by omega
  have hfl : f ≤ la + 1 := by omega
  have E3 : Hid (f + q.length = la + 1 ∨ (q = [] ∧ f = 0 ∧ la = 0)) := Lib.hid (by rw [hla']; exact e3)
  clear hD hS hN hE hq hf hla e1 e2 e3 e4 hla' hd24
  unfold confAgg at H32 H20 ⊢
  generalize hdd : ds.length = d at *
  generalize hql : q.length = nq at *
  generalize htq : total q = tq at *
  obtain ⟨i0, hi, hy0, hy1, hy2⟩ := inf44w
  have hzst : zStep.size = 16 := rfl
  go_enter Tryz.func9, Tryz.ntmps9
  go_wp2_with fail
  obtain ⟨w0, hw0⟩ : ∃ w0, ((w.alloc (.cells #[.int .i64 m, .int .i64 n, .int .i64 0, .bool false, .bool false, .int .u64 0] 33)).alloc (.cells #[.int .u64 0, .int .u64 0, .int .u64 0, .int .u64 0, .int .i64 0, .int .i64 0, .int .i64 0, .int .i64 0, .slice none 0 0, .int .u64 0] 28)).alloc (.cells #[.int .i64 32, .string ⟨#[]⟩, .slice none 0 0, .slice none 0 0, .int .i64 0, .int .u64 0, .int .u64 0, .int .u64 0, .bool false, .slice none 0 0, .int .i64 0, .int .i64 0, .int .i64 0, .bool false, .bool false, .int .u64 0] 44) = w0 := ⟨_, rfl⟩
  rw [hw0]
  have HX0 : Hid (Ext w w0) := Lib.hid (by rw [← hw0]; exact (((Kp.refl _ _).alloc _).alloc _).alloc _)
  have HC0 : Hid (Blk w0 w.heap.size #[.int .i64 m, .int .i64 n, .int .i64 0, .bool false, .bool false, .int .u64 0] 33) := Lib.hid (by rw [← hw0]; exact ((Blk.new w _ _).alloc _).alloc _)
  have HR0 : Hid (Blk w0 (w.heap.size + 1) #[.int .u64 0, .int .u64 0, .int .u64 0, .int .u64 0, .int .i64 0, .int .i64 0, .int .i64 0, .int .i64 0, .slice none 0 0, .int .u64 0] 28) := Lib.hid (by rw [← hw0]; exact (Blk.newAt (w := w.alloc _) (by simp)).alloc _)
  have hQ0 : Blk w0 (w.heap.size + 1 + 1) #[.int .i64 32, .string ⟨#[]⟩, .slice none 0 0, .slice none 0 0, .int .i64 0, .int .u64 0, .int .u64 0, .int .u64 0, .bool false, .slice none 0 0, .int .i64 0, .int .i64 0, .int .i64 0, .bool false, .bool false, .int .u64 0] 44 := by rw [← hw0]; exact Blk.newAt (w := (w.alloc _).alloc _) (by simp)
  have hz0 : w0.heap.size = w.heap.size + 3 := by rw [← hw0]; simp
  clear hw0
  refine (H32.out w0 ⟨w.heap.size + 1 + 1, 0, none⟩ 1 HX0.out (stepsAt_blk (v := quest 32 0) hQ0)).mono ?_
  rintro e w1 ⟨⟨a1, c1, rfl, hT⟩, hX1⟩
  obtain ⟨b1, o1, cs, rfl, ⟨t1, t2, sz, rfl⟩, hc⟩ := hT 0 _ rfl
  have HX1 := Lib.hid (HX0.out.trans hX1 fun _ _ h => h)
  have HC1 := Lib.hid (HC0.out.keep hX1 id)
  have HR1 := Lib.hid (HR0.out.keep hX1 id)
  have s0 : w1.cell? ⟨b1, o1, none⟩ = some (.int .i64 0) := hc 0 _ rfl
  have s11 : w1.cell? ⟨b1, o1 + 11, none⟩ = some (.int .u64 nq) := hc 11 _ rfl
  have s12 : w1.cell? ⟨b1, o1 + 11 + 1, none⟩ = some (.int .u64 tq) := hc 12 _ rfl
  have s13 : w1.cell? ⟨b1, o1 + 11 + 2, none⟩ = some (.int .u64 f) := hc 13 _ rfl
  have s14 : w1.cell? ⟨b1, o1 + 11 + 3, none⟩ = some (.int .u64 la) := hc 14 _ rfl
  have s15 : w1.cell? ⟨b1, o1 + 11 + 4, none⟩ = some (.int .i64 t1) := hc 15 _ rfl
  have s16 : w1.cell? ⟨b1, o1 + 11 + 5, none⟩ = some (.int .i64 t2) := hc 16 _ rfl
  have s17 : w1.cell? ⟨b1, o1 + 11 + 6, none⟩ = some (.int .i64 sz) := hc 17 _ rfl
  have s18 : w1.cell? ⟨b1, o1 + 11 + 7, none⟩ = some (.int .i64 0) := hc 18 _ rfl
  have s19 : w1.cell? ⟨b1, o1 + 11 + 8, none⟩ = some (.slice none 0 0) := hc 19 _ rfl
  have s20 : w1.cell? ⟨b1, o1 + 11 + 9, none⟩ = some (.int .u64 0) := hc 20 _ rfl
  have hz1 := hX1.size
  clear hT hX1 hc hQ0 H32 HC0 HR0
  have hsub : f ≤ la → IntKind.u64.wrap ((la : Int) - (f : Int)) = (la : Int) - (f : Int) := fun h => by rw [u64_wrap]; omega
  go_wp2_with fail
  all_goals (
    obtain ⟨w2, hw2⟩ : ∃ w2, w1.alloc (.cells #[.int .u64 nq, .int .u64 tq, .int .u64 f, .int .u64 la, .int .i64 t1, .int .i64 t2, .int .i64 sz, .int .i64 0, .slice none 0 0, .int .u64 0] 28) = w2 := ⟨_, rfl⟩
    rw [hw2]
    have hX2 : Ext w1 w2 := by rw [← hw2]; exact (Kp.refl _ _).alloc _
    have HS2 : Hid (Blk w2 w1.heap.size #[.int .u64 nq, .int .u64 tq, .int .u64 f, .int .u64 la, .int .i64 t1, .int .i64 t2, .int .i64 sz, .int .i64 0, .slice none 0 0, .int .u64 0] 28) := Lib.hid (by rw [← hw2]; exact Blk.new _ _ _)
    have hz2 : w2.heap.size = w1.heap.size + 1 := by rw [← hw2]; simp
    have HX2 := Lib.hid (HX1.out.trans hX2 fun _ _ h => h)
    have HC2 := Lib.hid (HC1.out.keep hX2 id)
    have HR2 := Lib.hid (HR1.out.keep hX2 id)
    clear hw2 hX2 s0 s11 s12 s13 s14 s15 s16 s17 s18 s19 s20 HX1 HC1 HR1 hsub
    obtain ⟨N, hN⟩ : ∃ N, la + 1 - f = N := ⟨_, rfl⟩
    rw [hN] at H20
    go_loopw [10, 11] (fun V x wr => ∃ i g : Nat, i ≤ N ∧ f + i = g ∧ x = .int .u64 (g : Int) ∧ Hid (wr.ownsRow w2.heap.size 44 16 V i (cellsOf (qst f i))) ∧ Hid (Ext w2 wr)) (fun _ x _ => la + 1 - (intOf x).toNat)
    case atStart => exact ⟨0, f, Nat.zero_le _, rfl, rfl, Lib.hid (World.ownsRow_nil _ _ _ _), Lib.hid (Kp.refl _ _)⟩
    case round =>
      obtain ⟨i, g, hiN, hg, rfl, hown, hX⟩ := hrel
      have d3 : wr.cell? ⟨w1.heap.size, 3, none⟩ = some (.int .u64 la) := (HS2.out.keep hX.out id).cell 3
      by_cases hiN' : i < N
      · first
        | (exfalso; omega)
        | (have hle : g ≤ la := by omega
           have hgl : (g : Int) + 1 ≤ 18446744073709551615 := by omega
           have hmx : i + 1 ≤ maxLen := by unfold maxLen; omega
           have hzr := hX.out.size
           go_wp2_with (at_builtin; refine stop_here3 ?_)
           refine Lib.hid ?_
           refine wpList_append_own _ rfl (.tmp 63) (.tmp 66) 22 rfl w2.heap.size 44 i0 (.agg zStep) 16 176 Tryz.underlying22 hi hy0 hy1 hy2 hzst (by decide) _ i _ rfl (hown.out.alloc _) ⟨wr.heap.size, 0, none⟩ 1 1 (quest 20 (g : Int)).cells rfl rfl ?_ ?_ hmx (by omega) (by simp only [World.size_alloc]; omega) ?_
           · intro p u hu
             rw [add_off, Nat.zero_add, World.cell?_alloc_mark]
             have hu' : (quest 20 (g : Int)).cells.toArray[p]? = some u := by rw [List.getElem?_toArray]; exact hu
             exact hu'
           · intro u hu
             have := cellsOf_one [quest 20 (g : Int)] u (by simpa [cellsOf] using hu)
             exact this
           intro v1 w5 hown1 hgrow _
           have HO5 : Hid (w5.ownsRow w2.heap.size 44 16 v1 (i + 1) (cellsOf (qst f (i + 1)))) := Lib.hid (by
             rw [qst_succ, cellsOf_append, hg]
             simpa [cellsOf] using hown1)
           have HX5 : Hid (Ext w2 w5) := Lib.hid (Kp.grown (hX.out.alloc _) hgrow fun k hk => .inr (hown.out.lt k hk).1)
           clear hown1 hgrow d3
           go_wp2_with fail
           go_roundw
           case measure => simp [intOf]; omega
           case rel => exact ⟨i + 1, g + 1, by omega, by omega, by simp, HO5, HX5⟩)
      · obtain rfl : i = N := by omega
        have hgt : ¬ g ≤ la := by omega
        obtain ⟨a2, c2, rfl, hS2, hN2, _⟩ := own_steps hown.out
        rw [qst_length]
        have c0 : wr.cell? ⟨w.heap.size, 0, none⟩ = some (.int .i64 m) := (HC2.out.keep hX.out id).cell 0
        have c1' : wr.cell? ⟨w.heap.size, 1, none⟩ = some (.int .i64 n) := (HC2.out.keep hX.out id).cell 1
        have c2' : wr.cell? ⟨w.heap.size, 2, none⟩ = some (.int .i64 0) := (HC2.out.keep hX.out id).cell 2
        have c3 : wr.cell? ⟨w.heap.size, 3, none⟩ = some (.bool false) := (HC2.out.keep hX.out id).cell 3
        have c4 : wr.cell? ⟨w.heap.size, 4, none⟩ = some (.bool false) := (HC2.out.keep hX.out id).cell 4
        have c5 : wr.cell? ⟨w.heap.size, 5, none⟩ = some (.int .u64 0) := (HC2.out.keep hX.out id).cell 5
        have H20a := Lib.hid (H20.out wr a2 c2 (HX2.out.trans hX.out fun _ _ h => h) hS2 hN2)
        have HS3 := Lib.hid (HS2.out.keep hX.out id)
        have HR3 := Lib.hid (HR2.out.keep hX.out id)
        have HX3 := Lib.hid (HX2.out.trans hX.out fun _ _ h => h)
        clear hS2 hN2 hown hX H20
        go_wp2_with fail
        refine H20a.out.mono ?_
        rintro e w4 ⟨⟨a3, c3', rfl, hT⟩, hX4⟩
        have HT := Lib.hid hT
        have HS4 := Lib.hid (HS3.out.keep hX4 id)
        have HR4 := Lib.hid (HR3.out.keep hX4 id)
        have HX4 := Lib.hid (HX3.out.trans hX4 fun _ _ h => h)
        obtain ⟨j0, hj0, hj1, hj2, hj3⟩ := inf38w
        have hz4 := HX4.out.size
        have hlt4 := HR4.out.lt
        have hls4 := HS4.out.lt
        clear hT hX4 H20a HS3 HR3 HX3 c0 c1' c2' c3 c4 c5
        go_wp2_with fail
        go_loopw [12, 13] (fun V x wr => ∃ j : Nat, j ≤ i ∧ x = .int .i64 j ∧ Hid (∃ mss : List (List Value), mss.length = (q.take j).length ∧ wr.ownsRow w4.heap.size 38 5 V (q.take j).length mss.flatten ∧ ∀ (k : Nat) (ms : List Value) (r : Rec), mss[k]? = some ms → q[k]? = some r → MsgV w4 (f + k) r ms) ∧ Hid (Ext w4 wr)) (fun _ x _ => i - (intOf x).toNat)
        case atStart => exact ⟨0, Nat.zero_le _, rfl, Lib.hid ⟨[], by simp, World.ownsRow_nil _ _ _ _, fun k ms r h => by simp at h⟩, Lib.hid (Kp.refl _ _)⟩
        case round =>
          obtain ⟨j, hj, rfl, hM, hXr⟩ := hrel
          by_cases hji : j < i
          · first
            | (exfalso; omega)
            | (have hget := ansL_get (f := f) (q := q) hji
               cases hqj : q[j]? with
               | none =>
                 rw [hqj] at hget
                 obtain ⟨b3, o3, cs3, rfl, hA3, hc3⟩ := HT.out j _ hget
                 cases (show cs3 = _ from hA3)
                 have k0 : wr.cell? ⟨b3, o3 + j * 22, none⟩ = some (.int .i64 1) := (hXr.out.cell id (World.block_lt_of_cell? w4 _ (hc3 0 _ rfl))).trans (hc3 0 _ rfl)
                 have etk : q.take (j + 1) = q.take j := by
                   have := List.getElem?_eq_none_iff.1 hqj
                   rw [List.take_of_length_le (by omega), List.take_of_length_le (by omega)]
                 have HM : Hid (∃ mss : List (List Value), mss.length = (q.take (j + 1)).length ∧ wr.ownsRow w4.heap.size 38 5 u12 (q.take (j + 1)).length mss.flatten ∧ ∀ (k : Nat) (ms : List Value) (r : Rec), mss[k]? = some ms → q[k]? = some r → MsgV w4 (f + k) r ms) := by rw [etk]; exact hM
                 clear hM etk hc3 hA3 hget hqj
                 go_wp2_with fail
                 go_roundw
                 case measure => simp [intOf]; omega
                 case rel => exact ⟨j + 1, by omega, by simp, HM, hXr⟩
               | some r =>
                 rw [hqj] at hget
                 obtain ⟨b3, o3, cs3, rfl, hA3, hc3⟩ := HT.out j _ hget
                 obtain ⟨ha, hc, da, dc, rfl, hS1, hS2, _, _, hZ1, hZ2⟩ := hA3
                 have hcell : ∀ {k : Nat} {v : Value}, w4.cell? ⟨b3, k, none⟩ = some v → wr.cell? ⟨b3, k, none⟩ = some v := fun h => (hXr.out.cell id (World.block_lt_of_cell? w4 _ h)).trans h
                 obtain ⟨sq, hsq⟩ : ∃ sq, f + j = sq := ⟨_, rfl⟩
                 rw [hsq] at hc3
                 have k0 : wr.cell? ⟨b3, o3 + j * 22, none⟩ = some (.int .i64 0) := hcell (hc3 0 _ rfl)
                 have k4 : wr.cell? ⟨b3, o3 + j * 22 + 4, none⟩ = some (.string (str r.subj)) := hcell (hc3 4 _ rfl)
                 have k5 : wr.cell? ⟨b3, o3 + j * 22 + 4 + 1, none⟩ = some (.slice ha r.hdr.length hc) := hcell (hc3 5 _ rfl)
                 have k6 : wr.cell? ⟨b3, o3 + j * 22 + 4 + 2, none⟩ = some (.slice da r.data.length dc) := hcell (hc3 6 _ rfl)
                 have k7 : wr.cell? ⟨b3, o3 + j * 22 + 4 + 3, none⟩ = some (.int .u64 sq) := hcell (hc3 7 _ rfl)
                 have k8 : wr.cell? ⟨b3, o3 + j * 22 + 4 + 4, none⟩ = some (.int .i64 r.time) := hcell (hc3 8 _ rfl)
                 obtain ⟨mss, m1, m2, m3⟩ := hM.out
                 have hjl : (q.take j).length = j := by have := (List.getElem?_eq_some_iff.1 hqj).1; simp; omega
                 have HMV : Hid (MsgV w4 (f + j) r [.string (str r.subj), .slice ha r.hdr.length hc, .slice da r.data.length dc, .int .u64 sq, .int .i64 r.time]) := Lib.hid ⟨ha, hc, da, dc, by rw [hsq], hS1.bytes, hS2.bytes, ⟨hS1.le, fun e => ⟨hS1.plain.1 e, hZ1 e⟩⟩, ⟨hS2.le, fun e => ⟨hS2.plain.1 e, hZ2 e⟩⟩⟩
                 rw [hjl] at m1 m2
                 have HM1 := Lib.hid m1
                 have HM2 := Lib.hid m2
                 have HM3 := Lib.hid m3
                 have HQJ := Lib.hid hqj
                 clear m1 m2 m3 hM hc3 hcell hS1 hS2 hZ1 hZ2 hget hqj
                 have hmx : j + 1 ≤ maxLen := by unfold maxLen; omega
                 have hzr := hXr.out.size
                 go_wp2_with (at_builtin; refine stop_here3 ?_)
                 refine Lib.hid ?_
                 refine wpList_append_own _ rfl (.tmp 90) (.tmp 96) 29 rfl w4.heap.size 38 j0 (.agg #[.string ⟨#[]⟩, .slice none 0 0, .slice none 0 0, .int .u64 0, .int .i64 0]) 5 80 Tryz.underlying29 hj0 hj1 hj2 hj3 rfl (by decide) _ j _ rfl (HM2.out.alloc _) ⟨wr.heap.size, 0, none⟩ 1 1 [.string (str r.subj), .slice ha r.hdr.length hc, .slice da r.data.length dc, .int .u64 sq, .int .i64 r.time] rfl rfl ?_ ?_ hmx (by omega) (by simp only [World.size_alloc]; omega) ?_
                 · intro p u hu
                   rw [add_off, Nat.zero_add, World.cell?_alloc_mark]
                   have hu' : (#[.string (str r.subj), .slice ha r.hdr.length hc, .slice da r.data.length dc, .int .u64 sq, .int .i64 r.time] : Array Value)[p]? = some u := by simpa using hu
                   exact hu'
                 · intro u hu
                   simp only [List.mem_cons, List.not_mem_nil, or_false] at hu
                   rcases hu with rfl | rfl | rfl | rfl | rfl <;> rfl
                 intro v1 w5 hown1 hgrow _
                 have HX5 : Hid (Ext w4 w5) := Lib.hid (Kp.grown (hXr.out.alloc _) hgrow fun k hk => .inr (HM2.out.lt k hk).1)
                 have HM : Hid (∃ mss : List (List Value), mss.length = (q.take (j + 1)).length ∧ w5.ownsRow w4.heap.size 38 5 v1 (q.take (j + 1)).length mss.flatten ∧ ∀ (k : Nat) (ms : List Value) (r : Rec), mss[k]? = some ms → q[k]? = some r → MsgV w4 (f + k) r ms) := Lib.hid (by
                   have hql' := (List.getElem?_eq_some_iff.1 HQJ.out).1
                   have hjl' : (q.take (j + 1)).length = j + 1 := by simp; omega
                   refine ⟨mss ++ [_], by rw [hjl', List.length_append, HM1.out]; rfl, by rw [hjl']; simpa using hown1, fun k ms r' hk hr' => ?_⟩
                   by_cases hkj : k < j
                   · rw [List.getElem?_append_left (by rw [HM1.out]; exact hkj)] at hk
                     exact HM3.out k ms r' hk hr'
                   · rw [List.getElem?_append_right (by rw [HM1.out]; omega), HM1.out] at hk
                     have ek : k = j := by
                       have := (List.getElem?_eq_some_iff.1 hk).1
                       simp at this
                       omega
                     subst ek
                     rw [HQJ.out] at hr'
                     simp at hk hr'
                     subst hk hr'
                     exact HMV.out)
                 clear hown1 hgrow k0 k4 k5 k6 k7 k8
                 go_wp2_with fail
                 go_roundw
                 case measure => simp [intOf]; omega
                 case rel => exact ⟨j + 1, by omega, by simp, HM, HX5⟩)
          · obtain rfl : j = i := by omega
            have hqt : q.take j = q := by
              rcases E3.out with h | h
              · rw [List.take_of_length_le (by omega)]
              · rw [h.1]; simp
            obtain ⟨mss, m1, m2, m3⟩ := hM.out
            rw [hqt] at m1 m2
            have HM1 := Lib.hid m1
            have HM2 := Lib.hid m2
            have HM3 := Lib.hid m3
            have hS5 := HS4.out.keep hXr.out id
            have hR5 := HR4.out.keep hXr.out id
            have x0 : wr.cell? ⟨w1.heap.size, 0, none⟩ = some (.int .u64 nq) := hS5.cell 0
            have y0 : wr.cell? ⟨w.heap.size + 1, 0, none⟩ = some (.int .u64 0) := hR5.cell 0
            have v0 : wr.frozen? ⟨w.heap.size + 1, 0, none⟩ = false := hR5.frozen 0
            have x1 : wr.cell? ⟨w1.heap.size, 1, none⟩ = some (.int .u64 tq) := hS5.cell 1
            have y1 : wr.cell? ⟨w.heap.size + 1, 1, none⟩ = some (.int .u64 0) := hR5.cell 1
            have v1 : wr.frozen? ⟨w.heap.size + 1, 1, none⟩ = false := hR5.frozen 1
            have x2 : wr.cell? ⟨w1.heap.size, 2, none⟩ = some (.int .u64 f) := hS5.cell 2
            have y2 : wr.cell? ⟨w.heap.size + 1, 2, none⟩ = some (.int .u64 0) := hR5.cell 2
            have v2 : wr.frozen? ⟨w.heap.size + 1, 2, none⟩ = false := hR5.frozen 2
            have x3 : wr.cell? ⟨w1.heap.size, 3, none⟩ = some (.int .u64 la) := hS5.cell 3
            have y3 : wr.cell? ⟨w.heap.size + 1, 3, none⟩ = some (.int .u64 0) := hR5.cell 3
            have v3 : wr.frozen? ⟨w.heap.size + 1, 3, none⟩ = false := hR5.frozen 3
            have x4 : wr.cell? ⟨w1.heap.size, 4, none⟩ = some (.int .i64 t1) := hS5.cell 4
            have y4 : wr.cell? ⟨w.heap.size + 1, 4, none⟩ = some (.int .i64 0) := hR5.cell 4
            have v4 : wr.frozen? ⟨w.heap.size + 1, 4, none⟩ = false := hR5.frozen 4
            have x5 : wr.cell? ⟨w1.heap.size, 5, none⟩ = some (.int .i64 t2) := hS5.cell 5
            have y5 : wr.cell? ⟨w.heap.size + 1, 5, none⟩ = some (.int .i64 0) := hR5.cell 5
            have v5 : wr.frozen? ⟨w.heap.size + 1, 5, none⟩ = false := hR5.frozen 5
            have x6 : wr.cell? ⟨w1.heap.size, 6, none⟩ = some (.int .i64 sz) := hS5.cell 6
            have y6 : wr.cell? ⟨w.heap.size + 1, 6, none⟩ = some (.int .i64 0) := hR5.cell 6
            have v6 : wr.frozen? ⟨w.heap.size + 1, 6, none⟩ = false := hR5.frozen 6
            have x7 : wr.cell? ⟨w1.heap.size, 7, none⟩ = some (.int .i64 0) := hS5.cell 7
            have y7 : wr.cell? ⟨w.heap.size + 1, 7, none⟩ = some (.int .i64 0) := hR5.cell 7
            have v7 : wr.frozen? ⟨w.heap.size + 1, 7, none⟩ = false := hR5.frozen 7
            have x8 : wr.cell? ⟨w1.heap.size, 8, none⟩ = some (.slice none 0 0) := hS5.cell 8
            have y8 : wr.cell? ⟨w.heap.size + 1, 8, none⟩ = some (.slice none 0 0) := hR5.cell 8
            have v8 : wr.frozen? ⟨w.heap.size + 1, 8, none⟩ = false := hR5.frozen 8
            have x9 : wr.cell? ⟨w1.heap.size, 9, none⟩ = some (.int .u64 0) := hS5.cell 9
            have y9 : wr.cell? ⟨w.heap.size + 1, 9, none⟩ = some (.int .u64 0) := hR5.cell 9
            have v9 : wr.frozen? ⟨w.heap.size + 1, 9, none⟩ = false := hR5.frozen 9
            have HR5 := Lib.hid hR5
            clear m1 m2 m3 hM hS5 hR5 HT hqt
            go_wp2_with fail
            (try simp only [Exit.inBlock, Exit.then])
            have hR := HR5.out
            have hR : Blk _ (w.heap.size + 1) #[.int .u64 nq, .int .u64 0, .int .u64 0, .int .u64 0, .int .i64 0, .int .i64 0, .int .i64 0, .int .i64 0, .slice none 0 0, .int .u64 0] 28 := hR.set 0 (.int .u64 nq)
            have hR : Blk _ (w.heap.size + 1) #[.int .u64 nq, .int .u64 tq, .int .u64 0, .int .u64 0, .int .i64 0, .int .i64 0, .int .i64 0, .int .i64 0, .slice none 0 0, .int .u64 0] 28 := hR.set 1 (.int .u64 tq)
            have hR : Blk _ (w.heap.size + 1) #[.int .u64 nq, .int .u64 tq, .int .u64 f, .int .u64 0, .int .i64 0, .int .i64 0, .int .i64 0, .int .i64 0, .slice none 0 0, .int .u64 0] 28 := hR.set 2 (.int .u64 f)
            have hR : Blk _ (w.heap.size + 1) #[.int .u64 nq, .int .u64 tq, .int .u64 f, .int .u64 la, .int .i64 0, .int .i64 0, .int .i64 0, .int .i64 0, .slice none 0 0, .int .u64 0] 28 := hR.set 3 (.int .u64 la)
            have hR : Blk _ (w.heap.size + 1) #[.int .u64 nq, .int .u64 tq, .int .u64 f, .int .u64 la, .int .i64 t1, .int .i64 0, .int .i64 0, .int .i64 0, .slice none 0 0, .int .u64 0] 28 := hR.set 4 (.int .i64 t1)
            have hR : Blk _ (w.heap.size + 1) #[.int .u64 nq, .int .u64 tq, .int .u64 f, .int .u64 la, .int .i64 t1, .int .i64 t2, .int .i64 0, .int .i64 0, .slice none 0 0, .int .u64 0] 28 := hR.set 5 (.int .i64 t2)
            have hR : Blk _ (w.heap.size + 1) #[.int .u64 nq, .int .u64 tq, .int .u64 f, .int .u64 la, .int .i64 t1, .int .i64 t2, .int .i64 sz, .int .i64 0, .slice none 0 0, .int .u64 0] 28 := hR.set 6 (.int .i64 sz)
            have hR : Blk _ (w.heap.size + 1) #[.int .u64 nq, .int .u64 tq, .int .u64 f, .int .u64 la, .int .i64 t1, .int .i64 t2, .int .i64 sz, .int .i64 0, .slice none 0 0, .int .u64 0] 28 := hR.set 7 (.int .i64 0)
            have hR : Blk _ (w.heap.size + 1) #[.int .u64 nq, .int .u64 tq, .int .u64 f, .int .u64 la, .int .i64 t1, .int .i64 t2, .int .i64 sz, .int .i64 0, .slice none 0 0, .int .u64 0] 28 := hR.set 8 (.slice none 0 0)
            have hR : Blk _ (w.heap.size + 1) #[.int .u64 nq, .int .u64 tq, .int .u64 f, .int .u64 la, .int .i64 t1, .int .i64 t2, .int .i64 sz, .int .i64 0, .slice none 0 0, .int .u64 0] 28 := hR.set 9 (.int .u64 0)
            have hKS : Kp (· = w.heap.size + 1) wr ((((((((((wr.setCell ⟨w.heap.size + 1, 0, none⟩ (.int .u64 nq)).setCell ⟨w.heap.size + 1, 1, none⟩ (.int .u64 tq)).setCell ⟨w.heap.size + 1, 2, none⟩ (.int .u64 f)).setCell ⟨w.heap.size + 1, 3, none⟩ (.int .u64 la)).setCell ⟨w.heap.size + 1, 4, none⟩ (.int .i64 t1)).setCell ⟨w.heap.size + 1, 5, none⟩ (.int .i64 t2)).setCell ⟨w.heap.size + 1, 6, none⟩ (.int .i64 sz)).setCell ⟨w.heap.size + 1, 7, none⟩ (.int .i64 0)).setCell ⟨w.heap.size + 1, 8, none⟩ (.slice none 0 0)).setCell ⟨w.heap.size + 1, 9, none⟩ (.int .u64 0)) := (((((((((((Kp.refl _ _).set1 _).set1 _).set1 _).set1 _).set1 _).set1 _).set1 _).set1 _).set1 _).set1 _)
            obtain ⟨a5, c5, rfl, hMs⟩ := own_msgs (f := f) HM1.out (hKS.grownNone HM2.out fun b hb e => by have := (HM2.out.lt b hb).1; omega) fun k ms r hk hr => (HM3.out k ms r hk hr).keepBlk hXr.out HR5.out no_u8 hKS
            refine bodyPost_ret (results_cell_tmp2 (P := Tryz.prog) rfl _ _ (w.heap.size + 1) 28 _ (0, 0) _ rfl hR Tryz.underlying28 rfl (by kernel_rfl)) rfl ?_
            exact ⟨⟨t1, t2, sz, a5, c5, by rw [hql]; rfl, by rw [hql] at hMs; exact hMs⟩, (HX4.out.trans hXr.out fun _ _ h => h).trans hKS fun i hi e => by omega⟩)
end Go.Proofs.YtbehafhkgbjgmaaGreatDoor

/-
  A message that was stored is there: true. No condition beyond the two errors.
-/
namespace Go.Proofs.YtbehafhkgbjgmaaGreatDoor
open Go Go.RowKit
set_option maxRecDepth 100000

def awV (g : Nat) : StepV := ⟨0, [97], none, 0, [], some ⟨g, 0, none⟩, 1, [120], 5, 0, 0, 0, false, none, 0, [], 0, 0, 0, false, false, 0⟩
set_option maxHeartbeats 4000000 in
theorem awake8 (w : World) (hE : Errs w) : Calls Tryz.prog 8 #[] w fun e w' => e = .returned (.bool true) ∧ Ext w w' := by
  have HE := Lib.hid hE
  clear hE
  have hcv : (convert 36 36 (.slice (some ⟨w.heap.size, 0, none⟩) 1 1)).run Tryz.prog (w.alloc (.cells #[.int .u8 120] 5)) = .ok (.slice (some ⟨w.heap.size, 0, none⟩) 1 1) (w.alloc (.cells #[.int .u8 120] 5 (1, 2))) := Lib.run_convert_bytes_const (P := Tryz.prog) w 36 5 #[.int .u8 120] 1 1 Tryz.underlying36 Tryz.underlying5
  go_enter Tryz.func8, Tryz.ntmps8
  go_wp2_with fail
  obtain ⟨w0, hw0⟩ : ∃ w0, ((w.alloc (.cells #[.int .u8 120] 5 (1, 2))).alloc (.cells #[.int .i64 0, .string ⟨#[97]⟩, .slice none 0 0, .slice (some ⟨w.heap.size, 0, none⟩) 1 1, .int .i64 5, .int .u64 0, .int .u64 0, .int .u64 0, .bool false, .slice none 0 0, .int .i64 0, .int .i64 0, .int .i64 0, .bool false, .bool false, .int .u64 0] 44)).alloc (.cells #[.int .i64 20, .string ⟨#[]⟩, .slice none 0 0, .slice none 0 0, .int .i64 0, .int .u64 1, .int .u64 0, .int .u64 0, .bool false, .slice none 0 0, .int .i64 0, .int .i64 0, .int .i64 0, .bool false, .bool false, .int .u64 0] 44) = w0 := ⟨_, rfl⟩
  rw [hw0]
  have HX0 : Ext w w0 := by rw [← hw0]; exact (((Kp.refl _ _).alloc _).alloc _).alloc _
  have hD0 : w0.cell? ⟨w.heap.size, 0, none⟩ = some (.int .u8 120) := by rw [← hw0]; exact Lib.cell?_alloc_marked _ (Lib.cell?_alloc_marked _ (World.cell?_alloc_mark w #[.int .u8 120] 5 (1, 2) 0))
  have hA0 : Blk w0 (w.heap.size + 1) #[.int .i64 0, .string ⟨#[97]⟩, .slice none 0 0, .slice (some ⟨w.heap.size, 0, none⟩) 1 1, .int .i64 5, .int .u64 0, .int .u64 0, .int .u64 0, .bool false, .slice none 0 0, .int .i64 0, .int .i64 0, .int .i64 0, .bool false, .bool false, .int .u64 0] 44 := by rw [← hw0]; exact (Blk.newAt (w := w.alloc _) (by simp)).alloc _
  have hQ0 : Blk w0 (w.heap.size + 1 + 1) #[.int .i64 20, .string ⟨#[]⟩, .slice none 0 0, .slice none 0 0, .int .i64 0, .int .u64 1, .int .u64 0, .int .u64 0, .bool false, .slice none 0 0, .int .i64 0, .int .i64 0, .int .i64 0, .bool false, .bool false, .int .u64 0] 44 := by rw [← hw0]; exact Blk.newAt (w := (w.alloc _).alloc _) (by simp)
  clear hw0
  have hGD : GoodDeeds w0 [awV w.heap.size] := ⟨by simp, fun v hv => by simp at hv; subst hv; rfl, fun v hv => by simp at hv; subst hv; exact ⟨⟨by simp [awV], by simp [awV], by simp [awV]⟩, by simp [awV], by simp [awV]⟩, fun v hv => by
    simp at hv
    subst hv
    refine ⟨⟨BytesAt.nil _ _, Nat.le_refl _, by simp [awV, maxLen], fun _ => ⟨rfl, rfl⟩⟩, ⟨fun i hi => ?_, Nat.le_refl _, by simp [awV, maxLen], fun e => by simp [awV] at e⟩⟩
    have e : i = 0 := by simp [awV] at hi; exact hi
    subst e
    exact ⟨w.heap.size, 0, rfl, hD0⟩⟩
  have hE0 := HE.out.keep HX0 id id
  have hps : psAt 0 0 [awV w.heap.size] 1 = ⟨[(awV w.heap.size).rc], 1, 1⟩ := rfl
  have hask := askedH 0 0 [awV w.heap.size] [quest 20 1] [.msg 1 (awV w.heap.size).rc] (some ⟨w.heap.size + 1, 0, none⟩) (some ⟨w.heap.size + 1 + 1, 0, none⟩) 1 1 w0 hGD (stepsAt_blk (v := awV w.heap.size) hA0) (stepsAt_blk (v := quest 20 1) hQ0) (fun e => by simp at e) (fun e => by simp at e) (fun v hv => ⟨20, 1, by simpa using hv⟩) rfl (fun i v a hv ha => by
    cases i with
    | zero =>
      simp at hv ha
      subst hv ha
      show StepRel _ 0 0 (psAt 0 0 [awV w.heap.size] 1) _ (psAt 0 0 [awV w.heap.size] 1) _
      rw [hps]
      exact StepRel.hit _ _ 0 1 _ rfl rfl rfl rfl (by simp [awV, StepV.rc, Rec.size])
    | succ i => simp at hv) (by simp) (by omega) (by omega) hE0
  have HASK := Lib.hid hask
  have HX0' := Lib.hid HX0
  clear hask HX0 hD0 hA0 hQ0 hGD hE0 hps
  refine HASK.out.mono ?_
  rintro e w1 ⟨⟨a1, c1, rfl, hT⟩, hX1⟩
  obtain ⟨b, o, cs, rfl, ⟨ha, hc, da, dc, rfl, hS1, hS2, _, _⟩, hcell⟩ := hT 0 _ rfl
  have HX1 := Lib.hid (HX0'.out.trans hX1 fun _ _ h => h)
  have k0 : w1.cell? ⟨b, o, none⟩ = some (.int .i64 0) := hcell 0 _ rfl
  have k4 : w1.cell? ⟨b, o + 4, none⟩ = some (.string ⟨#[97]⟩) := hcell 4 _ rfl
  have k6 : w1.cell? ⟨b, o + 4 + 2, none⟩ = some (.slice da 1 dc) := hcell 6 _ rfl
  have k7 : w1.cell? ⟨b, o + 4 + 3, none⟩ = some (.int .u64 1) := hcell 7 _ rfl
  have hst : ∀ W, W = w1 → (convert 36 9 (.slice da 1 dc)).run Tryz.prog W = .ok (.string ⟨#[120]⟩) W := fun W hW => by
    subst hW
    exact run_bytes_str (P := Tryz.prog) W 36 5 9 Tryz.underlying36 Tryz.underlying5 Tryz.underlying9 (l := [120]) hS2.bytes dc (fun e => hS2.plain.1 e) (fun a e => hS2.plain.2 a e)
  have hst1 := hst w1 rfl
  clear hst hcell hS1 hS2 hT hX1 HASK
  go_wp2_with fail
  go_ret
  exact ⟨by trivial, HX1.out⟩
end Go.Proofs.YtbehafhkgbjgmaaGreatDoor
