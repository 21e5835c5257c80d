/-
  The three questions, walked. No condition beyond the store and the step.
-/
import Derived.Test.YtbehafhkgbjgmaaGreatDoorMb31
namespace Go.Proofs.YtbehafhkgbjgmaaGreatDoor
open Go Go.RowKit
set_option maxRecDepth 100000

set_option maxHeartbeats 2000000 in
theorem ask_miss (ms m n : Nat) (K : List (List UInt8)) (f la : Nat) (O : Nat → Prop) (v : StepV) (w : World) (hH : Holds w ms K m n [] f la O) (hop : v.op = 20) (sq : Nat) (hsq : v.seq = (sq : Int)) (hle : sq ≤ la) (hE : Errs w) (h2 : ¬ O 2) (h3 : ¬ O 3) :
    Calls Tryz.prog 26 #[.pointer (some ⟨ms, 0, none⟩), v.agg] w fun e w' => (∃ cs : List Value, e = .returned (.agg cs.toArray) ∧ AnsAt w' O cs .none) ∧ Holds w' ms K m n [] f la O ∧ Kp O w w' := by
  have HOl := Lib.hid (fun x (hx : O x) => hH.lt hx)
  have hmsl : ms < w.heap.size := hH.lt hH.ms
  have HH := Lib.hid hH
  clear hH
  unfold StepV.agg
  rw [hop, hsq]
  generalize v.hdr.length = n1
  generalize v.data.length = n2
  generalize v.subs.length = n3
  go_enter Tryz.func26, Tryz.ntmps26
  go_wp2_with fail
  obtain ⟨w0, hw0⟩ : ∃ w0, ((w.alloc (.cells #[.int .i64 20, .string (str v.subj), .slice v.ha n1 v.hc, .slice v.da n2 v.dc, .int .i64 v.time, .int .u64 (sq : Int), .int .u64 v.num, .int .u64 v.keep, .bool v.last, .slice v.sa n3 v.sc, .int .i64 v.c0, .int .i64 v.c1, .int .i64 v.c2, .bool v.c3, .bool v.c4, .int .u64 v.c5] 44)).alloc (.cells #[.int .i64 0, .bool false, .int .u64 0, .int .u64 0, .string ⟨#[]⟩, .slice none 0 0, .slice none 0 0, .int .u64 0, .int .i64 0, .slice none 0 0, .slice none 0 0, .int .u64 0, .int .u64 0, .int .u64 0, .int .u64 0, .int .i64 0, .int .i64 0, .int .i64 0, .int .i64 0, .slice none 0 0, .int .u64 0, .string ⟨#[]⟩] 47)).alloc (.cells #[.int .i64 0, .bool false, .int .u64 0, .int .u64 0, .string ⟨#[]⟩, .slice none 0 0, .slice none 0 0, .int .u64 0, .int .i64 0, .slice none 0 0, .slice none 0 0, .int .u64 0, .int .u64 0, .int .u64 0, .int .u64 0, .int .i64 0, .int .i64 0, .int .i64 0, .int .i64 0, .slice none 0 0, .int .u64 0, .string ⟨#[]⟩] 47) = w0 := ⟨_, rfl⟩
  rw [hw0]
  have HX0 : Hid (Ext w w0) := Lib.hid (by rw [← hw0]; exact (((Kp.refl _ _).alloc _).alloc _).alloc _)
  have HR0 : Hid (Blk w0 (w.heap.size + 1) #[.int .i64 0, .bool false, .int .u64 0, .int .u64 0, .string ⟨#[]⟩, .slice none 0 0, .slice none 0 0, .int .u64 0, .int .i64 0, .slice none 0 0, .slice none 0 0, .int .u64 0, .int .u64 0, .int .u64 0, .int .u64 0, .int .i64 0, .int .i64 0, .int .i64 0, .int .i64 0, .slice none 0 0, .int .u64 0, .string ⟨#[]⟩] 47) := Lib.hid (by rw [← hw0]; exact (Blk.newAt (w := w.alloc _) (cs := #[.int .i64 0, .bool false, .int .u64 0, .int .u64 0, .string ⟨#[]⟩, .slice none 0 0, .slice none 0 0, .int .u64 0, .int .i64 0, .slice none 0 0, .slice none 0 0, .int .u64 0, .int .u64 0, .int .u64 0, .int .u64 0, .int .i64 0, .int .i64 0, .int .i64 0, .int .i64 0, .slice none 0 0, .int .u64 0, .string ⟨#[]⟩]) (T := 47) (by simp)).alloc _)
  have HT0 : Hid (Blk w0 (w.heap.size + 1 + 1) #[.int .i64 0, .bool false, .int .u64 0, .int .u64 0, .string ⟨#[]⟩, .slice none 0 0, .slice none 0 0, .int .u64 0, .int .i64 0, .slice none 0 0, .slice none 0 0, .int .u64 0, .int .u64 0, .int .u64 0, .int .u64 0, .int .i64 0, .int .i64 0, .int .i64 0, .int .i64 0, .slice none 0 0, .int .u64 0, .string ⟨#[]⟩] 47) := Lib.hid (by rw [← hw0]; exact Blk.newAt (w := (w.alloc _).alloc _) (cs := #[.int .i64 0, .bool false, .int .u64 0, .int .u64 0, .string ⟨#[]⟩, .slice none 0 0, .slice none 0 0, .int .u64 0, .int .i64 0, .slice none 0 0, .slice none 0 0, .int .u64 0, .int .u64 0, .int .u64 0, .int .u64 0, .int .i64 0, .int .i64 0, .int .i64 0, .int .i64 0, .slice none 0 0, .int .u64 0, .string ⟨#[]⟩]) (T := 47) (by simp))
  have hz0 : w0.heap.size = w.heap.size + 3 := by rw [← hw0]; simp
  clear hw0
  have hr1O : ¬ O (w.heap.size + 1) := fun e => by have := HOl.out _ e; omega
  have hr2O : ¬ O (w.heap.size + 1 + 1) := fun e => by have := HOl.out _ e; omega
  generalize hbx : w.heap.size = bx at HR0 HT0 hr1O hr2O
  refine (missH ms sq w0 (HH.out.keep HX0.out fun _ _ => id) hle (hE.keep HX0.out id id) h2 h3).mono ?_
  rintro e w1 ⟨⟨t, x, rfl⟩, hK1, hH1⟩
  have HK1 := Lib.hid hK1
  have HH1 := Lib.hid hH1
  have HR1 := Lib.hid (HR0.out.keep hK1 hr1O)
  have HT1 := Lib.hid (HT0.out.keep hK1 hr2O)
  clear hK1 hH1
  go_wp2_with fail
  refine (message61z w1).mono ?_
  rintro e w2 ⟨rfl, hX2⟩
  have HX2 := Lib.hid hX2
  have HR2 := Lib.hid (HR1.out.keep hX2 id)
  have HT2 := Lib.hid (HT1.out.keep hX2 id)
  clear hX2
  unfold zMsg
  have y0 : w2.cell? ⟨bx + 1 + 1, 0, none⟩ = some (.int .i64 0) := HT2.out.cell 0
  have v0 : w2.frozen? ⟨bx + 1 + 1, 0, none⟩ = false := HT2.out.frozen 0
  have y4 : w2.cell? ⟨bx + 1 + 1, 4, none⟩ = some (.string ⟨#[]⟩) := HT2.out.cell 4
  have v4 : w2.frozen? ⟨bx + 1 + 1, 4, none⟩ = false := HT2.out.frozen 4
  have y5 : w2.cell? ⟨bx + 1 + 1, 5, none⟩ = some (.slice none 0 0) := HT2.out.cell 5
  have v5 : w2.frozen? ⟨bx + 1 + 1, 5, none⟩ = false := HT2.out.frozen 5
  have y6 : w2.cell? ⟨bx + 1 + 1, 6, none⟩ = some (.slice none 0 0) := HT2.out.cell 6
  have v6 : w2.frozen? ⟨bx + 1 + 1, 6, none⟩ = false := HT2.out.frozen 6
  have y7 : w2.cell? ⟨bx + 1 + 1, 7, none⟩ = some (.int .u64 0) := HT2.out.cell 7
  have v7 : w2.frozen? ⟨bx + 1 + 1, 7, none⟩ = false := HT2.out.frozen 7
  have y8 : w2.cell? ⟨bx + 1 + 1, 8, none⟩ = some (.int .i64 0) := HT2.out.cell 8
  have v8 : w2.frozen? ⟨bx + 1 + 1, 8, none⟩ = false := HT2.out.frozen 8
  go_wp2_with fail
  refine (one41 (.iface t x) 1 (.inr ⟨⟨_, _, rfl⟩, rfl⟩) _).mono ?_
  rintro e w9 ⟨rfl, rfl⟩
  have hT := HT2.out
  have hT : Blk (w2.setCell ⟨bx + 1 + 1, 4, none⟩ (.string (str []))) (bx + 1 + 1) #[.int .i64 0, .bool false, .int .u64 0, .int .u64 0, .string (str []), .slice none 0 0, .slice none 0 0, .int .u64 0, .int .i64 0, .slice none 0 0, .slice none 0 0, .int .u64 0, .int .u64 0, .int .u64 0, .int .u64 0, .int .i64 0, .int .i64 0, .int .i64 0, .int .i64 0, .slice none 0 0, .int .u64 0, .string ⟨#[]⟩] 47 := hT.set 4 (.string (str []))
  have hT : Blk ((w2.setCell ⟨bx + 1 + 1, 4, none⟩ (.string (str []))).setCell ⟨bx + 1 + 1, 5, none⟩ (.slice none 0 0)) (bx + 1 + 1) #[.int .i64 0, .bool false, .int .u64 0, .int .u64 0, .string (str []), .slice none 0 0, .slice none 0 0, .int .u64 0, .int .i64 0, .slice none 0 0, .slice none 0 0, .int .u64 0, .int .u64 0, .int .u64 0, .int .u64 0, .int .i64 0, .int .i64 0, .int .i64 0, .int .i64 0, .slice none 0 0, .int .u64 0, .string ⟨#[]⟩] 47 := hT.set 5 (.slice none 0 0)
  have hT : Blk (((w2.setCell ⟨bx + 1 + 1, 4, none⟩ (.string (str []))).setCell ⟨bx + 1 + 1, 5, none⟩ (.slice none 0 0)).setCell ⟨bx + 1 + 1, 6, none⟩ (.slice none 0 0)) (bx + 1 + 1) #[.int .i64 0, .bool false, .int .u64 0, .int .u64 0, .string (str []), .slice none 0 0, .slice none 0 0, .int .u64 0, .int .i64 0, .slice none 0 0, .slice none 0 0, .int .u64 0, .int .u64 0, .int .u64 0, .int .u64 0, .int .i64 0, .int .i64 0, .int .i64 0, .int .i64 0, .slice none 0 0, .int .u64 0, .string ⟨#[]⟩] 47 := hT.set 6 (.slice none 0 0)
  have hT : Blk ((((w2.setCell ⟨bx + 1 + 1, 4, none⟩ (.string (str []))).setCell ⟨bx + 1 + 1, 5, none⟩ (.slice none 0 0)).setCell ⟨bx + 1 + 1, 6, none⟩ (.slice none 0 0)).setCell ⟨bx + 1 + 1, 7, none⟩ (.int .u64 0)) (bx + 1 + 1) #[.int .i64 0, .bool false, .int .u64 0, .int .u64 0, .string (str []), .slice none 0 0, .slice none 0 0, .int .u64 0, .int .i64 0, .slice none 0 0, .slice none 0 0, .int .u64 0, .int .u64 0, .int .u64 0, .int .u64 0, .int .i64 0, .int .i64 0, .int .i64 0, .int .i64 0, .slice none 0 0, .int .u64 0, .string ⟨#[]⟩] 47 := hT.set 7 (.int .u64 0)
  have hT : Blk (((((w2.setCell ⟨bx + 1 + 1, 4, none⟩ (.string (str []))).setCell ⟨bx + 1 + 1, 5, none⟩ (.slice none 0 0)).setCell ⟨bx + 1 + 1, 6, none⟩ (.slice none 0 0)).setCell ⟨bx + 1 + 1, 7, none⟩ (.int .u64 0)).setCell ⟨bx + 1 + 1, 8, none⟩ (.int .i64 0)) (bx + 1 + 1) #[.int .i64 0, .bool false, .int .u64 0, .int .u64 0, .string (str []), .slice none 0 0, .slice none 0 0, .int .u64 0, .int .i64 0, .slice none 0 0, .slice none 0 0, .int .u64 0, .int .u64 0, .int .u64 0, .int .u64 0, .int .i64 0, .int .i64 0, .int .i64 0, .int .i64 0, .slice none 0 0, .int .u64 0, .string ⟨#[]⟩] 47 := hT.set 8 (.int .i64 0)
  have hT : Blk ((((((w2.setCell ⟨bx + 1 + 1, 4, none⟩ (.string (str []))).setCell ⟨bx + 1 + 1, 5, none⟩ (.slice none 0 0)).setCell ⟨bx + 1 + 1, 6, none⟩ (.slice none 0 0)).setCell ⟨bx + 1 + 1, 7, none⟩ (.int .u64 0)).setCell ⟨bx + 1 + 1, 8, none⟩ (.int .i64 0)).setCell ⟨bx + 1 + 1, 0, none⟩ (.int .i64 1)) (bx + 1 + 1) #[.int .i64 1, .bool false, .int .u64 0, .int .u64 0, .string (str []), .slice none 0 0, .slice none 0 0, .int .u64 0, .int .i64 0, .slice none 0 0, .slice none 0 0, .int .u64 0, .int .u64 0, .int .u64 0, .int .u64 0, .int .i64 0, .int .i64 0, .int .i64 0, .int .i64 0, .slice none 0 0, .int .u64 0, .string ⟨#[]⟩] 47 := hT.set 0 (.int .i64 1)
  have HT6 : Hid (Blk ((((((w2.setCell ⟨bx + 1 + 1, 4, none⟩ (.string (str []))).setCell ⟨bx + 1 + 1, 5, none⟩ (.slice none 0 0)).setCell ⟨bx + 1 + 1, 6, none⟩ (.slice none 0 0)).setCell ⟨bx + 1 + 1, 7, none⟩ (.int .u64 0)).setCell ⟨bx + 1 + 1, 8, none⟩ (.int .i64 0)).setCell ⟨bx + 1 + 1, 0, none⟩ (.int .i64 1)) (bx + 1 + 1) (told 1 0 zMsg zSt).toArray 47) := Lib.hid hT
  have HR6 : Hid (Blk ((((((w2.setCell ⟨bx + 1 + 1, 4, none⟩ (.string (str []))).setCell ⟨bx + 1 + 1, 5, none⟩ (.slice none 0 0)).setCell ⟨bx + 1 + 1, 6, none⟩ (.slice none 0 0)).setCell ⟨bx + 1 + 1, 7, none⟩ (.int .u64 0)).setCell ⟨bx + 1 + 1, 8, none⟩ (.int .i64 0)).setCell ⟨bx + 1 + 1, 0, none⟩ (.int .i64 1)) (bx + 1) #[.int .i64 0, .bool false, .int .u64 0, .int .u64 0, .string ⟨#[]⟩, .slice none 0 0, .slice none 0 0, .int .u64 0, .int .i64 0, .slice none 0 0, .slice none 0 0, .int .u64 0, .int .u64 0, .int .u64 0, .int .u64 0, .int .i64 0, .int .i64 0, .int .i64 0, .int .i64 0, .slice none 0 0, .int .u64 0, .string ⟨#[]⟩] 47) := Lib.hid ((((((HR2.out.setOther (a := ⟨bx + 1 + 1, 4, none⟩) (by simp) _).setOther (a := ⟨bx + 1 + 1, 5, none⟩) (by simp) _).setOther (a := ⟨bx + 1 + 1, 6, none⟩) (by simp) _).setOther (a := ⟨bx + 1 + 1, 7, none⟩) (by simp) _).setOther (a := ⟨bx + 1 + 1, 8, none⟩) (by simp) _).setOther (a := ⟨bx + 1 + 1, 0, none⟩) (by simp) _)
  have HKS : Hid (Kp (fun i => i = bx + 1 + 1 ∨ i = bx + 1) w2 ((((((w2.setCell ⟨bx + 1 + 1, 4, none⟩ (.string (str []))).setCell ⟨bx + 1 + 1, 5, none⟩ (.slice none 0 0)).setCell ⟨bx + 1 + 1, 6, none⟩ (.slice none 0 0)).setCell ⟨bx + 1 + 1, 7, none⟩ (.int .u64 0)).setCell ⟨bx + 1 + 1, 8, none⟩ (.int .i64 0)).setCell ⟨bx + 1 + 1, 0, none⟩ (.int .i64 1))) := Lib.hid (((((((Kp.refl (fun i => i = bx + 1 + 1 ∨ i = bx + 1) w2).setL _).setL _).setL _).setL _).setL _).setL _)
  clear hT
  go_wp2_with (with_reducible refine stop_load rfl ?_)
  refine Lib.hid ?_
  refine wpList_load_mid (by with_reducible rfl) 47 (.tmp 5) (by with_reducible rfl) (bx + 1 + 1) 0 (by rfl) (told 1 0 zMsg zSt) _ ?_ Tryz.underlying47 (by rfl) ?_ ?_
  · exact HT6.out.range
  · exact inf47
  refine wpList_store_mid (by with_reducible rfl) 47 (.tmp 4) (.tmp 195) (by with_reducible rfl) (bx + 1) 0 (told 1 0 zMsg zSt).toArray (by rfl) (by rfl) ?_ ?_ ?_ ?_
  · exact HR6.out.there (by rfl)
  · exact inf47
  · exact all_oneCell_toArray (told_one zMsg_one zSt_one)
  go_wp2_with fail
  have hRF := HR6.out.setAll (told 1 0 zMsg zSt) rfl
  have hKF : Kp (fun i => i = bx + 1 + 1 ∨ i = bx + 1) w2 (((((((w2.setCell ⟨bx + 1 + 1, 4, none⟩ (.string (str []))).setCell ⟨bx + 1 + 1, 5, none⟩ (.slice none 0 0)).setCell ⟨bx + 1 + 1, 6, none⟩ (.slice none 0 0)).setCell ⟨bx + 1 + 1, 7, none⟩ (.int .u64 0)).setCell ⟨bx + 1 + 1, 8, none⟩ (.int .i64 0)).setCell ⟨bx + 1 + 1, 0, none⟩ (.int .i64 1)).setCells (bx + 1) 0 (told 1 0 zMsg zSt)) :=
    HKS.out.trans (Kp.setAll _ _ 0 _ (Kp.refl _ _)) fun _ _ e => .inr e
  refine bodyPost_ret (results_cell_row (P := Tryz.prog) rfl _ _ (bx + 1) 47 _ (0, 0) _ rfl hRF Tryz.underlying47 rfl (by kernel_rfl)) rfl ?_
  have hz1 := HK1.out.size
  have hz2 := HX2.out.size
  refine ⟨⟨_, rfl, rfl⟩, (HH1.out.keep HX2.out fun _ _ => id).keep hKF fun x hx e => e.elim (fun e => hr2O (e ▸ hx)) fun e => hr1O (e ▸ hx), ?_⟩
  refine (((HX0.out.mono fun _ _ e => absurd e id).trans HK1.out fun _ _ e => e).trans HX2.out fun _ _ e => absurd e id).trans hKF fun i hi e => ?_
  omega
set_option maxHeartbeats 2000000 in
theorem ask_hit (ms m n : Nat) (K : List (List UInt8)) (f la : Nat) (O : Nat → Prop) (v : StepV) (w : World) (q : List Rec) (i sq : Nat) (r : Rec) (hH : Holds w ms K m n q f la O) (hop : v.op = 20) (hsq : v.seq = (sq : Int)) (hi : q[i]? = some r) (he : f + i = sq) (hsz : r.size ≤ 65536) :
    Calls Tryz.prog 26 #[.pointer (some ⟨ms, 0, none⟩), v.agg] w fun e w' => (∃ cs : List Value, e = .returned (.agg cs.toArray) ∧ AnsAt w' (fun x => O x ∨ x < w.heap.size) cs (.msg sq r)) ∧ Holds w' ms K m n q f la O ∧ Kp O w w' := by
  have HOl := Lib.hid (fun x (hx : O x) => hH.lt hx)
  have hmsl : ms < w.heap.size := hH.lt hH.ms
  have HH := Lib.hid hH
  clear hH
  unfold StepV.agg
  rw [hop, hsq]
  generalize v.hdr.length = n1
  generalize v.data.length = n2
  generalize v.subs.length = n3
  go_enter Tryz.func26, Tryz.ntmps26
  go_wp2_with fail
  obtain ⟨w0, hw0⟩ : ∃ w0, ((w.alloc (.cells #[.int .i64 20, .string (str v.subj), .slice v.ha n1 v.hc, .slice v.da n2 v.dc, .int .i64 v.time, .int .u64 (sq : Int), .int .u64 v.num, .int .u64 v.keep, .bool v.last, .slice v.sa n3 v.sc, .int .i64 v.c0, .int .i64 v.c1, .int .i64 v.c2, .bool v.c3, .bool v.c4, .int .u64 v.c5] 44)).alloc (.cells #[.int .i64 0, .bool false, .int .u64 0, .int .u64 0, .string ⟨#[]⟩, .slice none 0 0, .slice none 0 0, .int .u64 0, .int .i64 0, .slice none 0 0, .slice none 0 0, .int .u64 0, .int .u64 0, .int .u64 0, .int .u64 0, .int .i64 0, .int .i64 0, .int .i64 0, .int .i64 0, .slice none 0 0, .int .u64 0, .string ⟨#[]⟩] 47)).alloc (.cells #[.int .i64 0, .bool false, .int .u64 0, .int .u64 0, .string ⟨#[]⟩, .slice none 0 0, .slice none 0 0, .int .u64 0, .int .i64 0, .slice none 0 0, .slice none 0 0, .int .u64 0, .int .u64 0, .int .u64 0, .int .u64 0, .int .i64 0, .int .i64 0, .int .i64 0, .int .i64 0, .slice none 0 0, .int .u64 0, .string ⟨#[]⟩] 47) = w0 := ⟨_, rfl⟩
  rw [hw0]
  have HX0 : Hid (Ext w w0) := Lib.hid (by rw [← hw0]; exact (((Kp.refl _ _).alloc _).alloc _).alloc _)
  have HR0 : Hid (Blk w0 (w.heap.size + 1) #[.int .i64 0, .bool false, .int .u64 0, .int .u64 0, .string ⟨#[]⟩, .slice none 0 0, .slice none 0 0, .int .u64 0, .int .i64 0, .slice none 0 0, .slice none 0 0, .int .u64 0, .int .u64 0, .int .u64 0, .int .u64 0, .int .i64 0, .int .i64 0, .int .i64 0, .int .i64 0, .slice none 0 0, .int .u64 0, .string ⟨#[]⟩] 47) := Lib.hid (by rw [← hw0]; exact (Blk.newAt (w := w.alloc _) (cs := #[.int .i64 0, .bool false, .int .u64 0, .int .u64 0, .string ⟨#[]⟩, .slice none 0 0, .slice none 0 0, .int .u64 0, .int .i64 0, .slice none 0 0, .slice none 0 0, .int .u64 0, .int .u64 0, .int .u64 0, .int .u64 0, .int .i64 0, .int .i64 0, .int .i64 0, .int .i64 0, .slice none 0 0, .int .u64 0, .string ⟨#[]⟩]) (T := 47) (by simp)).alloc _)
  have HT0 : Hid (Blk w0 (w.heap.size + 1 + 1) #[.int .i64 0, .bool false, .int .u64 0, .int .u64 0, .string ⟨#[]⟩, .slice none 0 0, .slice none 0 0, .int .u64 0, .int .i64 0, .slice none 0 0, .slice none 0 0, .int .u64 0, .int .u64 0, .int .u64 0, .int .u64 0, .int .i64 0, .int .i64 0, .int .i64 0, .int .i64 0, .slice none 0 0, .int .u64 0, .string ⟨#[]⟩] 47) := Lib.hid (by rw [← hw0]; exact Blk.newAt (w := (w.alloc _).alloc _) (cs := #[.int .i64 0, .bool false, .int .u64 0, .int .u64 0, .string ⟨#[]⟩, .slice none 0 0, .slice none 0 0, .int .u64 0, .int .i64 0, .slice none 0 0, .slice none 0 0, .int .u64 0, .int .u64 0, .int .u64 0, .int .u64 0, .int .i64 0, .int .i64 0, .int .i64 0, .int .i64 0, .slice none 0 0, .int .u64 0, .string ⟨#[]⟩]) (T := 47) (by simp))
  have hz0 : w0.heap.size = w.heap.size + 3 := by rw [← hw0]; simp
  clear hw0
  have hr1O : ¬ O (w.heap.size + 1) := fun e => by have := HOl.out _ e; omega
  have hr2O : ¬ O (w.heap.size + 1 + 1) := fun e => by have := HOl.out _ e; omega
  generalize hbx : w.heap.size = bx at HR0 HT0 hr1O hr2O
  refine (loadH ms i sq r w0 (HH.out.keep HX0.out fun _ _ => id) hi he).mono ?_
  rintro e w1 ⟨b, rfl, hb, hM, hK1, hH1⟩
  have HK1 := Lib.hid hK1
  have HH1 := Lib.hid hH1
  have HR1 := Lib.hid (HR0.out.keep hK1 hr1O)
  have HT1 := Lib.hid (HT0.out.keep hK1 hr2O)
  have H61 := Lib.hid (message61 w0.heap.size b sq r w1 hM (by omega))
  clear hK1 hH1 hM
  go_wp2_with fail
  refine H61.out.mono ?_
  rintro e w2 ⟨cs, rfl, ⟨ha, hc, da, dc, rfl, hS1, hS2, hI1, hI2, hZ1, hZ2⟩, hX2⟩
  have HZ1 := Lib.hid hZ1
  have HZ2 := Lib.hid hZ2
  clear hZ1 hZ2
  have HX2 := Lib.hid hX2
  have HS1 := Lib.hid hS1
  have HS2 := Lib.hid hS2
  have HI1 := Lib.hid hI1
  have HI2 := Lib.hid hI2
  have HR2 := Lib.hid (HR1.out.keep hX2 id)
  have HT2 := Lib.hid (HT1.out.keep hX2 id)
  clear hX2 hS1 hS2 hI1 hI2 H61
  have y0 : w2.cell? ⟨bx + 1 + 1, 0, none⟩ = some (.int .i64 0) := HT2.out.cell 0
  have v0 : w2.frozen? ⟨bx + 1 + 1, 0, none⟩ = false := HT2.out.frozen 0
  have y4 : w2.cell? ⟨bx + 1 + 1, 4, none⟩ = some (.string ⟨#[]⟩) := HT2.out.cell 4
  have v4 : w2.frozen? ⟨bx + 1 + 1, 4, none⟩ = false := HT2.out.frozen 4
  have y5 : w2.cell? ⟨bx + 1 + 1, 5, none⟩ = some (.slice none 0 0) := HT2.out.cell 5
  have v5 : w2.frozen? ⟨bx + 1 + 1, 5, none⟩ = false := HT2.out.frozen 5
  have y6 : w2.cell? ⟨bx + 1 + 1, 6, none⟩ = some (.slice none 0 0) := HT2.out.cell 6
  have v6 : w2.frozen? ⟨bx + 1 + 1, 6, none⟩ = false := HT2.out.frozen 6
  have y7 : w2.cell? ⟨bx + 1 + 1, 7, none⟩ = some (.int .u64 0) := HT2.out.cell 7
  have v7 : w2.frozen? ⟨bx + 1 + 1, 7, none⟩ = false := HT2.out.frozen 7
  have y8 : w2.cell? ⟨bx + 1 + 1, 8, none⟩ = some (.int .i64 0) := HT2.out.cell 8
  have v8 : w2.frozen? ⟨bx + 1 + 1, 8, none⟩ = false := HT2.out.frozen 8
  go_wp2_with fail
  refine (one41 .nilIface 0 (.inl ⟨rfl, rfl⟩) _).mono ?_
  rintro e w9 ⟨rfl, rfl⟩
  have hT := HT2.out
  have hT : Blk (w2.setCell ⟨bx + 1 + 1, 4, none⟩ (.string (str r.subj))) (bx + 1 + 1) #[.int .i64 0, .bool false, .int .u64 0, .int .u64 0, .string (str r.subj), .slice none 0 0, .slice none 0 0, .int .u64 0, .int .i64 0, .slice none 0 0, .slice none 0 0, .int .u64 0, .int .u64 0, .int .u64 0, .int .u64 0, .int .i64 0, .int .i64 0, .int .i64 0, .int .i64 0, .slice none 0 0, .int .u64 0, .string ⟨#[]⟩] 47 := hT.set 4 (.string (str r.subj))
  have hT : Blk ((w2.setCell ⟨bx + 1 + 1, 4, none⟩ (.string (str r.subj))).setCell ⟨bx + 1 + 1, 5, none⟩ (.slice ha r.hdr.length hc)) (bx + 1 + 1) #[.int .i64 0, .bool false, .int .u64 0, .int .u64 0, .string (str r.subj), .slice ha r.hdr.length hc, .slice none 0 0, .int .u64 0, .int .i64 0, .slice none 0 0, .slice none 0 0, .int .u64 0, .int .u64 0, .int .u64 0, .int .u64 0, .int .i64 0, .int .i64 0, .int .i64 0, .int .i64 0, .slice none 0 0, .int .u64 0, .string ⟨#[]⟩] 47 := hT.set 5 (.slice ha r.hdr.length hc)
  have hT : Blk (((w2.setCell ⟨bx + 1 + 1, 4, none⟩ (.string (str r.subj))).setCell ⟨bx + 1 + 1, 5, none⟩ (.slice ha r.hdr.length hc)).setCell ⟨bx + 1 + 1, 6, none⟩ (.slice da r.data.length dc)) (bx + 1 + 1) #[.int .i64 0, .bool false, .int .u64 0, .int .u64 0, .string (str r.subj), .slice ha r.hdr.length hc, .slice da r.data.length dc, .int .u64 0, .int .i64 0, .slice none 0 0, .slice none 0 0, .int .u64 0, .int .u64 0, .int .u64 0, .int .u64 0, .int .i64 0, .int .i64 0, .int .i64 0, .int .i64 0, .slice none 0 0, .int .u64 0, .string ⟨#[]⟩] 47 := hT.set 6 (.slice da r.data.length dc)
  have hT : Blk ((((w2.setCell ⟨bx + 1 + 1, 4, none⟩ (.string (str r.subj))).setCell ⟨bx + 1 + 1, 5, none⟩ (.slice ha r.hdr.length hc)).setCell ⟨bx + 1 + 1, 6, none⟩ (.slice da r.data.length dc)).setCell ⟨bx + 1 + 1, 7, none⟩ (.int .u64 (sq : Int))) (bx + 1 + 1) #[.int .i64 0, .bool false, .int .u64 0, .int .u64 0, .string (str r.subj), .slice ha r.hdr.length hc, .slice da r.data.length dc, .int .u64 (sq : Int), .int .i64 0, .slice none 0 0, .slice none 0 0, .int .u64 0, .int .u64 0, .int .u64 0, .int .u64 0, .int .i64 0, .int .i64 0, .int .i64 0, .int .i64 0, .slice none 0 0, .int .u64 0, .string ⟨#[]⟩] 47 := hT.set 7 (.int .u64 (sq : Int))
  have hT : Blk (((((w2.setCell ⟨bx + 1 + 1, 4, none⟩ (.string (str r.subj))).setCell ⟨bx + 1 + 1, 5, none⟩ (.slice ha r.hdr.length hc)).setCell ⟨bx + 1 + 1, 6, none⟩ (.slice da r.data.length dc)).setCell ⟨bx + 1 + 1, 7, none⟩ (.int .u64 (sq : Int))).setCell ⟨bx + 1 + 1, 8, none⟩ (.int .i64 r.time)) (bx + 1 + 1) #[.int .i64 0, .bool false, .int .u64 0, .int .u64 0, .string (str r.subj), .slice ha r.hdr.length hc, .slice da r.data.length dc, .int .u64 (sq : Int), .int .i64 r.time, .slice none 0 0, .slice none 0 0, .int .u64 0, .int .u64 0, .int .u64 0, .int .u64 0, .int .i64 0, .int .i64 0, .int .i64 0, .int .i64 0, .slice none 0 0, .int .u64 0, .string ⟨#[]⟩] 47 := hT.set 8 (.int .i64 r.time)
  have hT : Blk ((((((w2.setCell ⟨bx + 1 + 1, 4, none⟩ (.string (str r.subj))).setCell ⟨bx + 1 + 1, 5, none⟩ (.slice ha r.hdr.length hc)).setCell ⟨bx + 1 + 1, 6, none⟩ (.slice da r.data.length dc)).setCell ⟨bx + 1 + 1, 7, none⟩ (.int .u64 (sq : Int))).setCell ⟨bx + 1 + 1, 8, none⟩ (.int .i64 r.time)).setCell ⟨bx + 1 + 1, 0, none⟩ (.int .i64 0)) (bx + 1 + 1) #[.int .i64 0, .bool false, .int .u64 0, .int .u64 0, .string (str r.subj), .slice ha r.hdr.length hc, .slice da r.data.length dc, .int .u64 (sq : Int), .int .i64 r.time, .slice none 0 0, .slice none 0 0, .int .u64 0, .int .u64 0, .int .u64 0, .int .u64 0, .int .i64 0, .int .i64 0, .int .i64 0, .int .i64 0, .slice none 0 0, .int .u64 0, .string ⟨#[]⟩] 47 := hT.set 0 (.int .i64 0)
  have HT6 : Hid (Blk ((((((w2.setCell ⟨bx + 1 + 1, 4, none⟩ (.string (str r.subj))).setCell ⟨bx + 1 + 1, 5, none⟩ (.slice ha r.hdr.length hc)).setCell ⟨bx + 1 + 1, 6, none⟩ (.slice da r.data.length dc)).setCell ⟨bx + 1 + 1, 7, none⟩ (.int .u64 (sq : Int))).setCell ⟨bx + 1 + 1, 8, none⟩ (.int .i64 r.time)).setCell ⟨bx + 1 + 1, 0, none⟩ (.int .i64 0)) (bx + 1 + 1) (told 0 0 [.string (str r.subj), .slice ha r.hdr.length hc, .slice da r.data.length dc, .int .u64 (sq : Int), .int .i64 r.time] zSt).toArray 47) := Lib.hid hT
  have HR6 : Hid (Blk ((((((w2.setCell ⟨bx + 1 + 1, 4, none⟩ (.string (str r.subj))).setCell ⟨bx + 1 + 1, 5, none⟩ (.slice ha r.hdr.length hc)).setCell ⟨bx + 1 + 1, 6, none⟩ (.slice da r.data.length dc)).setCell ⟨bx + 1 + 1, 7, none⟩ (.int .u64 (sq : Int))).setCell ⟨bx + 1 + 1, 8, none⟩ (.int .i64 r.time)).setCell ⟨bx + 1 + 1, 0, none⟩ (.int .i64 0)) (bx + 1) #[.int .i64 0, .bool false, .int .u64 0, .int .u64 0, .string ⟨#[]⟩, .slice none 0 0, .slice none 0 0, .int .u64 0, .int .i64 0, .slice none 0 0, .slice none 0 0, .int .u64 0, .int .u64 0, .int .u64 0, .int .u64 0, .int .i64 0, .int .i64 0, .int .i64 0, .int .i64 0, .slice none 0 0, .int .u64 0, .string ⟨#[]⟩] 47) := Lib.hid ((((((HR2.out.setOther (a := ⟨bx + 1 + 1, 4, none⟩) (by simp) _).setOther (a := ⟨bx + 1 + 1, 5, none⟩) (by simp) _).setOther (a := ⟨bx + 1 + 1, 6, none⟩) (by simp) _).setOther (a := ⟨bx + 1 + 1, 7, none⟩) (by simp) _).setOther (a := ⟨bx + 1 + 1, 8, none⟩) (by simp) _).setOther (a := ⟨bx + 1 + 1, 0, none⟩) (by simp) _)
  have HKS : Hid (Kp (fun i => i = bx + 1 + 1 ∨ i = bx + 1) w2 ((((((w2.setCell ⟨bx + 1 + 1, 4, none⟩ (.string (str r.subj))).setCell ⟨bx + 1 + 1, 5, none⟩ (.slice ha r.hdr.length hc)).setCell ⟨bx + 1 + 1, 6, none⟩ (.slice da r.data.length dc)).setCell ⟨bx + 1 + 1, 7, none⟩ (.int .u64 (sq : Int))).setCell ⟨bx + 1 + 1, 8, none⟩ (.int .i64 r.time)).setCell ⟨bx + 1 + 1, 0, none⟩ (.int .i64 0))) := Lib.hid (((((((Kp.refl (fun i => i = bx + 1 + 1 ∨ i = bx + 1) w2).setL _).setL _).setL _).setL _).setL _).setL _)
  clear hT
  go_wp2_with (with_reducible refine stop_load rfl ?_)
  refine Lib.hid ?_
  refine wpList_load_mid (by with_reducible rfl) 47 (.tmp 5) (by with_reducible rfl) (bx + 1 + 1) 0 (by rfl) (told 0 0 [.string (str r.subj), .slice ha r.hdr.length hc, .slice da r.data.length dc, .int .u64 (sq : Int), .int .i64 r.time] zSt) _ ?_ Tryz.underlying47 (by rfl) ?_ ?_
  · exact HT6.out.range
  · exact inf47
  refine wpList_store_mid (by with_reducible rfl) 47 (.tmp 4) (.tmp 195) (by with_reducible rfl) (bx + 1) 0 (told 0 0 [.string (str r.subj), .slice ha r.hdr.length hc, .slice da r.data.length dc, .int .u64 (sq : Int), .int .i64 r.time] zSt).toArray (by rfl) (by rfl) ?_ ?_ ?_ ?_
  · exact HR6.out.there (by rfl)
  · exact inf47
  · exact all_oneCell_toArray (told_one (by simp [Value.oneCell']) zSt_one)
  go_wp2_with fail
  have hRF := HR6.out.setAll (told 0 0 [.string (str r.subj), .slice ha r.hdr.length hc, .slice da r.data.length dc, .int .u64 (sq : Int), .int .i64 r.time] zSt) rfl
  have hKF : Kp (fun i => i = bx + 1 + 1 ∨ i = bx + 1) w2 (((((((w2.setCell ⟨bx + 1 + 1, 4, none⟩ (.string (str r.subj))).setCell ⟨bx + 1 + 1, 5, none⟩ (.slice ha r.hdr.length hc)).setCell ⟨bx + 1 + 1, 6, none⟩ (.slice da r.data.length dc)).setCell ⟨bx + 1 + 1, 7, none⟩ (.int .u64 (sq : Int))).setCell ⟨bx + 1 + 1, 8, none⟩ (.int .i64 r.time)).setCell ⟨bx + 1 + 1, 0, none⟩ (.int .i64 0)).setCells (bx + 1) 0 (told 0 0 [.string (str r.subj), .slice ha r.hdr.length hc, .slice da r.data.length dc, .int .u64 (sq : Int), .int .i64 r.time] zSt)) :=
    HKS.out.trans (Kp.setAll _ _ 0 _ (Kp.refl _ _)) fun _ _ e => .inr e
  refine bodyPost_ret (results_cell_row (P := Tryz.prog) rfl _ _ (bx + 1) 47 _ (0, 0) _ rfl hRF Tryz.underlying47 rfl (by kernel_rfl)) rfl ?_
  have hz1 := HK1.out.size
  have hz2 := HX2.out.size
  have hz3 := hKF.size
  have hzx := HX0.out.size
  have hoff : ∀ (ao : Option Addr), In (fun x => w1.heap.size ≤ x ∧ x < w2.heap.size) ao → BytesOff (fun i => i = bx + 1 + 1 ∨ i = bx + 1) ao := fun ao h b off s e hb => by have := h b off s e; omega
  have hin : ∀ (ao : Option Addr), In (fun x => w1.heap.size ≤ x ∧ x < w2.heap.size) ao → ∀ z, w2.heap.size ≤ z → In (fun x => x < z ∧ ¬ (O x ∨ x < w.heap.size)) ao := fun ao h z hz b off s e => by
    have h1 := h b off s e
    exact ⟨by omega, fun ho => ho.elim (fun ho => by have := HOl.out _ ho; omega) fun ho => by omega⟩
  refine ⟨⟨_, rfl, ha, hc, da, dc, rfl, HS1.out.keep hKF (hoff ha HI1.out), HS2.out.keep hKF (hoff da HI2.out), hin ha HI1.out _ hz3, hin da HI2.out _ hz3, HZ1.out, HZ2.out⟩, (HH1.out.keep HX2.out fun _ _ => id).keep hKF fun x hx e => e.elim (fun e => hr2O (e ▸ hx)) fun e => hr1O (e ▸ hx), ?_⟩
  refine (((HX0.out.mono fun _ _ e => absurd e id).trans HK1.out fun _ _ e => e).trans HX2.out fun _ _ e => absurd e id).trans hKF fun i hi e => ?_
  omega
set_option maxHeartbeats 2000000 in
theorem ask_state (ms m n : Nat) (K : List (List UInt8)) (f la : Nat) (O : Nat → Prop) (v : StepV) (w : World) (q : List Rec) (hH : Holds w ms K m n q f la O) (hop : v.op = 32) :
    Calls Tryz.prog 26 #[.pointer (some ⟨ms, 0, none⟩), v.agg] w fun e w' => (∃ cs : List Value, e = .returned (.agg cs.toArray) ∧ AnsAt w' O cs (.state q.length (total q) f la)) ∧ Holds w' ms K m n q f la O ∧ Kp O w w' := by
  have HOl := Lib.hid (fun x (hx : O x) => hH.lt hx)
  have hmsl : ms < w.heap.size := hH.lt hH.ms
  have HH := Lib.hid hH
  clear hH
  unfold StepV.agg
  rw [hop]
  generalize v.hdr.length = n1
  generalize v.data.length = n2
  generalize v.subs.length = n3
  go_enter Tryz.func26, Tryz.ntmps26
  go_wp2_with fail
  obtain ⟨w0, hw0⟩ : ∃ w0, ((w.alloc (.cells #[.int .i64 32, .string (str v.subj), .slice v.ha n1 v.hc, .slice v.da n2 v.dc, .int .i64 v.time, .int .u64 v.seq, .int .u64 v.num, .int .u64 v.keep, .bool v.last, .slice v.sa n3 v.sc, .int .i64 v.c0, .int .i64 v.c1, .int .i64 v.c2, .bool v.c3, .bool v.c4, .int .u64 v.c5] 44)).alloc (.cells #[.int .i64 0, .bool false, .int .u64 0, .int .u64 0, .string ⟨#[]⟩, .slice none 0 0, .slice none 0 0, .int .u64 0, .int .i64 0, .slice none 0 0, .slice none 0 0, .int .u64 0, .int .u64 0, .int .u64 0, .int .u64 0, .int .i64 0, .int .i64 0, .int .i64 0, .int .i64 0, .slice none 0 0, .int .u64 0, .string ⟨#[]⟩] 47)).alloc (.cells #[.int .i64 0, .bool false, .int .u64 0, .int .u64 0, .string ⟨#[]⟩, .slice none 0 0, .slice none 0 0, .int .u64 0, .int .i64 0, .slice none 0 0, .slice none 0 0, .int .u64 0, .int .u64 0, .int .u64 0, .int .u64 0, .int .i64 0, .int .i64 0, .int .i64 0, .int .i64 0, .slice none 0 0, .int .u64 0, .string ⟨#[]⟩] 47) = w0 := ⟨_, rfl⟩
  rw [hw0]
  have HX0 : Hid (Ext w w0) := Lib.hid (by rw [← hw0]; exact (((Kp.refl _ _).alloc _).alloc _).alloc _)
  have HR0 : Hid (Blk w0 (w.heap.size + 1) #[.int .i64 0, .bool false, .int .u64 0, .int .u64 0, .string ⟨#[]⟩, .slice none 0 0, .slice none 0 0, .int .u64 0, .int .i64 0, .slice none 0 0, .slice none 0 0, .int .u64 0, .int .u64 0, .int .u64 0, .int .u64 0, .int .i64 0, .int .i64 0, .int .i64 0, .int .i64 0, .slice none 0 0, .int .u64 0, .string ⟨#[]⟩] 47) := Lib.hid (by rw [← hw0]; exact (Blk.newAt (w := w.alloc _) (cs := #[.int .i64 0, .bool false, .int .u64 0, .int .u64 0, .string ⟨#[]⟩, .slice none 0 0, .slice none 0 0, .int .u64 0, .int .i64 0, .slice none 0 0, .slice none 0 0, .int .u64 0, .int .u64 0, .int .u64 0, .int .u64 0, .int .i64 0, .int .i64 0, .int .i64 0, .int .i64 0, .slice none 0 0, .int .u64 0, .string ⟨#[]⟩]) (T := 47) (by simp)).alloc _)
  have HT0 : Hid (Blk w0 (w.heap.size + 1 + 1) #[.int .i64 0, .bool false, .int .u64 0, .int .u64 0, .string ⟨#[]⟩, .slice none 0 0, .slice none 0 0, .int .u64 0, .int .i64 0, .slice none 0 0, .slice none 0 0, .int .u64 0, .int .u64 0, .int .u64 0, .int .u64 0, .int .i64 0, .int .i64 0, .int .i64 0, .int .i64 0, .slice none 0 0, .int .u64 0, .string ⟨#[]⟩] 47) := Lib.hid (by rw [← hw0]; exact Blk.newAt (w := (w.alloc _).alloc _) (cs := #[.int .i64 0, .bool false, .int .u64 0, .int .u64 0, .string ⟨#[]⟩, .slice none 0 0, .slice none 0 0, .int .u64 0, .int .i64 0, .slice none 0 0, .slice none 0 0, .int .u64 0, .int .u64 0, .int .u64 0, .int .u64 0, .int .i64 0, .int .i64 0, .int .i64 0, .int .i64 0, .slice none 0 0, .int .u64 0, .string ⟨#[]⟩]) (T := 47) (by simp))
  have hz0 : w0.heap.size = w.heap.size + 3 := by rw [← hw0]; simp
  clear hw0
  have hr1O : ¬ O (w.heap.size + 1) := fun e => by have := HOl.out _ e; omega
  have hr2O : ¬ O (w.heap.size + 1 + 1) := fun e => by have := HOl.out _ e; omega
  generalize hbx : w.heap.size = bx at HR0 HT0 hr1O hr2O
  refine (stateH ms w0 (HH.out.keep HX0.out fun _ _ => id)).mono ?_
  rintro e w1 ⟨⟨t1, t2, sz, d, cap, rfl⟩, hK1, hH1⟩
  have HK1 := Lib.hid hK1
  have HH1 := Lib.hid hH1
  have HR1 := Lib.hid (HR0.out.keep hK1 hr1O)
  have HT1 := Lib.hid (HT0.out.keep hK1 hr2O)
  clear hK1 hH1
  go_wp2_with fail
  refine (state57 _ _ _ _ _ _ _ d cap w1).mono ?_
  rintro e w2 ⟨rfl, hX2⟩
  have HX2 := Lib.hid hX2
  have HR2 := Lib.hid (HR1.out.keep hX2 id)
  have HT2 := Lib.hid (HT1.out.keep hX2 id)
  clear hX2
  have y11 : w2.cell? ⟨bx + 1 + 1, 11, none⟩ = some (.int .u64 0) := HT2.out.cell 11
  have v11 : w2.frozen? ⟨bx + 1 + 1, 11, none⟩ = false := HT2.out.frozen 11
  have y12 : w2.cell? ⟨bx + 1 + 1, 12, none⟩ = some (.int .u64 0) := HT2.out.cell 12
  have v12 : w2.frozen? ⟨bx + 1 + 1, 12, none⟩ = false := HT2.out.frozen 12
  have y13 : w2.cell? ⟨bx + 1 + 1, 13, none⟩ = some (.int .u64 0) := HT2.out.cell 13
  have v13 : w2.frozen? ⟨bx + 1 + 1, 13, none⟩ = false := HT2.out.frozen 13
  have y14 : w2.cell? ⟨bx + 1 + 1, 14, none⟩ = some (.int .u64 0) := HT2.out.cell 14
  have v14 : w2.frozen? ⟨bx + 1 + 1, 14, none⟩ = false := HT2.out.frozen 14
  have y15 : w2.cell? ⟨bx + 1 + 1, 15, none⟩ = some (.int .i64 0) := HT2.out.cell 15
  have v15 : w2.frozen? ⟨bx + 1 + 1, 15, none⟩ = false := HT2.out.frozen 15
  have y16 : w2.cell? ⟨bx + 1 + 1, 16, none⟩ = some (.int .i64 0) := HT2.out.cell 16
  have v16 : w2.frozen? ⟨bx + 1 + 1, 16, none⟩ = false := HT2.out.frozen 16
  have y17 : w2.cell? ⟨bx + 1 + 1, 17, none⟩ = some (.int .i64 0) := HT2.out.cell 17
  have v17 : w2.frozen? ⟨bx + 1 + 1, 17, none⟩ = false := HT2.out.frozen 17
  have y18 : w2.cell? ⟨bx + 1 + 1, 18, none⟩ = some (.int .i64 0) := HT2.out.cell 18
  have v18 : w2.frozen? ⟨bx + 1 + 1, 18, none⟩ = false := HT2.out.frozen 18
  have y19 : w2.cell? ⟨bx + 1 + 1, 19, none⟩ = some (.slice none 0 0) := HT2.out.cell 19
  have v19 : w2.frozen? ⟨bx + 1 + 1, 19, none⟩ = false := HT2.out.frozen 19
  have y20 : w2.cell? ⟨bx + 1 + 1, 20, none⟩ = some (.int .u64 0) := HT2.out.cell 20
  have v20 : w2.frozen? ⟨bx + 1 + 1, 20, none⟩ = false := HT2.out.frozen 20
  go_wp2_with fail
  refine (message61z _).mono ?_
  rintro e w3 ⟨rfl, hX3⟩
  have hT := HT2.out
  have hT : Blk (w2.setCell ⟨bx + 1 + 1, 11, none⟩ (.int .u64 (q.length : Int))) (bx + 1 + 1) #[.int .i64 0, .bool false, .int .u64 0, .int .u64 0, .string ⟨#[]⟩, .slice none 0 0, .slice none 0 0, .int .u64 0, .int .i64 0, .slice none 0 0, .slice none 0 0, .int .u64 (q.length : Int), .int .u64 0, .int .u64 0, .int .u64 0, .int .i64 0, .int .i64 0, .int .i64 0, .int .i64 0, .slice none 0 0, .int .u64 0, .string ⟨#[]⟩] 47 := hT.set 11 (.int .u64 (q.length : Int))
  have hT : Blk ((w2.setCell ⟨bx + 1 + 1, 11, none⟩ (.int .u64 (q.length : Int))).setCell ⟨bx + 1 + 1, 12, none⟩ (.int .u64 (total q : Int))) (bx + 1 + 1) #[.int .i64 0, .bool false, .int .u64 0, .int .u64 0, .string ⟨#[]⟩, .slice none 0 0, .slice none 0 0, .int .u64 0, .int .i64 0, .slice none 0 0, .slice none 0 0, .int .u64 (q.length : Int), .int .u64 (total q : Int), .int .u64 0, .int .u64 0, .int .i64 0, .int .i64 0, .int .i64 0, .int .i64 0, .slice none 0 0, .int .u64 0, .string ⟨#[]⟩] 47 := hT.set 12 (.int .u64 (total q : Int))
  have hT : Blk (((w2.setCell ⟨bx + 1 + 1, 11, none⟩ (.int .u64 (q.length : Int))).setCell ⟨bx + 1 + 1, 12, none⟩ (.int .u64 (total q : Int))).setCell ⟨bx + 1 + 1, 13, none⟩ (.int .u64 (f : Int))) (bx + 1 + 1) #[.int .i64 0, .bool false, .int .u64 0, .int .u64 0, .string ⟨#[]⟩, .slice none 0 0, .slice none 0 0, .int .u64 0, .int .i64 0, .slice none 0 0, .slice none 0 0, .int .u64 (q.length : Int), .int .u64 (total q : Int), .int .u64 (f : Int), .int .u64 0, .int .i64 0, .int .i64 0, .int .i64 0, .int .i64 0, .slice none 0 0, .int .u64 0, .string ⟨#[]⟩] 47 := hT.set 13 (.int .u64 (f : Int))
  have hT : Blk ((((w2.setCell ⟨bx + 1 + 1, 11, none⟩ (.int .u64 (q.length : Int))).setCell ⟨bx + 1 + 1, 12, none⟩ (.int .u64 (total q : Int))).setCell ⟨bx + 1 + 1, 13, none⟩ (.int .u64 (f : Int))).setCell ⟨bx + 1 + 1, 14, none⟩ (.int .u64 (la : Int))) (bx + 1 + 1) #[.int .i64 0, .bool false, .int .u64 0, .int .u64 0, .string ⟨#[]⟩, .slice none 0 0, .slice none 0 0, .int .u64 0, .int .i64 0, .slice none 0 0, .slice none 0 0, .int .u64 (q.length : Int), .int .u64 (total q : Int), .int .u64 (f : Int), .int .u64 (la : Int), .int .i64 0, .int .i64 0, .int .i64 0, .int .i64 0, .slice none 0 0, .int .u64 0, .string ⟨#[]⟩] 47 := hT.set 14 (.int .u64 (la : Int))
  have hT : Blk (((((w2.setCell ⟨bx + 1 + 1, 11, none⟩ (.int .u64 (q.length : Int))).setCell ⟨bx + 1 + 1, 12, none⟩ (.int .u64 (total q : Int))).setCell ⟨bx + 1 + 1, 13, none⟩ (.int .u64 (f : Int))).setCell ⟨bx + 1 + 1, 14, none⟩ (.int .u64 (la : Int))).setCell ⟨bx + 1 + 1, 15, none⟩ (.int .i64 t1)) (bx + 1 + 1) #[.int .i64 0, .bool false, .int .u64 0, .int .u64 0, .string ⟨#[]⟩, .slice none 0 0, .slice none 0 0, .int .u64 0, .int .i64 0, .slice none 0 0, .slice none 0 0, .int .u64 (q.length : Int), .int .u64 (total q : Int), .int .u64 (f : Int), .int .u64 (la : Int), .int .i64 t1, .int .i64 0, .int .i64 0, .int .i64 0, .slice none 0 0, .int .u64 0, .string ⟨#[]⟩] 47 := hT.set 15 (.int .i64 t1)
  have hT : Blk ((((((w2.setCell ⟨bx + 1 + 1, 11, none⟩ (.int .u64 (q.length : Int))).setCell ⟨bx + 1 + 1, 12, none⟩ (.int .u64 (total q : Int))).setCell ⟨bx + 1 + 1, 13, none⟩ (.int .u64 (f : Int))).setCell ⟨bx + 1 + 1, 14, none⟩ (.int .u64 (la : Int))).setCell ⟨bx + 1 + 1, 15, none⟩ (.int .i64 t1)).setCell ⟨bx + 1 + 1, 16, none⟩ (.int .i64 t2)) (bx + 1 + 1) #[.int .i64 0, .bool false, .int .u64 0, .int .u64 0, .string ⟨#[]⟩, .slice none 0 0, .slice none 0 0, .int .u64 0, .int .i64 0, .slice none 0 0, .slice none 0 0, .int .u64 (q.length : Int), .int .u64 (total q : Int), .int .u64 (f : Int), .int .u64 (la : Int), .int .i64 t1, .int .i64 t2, .int .i64 0, .int .i64 0, .slice none 0 0, .int .u64 0, .string ⟨#[]⟩] 47 := hT.set 16 (.int .i64 t2)
  have hT : Blk (((((((w2.setCell ⟨bx + 1 + 1, 11, none⟩ (.int .u64 (q.length : Int))).setCell ⟨bx + 1 + 1, 12, none⟩ (.int .u64 (total q : Int))).setCell ⟨bx + 1 + 1, 13, none⟩ (.int .u64 (f : Int))).setCell ⟨bx + 1 + 1, 14, none⟩ (.int .u64 (la : Int))).setCell ⟨bx + 1 + 1, 15, none⟩ (.int .i64 t1)).setCell ⟨bx + 1 + 1, 16, none⟩ (.int .i64 t2)).setCell ⟨bx + 1 + 1, 17, none⟩ (.int .i64 sz)) (bx + 1 + 1) #[.int .i64 0, .bool false, .int .u64 0, .int .u64 0, .string ⟨#[]⟩, .slice none 0 0, .slice none 0 0, .int .u64 0, .int .i64 0, .slice none 0 0, .slice none 0 0, .int .u64 (q.length : Int), .int .u64 (total q : Int), .int .u64 (f : Int), .int .u64 (la : Int), .int .i64 t1, .int .i64 t2, .int .i64 sz, .int .i64 0, .slice none 0 0, .int .u64 0, .string ⟨#[]⟩] 47 := hT.set 17 (.int .i64 sz)
  have hT : Blk ((((((((w2.setCell ⟨bx + 1 + 1, 11, none⟩ (.int .u64 (q.length : Int))).setCell ⟨bx + 1 + 1, 12, none⟩ (.int .u64 (total q : Int))).setCell ⟨bx + 1 + 1, 13, none⟩ (.int .u64 (f : Int))).setCell ⟨bx + 1 + 1, 14, none⟩ (.int .u64 (la : Int))).setCell ⟨bx + 1 + 1, 15, none⟩ (.int .i64 t1)).setCell ⟨bx + 1 + 1, 16, none⟩ (.int .i64 t2)).setCell ⟨bx + 1 + 1, 17, none⟩ (.int .i64 sz)).setCell ⟨bx + 1 + 1, 18, none⟩ (.int .i64 0)) (bx + 1 + 1) #[.int .i64 0, .bool false, .int .u64 0, .int .u64 0, .string ⟨#[]⟩, .slice none 0 0, .slice none 0 0, .int .u64 0, .int .i64 0, .slice none 0 0, .slice none 0 0, .int .u64 (q.length : Int), .int .u64 (total q : Int), .int .u64 (f : Int), .int .u64 (la : Int), .int .i64 t1, .int .i64 t2, .int .i64 sz, .int .i64 0, .slice none 0 0, .int .u64 0, .string ⟨#[]⟩] 47 := hT.set 18 (.int .i64 0)
  have hT : Blk (((((((((w2.setCell ⟨bx + 1 + 1, 11, none⟩ (.int .u64 (q.length : Int))).setCell ⟨bx + 1 + 1, 12, none⟩ (.int .u64 (total q : Int))).setCell ⟨bx + 1 + 1, 13, none⟩ (.int .u64 (f : Int))).setCell ⟨bx + 1 + 1, 14, none⟩ (.int .u64 (la : Int))).setCell ⟨bx + 1 + 1, 15, none⟩ (.int .i64 t1)).setCell ⟨bx + 1 + 1, 16, none⟩ (.int .i64 t2)).setCell ⟨bx + 1 + 1, 17, none⟩ (.int .i64 sz)).setCell ⟨bx + 1 + 1, 18, none⟩ (.int .i64 0)).setCell ⟨bx + 1 + 1, 19, none⟩ (.slice none 0 0)) (bx + 1 + 1) #[.int .i64 0, .bool false, .int .u64 0, .int .u64 0, .string ⟨#[]⟩, .slice none 0 0, .slice none 0 0, .int .u64 0, .int .i64 0, .slice none 0 0, .slice none 0 0, .int .u64 (q.length : Int), .int .u64 (total q : Int), .int .u64 (f : Int), .int .u64 (la : Int), .int .i64 t1, .int .i64 t2, .int .i64 sz, .int .i64 0, .slice none 0 0, .int .u64 0, .string ⟨#[]⟩] 47 := hT.set 19 (.slice none 0 0)
  have hT : Blk ((((((((((w2.setCell ⟨bx + 1 + 1, 11, none⟩ (.int .u64 (q.length : Int))).setCell ⟨bx + 1 + 1, 12, none⟩ (.int .u64 (total q : Int))).setCell ⟨bx + 1 + 1, 13, none⟩ (.int .u64 (f : Int))).setCell ⟨bx + 1 + 1, 14, none⟩ (.int .u64 (la : Int))).setCell ⟨bx + 1 + 1, 15, none⟩ (.int .i64 t1)).setCell ⟨bx + 1 + 1, 16, none⟩ (.int .i64 t2)).setCell ⟨bx + 1 + 1, 17, none⟩ (.int .i64 sz)).setCell ⟨bx + 1 + 1, 18, none⟩ (.int .i64 0)).setCell ⟨bx + 1 + 1, 19, none⟩ (.slice none 0 0)).setCell ⟨bx + 1 + 1, 20, none⟩ (.int .u64 0)) (bx + 1 + 1) #[.int .i64 0, .bool false, .int .u64 0, .int .u64 0, .string ⟨#[]⟩, .slice none 0 0, .slice none 0 0, .int .u64 0, .int .i64 0, .slice none 0 0, .slice none 0 0, .int .u64 (q.length : Int), .int .u64 (total q : Int), .int .u64 (f : Int), .int .u64 (la : Int), .int .i64 t1, .int .i64 t2, .int .i64 sz, .int .i64 0, .slice none 0 0, .int .u64 0, .string ⟨#[]⟩] 47 := hT.set 20 (.int .u64 0)
  have hKA : Kp (fun i => i = bx + 1 + 1 ∨ i = bx + 1) w2 ((((((((((w2.setCell ⟨bx + 1 + 1, 11, none⟩ (.int .u64 (q.length : Int))).setCell ⟨bx + 1 + 1, 12, none⟩ (.int .u64 (total q : Int))).setCell ⟨bx + 1 + 1, 13, none⟩ (.int .u64 (f : Int))).setCell ⟨bx + 1 + 1, 14, none⟩ (.int .u64 (la : Int))).setCell ⟨bx + 1 + 1, 15, none⟩ (.int .i64 t1)).setCell ⟨bx + 1 + 1, 16, none⟩ (.int .i64 t2)).setCell ⟨bx + 1 + 1, 17, none⟩ (.int .i64 sz)).setCell ⟨bx + 1 + 1, 18, none⟩ (.int .i64 0)).setCell ⟨bx + 1 + 1, 19, none⟩ (.slice none 0 0)).setCell ⟨bx + 1 + 1, 20, none⟩ (.int .u64 0)) := (((((((((((Kp.refl (fun i => i = bx + 1 + 1 ∨ i = bx + 1) w2).setL _).setL _).setL _).setL _).setL _).setL _).setL _).setL _).setL _).setL _)
  have HKA : Hid (Kp (fun i => i = bx + 1 + 1 ∨ i = bx + 1) w2 w3) := Lib.hid (hKA.trans hX3 fun _ _ e => absurd e id)
  have HR3 := Lib.hid (((((((((((HR2.out.setOther (a := ⟨bx + 1 + 1, 11, none⟩) (by simp) _).setOther (a := ⟨bx + 1 + 1, 12, none⟩) (by simp) _).setOther (a := ⟨bx + 1 + 1, 13, none⟩) (by simp) _).setOther (a := ⟨bx + 1 + 1, 14, none⟩) (by simp) _).setOther (a := ⟨bx + 1 + 1, 15, none⟩) (by simp) _).setOther (a := ⟨bx + 1 + 1, 16, none⟩) (by simp) _).setOther (a := ⟨bx + 1 + 1, 17, none⟩) (by simp) _).setOther (a := ⟨bx + 1 + 1, 18, none⟩) (by simp) _).setOther (a := ⟨bx + 1 + 1, 19, none⟩) (by simp) _).setOther (a := ⟨bx + 1 + 1, 20, none⟩) (by simp) _).keep hX3 id)
  have HT3 := Lib.hid (hT.keep hX3 id)
  clear hT hKA hX3 y11 v11 y12 v12 y13 v13 y14 v14 y15 v15 y16 v16 y17 v17 y18 v18 y19 v19 y20 v20
  unfold zMsg
  have y0 : w3.cell? ⟨bx + 1 + 1, 0, none⟩ = some (.int .i64 0) := HT3.out.cell 0
  have v0 : w3.frozen? ⟨bx + 1 + 1, 0, none⟩ = false := HT3.out.frozen 0
  have y4 : w3.cell? ⟨bx + 1 + 1, 4, none⟩ = some (.string ⟨#[]⟩) := HT3.out.cell 4
  have v4 : w3.frozen? ⟨bx + 1 + 1, 4, none⟩ = false := HT3.out.frozen 4
  have y5 : w3.cell? ⟨bx + 1 + 1, 5, none⟩ = some (.slice none 0 0) := HT3.out.cell 5
  have v5 : w3.frozen? ⟨bx + 1 + 1, 5, none⟩ = false := HT3.out.frozen 5
  have y6 : w3.cell? ⟨bx + 1 + 1, 6, none⟩ = some (.slice none 0 0) := HT3.out.cell 6
  have v6 : w3.frozen? ⟨bx + 1 + 1, 6, none⟩ = false := HT3.out.frozen 6
  have y7 : w3.cell? ⟨bx + 1 + 1, 7, none⟩ = some (.int .u64 0) := HT3.out.cell 7
  have v7 : w3.frozen? ⟨bx + 1 + 1, 7, none⟩ = false := HT3.out.frozen 7
  have y8 : w3.cell? ⟨bx + 1 + 1, 8, none⟩ = some (.int .i64 0) := HT3.out.cell 8
  have v8 : w3.frozen? ⟨bx + 1 + 1, 8, none⟩ = false := HT3.out.frozen 8
  go_wp2_with fail
  refine (one41 .nilIface 0 (.inl ⟨rfl, rfl⟩) _).mono ?_
  rintro e w9 ⟨rfl, rfl⟩
  have hT := HT3.out
  have hT : Blk (w3.setCell ⟨bx + 1 + 1, 4, none⟩ (.string (str []))) (bx + 1 + 1) #[.int .i64 0, .bool false, .int .u64 0, .int .u64 0, .string (str []), .slice none 0 0, .slice none 0 0, .int .u64 0, .int .i64 0, .slice none 0 0, .slice none 0 0, .int .u64 (q.length : Int), .int .u64 (total q : Int), .int .u64 (f : Int), .int .u64 (la : Int), .int .i64 t1, .int .i64 t2, .int .i64 sz, .int .i64 0, .slice none 0 0, .int .u64 0, .string ⟨#[]⟩] 47 := hT.set 4 (.string (str []))
  have hT : Blk ((w3.setCell ⟨bx + 1 + 1, 4, none⟩ (.string (str []))).setCell ⟨bx + 1 + 1, 5, none⟩ (.slice none 0 0)) (bx + 1 + 1) #[.int .i64 0, .bool false, .int .u64 0, .int .u64 0, .string (str []), .slice none 0 0, .slice none 0 0, .int .u64 0, .int .i64 0, .slice none 0 0, .slice none 0 0, .int .u64 (q.length : Int), .int .u64 (total q : Int), .int .u64 (f : Int), .int .u64 (la : Int), .int .i64 t1, .int .i64 t2, .int .i64 sz, .int .i64 0, .slice none 0 0, .int .u64 0, .string ⟨#[]⟩] 47 := hT.set 5 (.slice none 0 0)
  have hT : Blk (((w3.setCell ⟨bx + 1 + 1, 4, none⟩ (.string (str []))).setCell ⟨bx + 1 + 1, 5, none⟩ (.slice none 0 0)).setCell ⟨bx + 1 + 1, 6, none⟩ (.slice none 0 0)) (bx + 1 + 1) #[.int .i64 0, .bool false, .int .u64 0, .int .u64 0, .string (str []), .slice none 0 0, .slice none 0 0, .int .u64 0, .int .i64 0, .slice none 0 0, .slice none 0 0, .int .u64 (q.length : Int), .int .u64 (total q : Int), .int .u64 (f : Int), .int .u64 (la : Int), .int .i64 t1, .int .i64 t2, .int .i64 sz, .int .i64 0, .slice none 0 0, .int .u64 0, .string ⟨#[]⟩] 47 := hT.set 6 (.slice none 0 0)
  have hT : Blk ((((w3.setCell ⟨bx + 1 + 1, 4, none⟩ (.string (str []))).setCell ⟨bx + 1 + 1, 5, none⟩ (.slice none 0 0)).setCell ⟨bx + 1 + 1, 6, none⟩ (.slice none 0 0)).setCell ⟨bx + 1 + 1, 7, none⟩ (.int .u64 0)) (bx + 1 + 1) #[.int .i64 0, .bool false, .int .u64 0, .int .u64 0, .string (str []), .slice none 0 0, .slice none 0 0, .int .u64 0, .int .i64 0, .slice none 0 0, .slice none 0 0, .int .u64 (q.length : Int), .int .u64 (total q : Int), .int .u64 (f : Int), .int .u64 (la : Int), .int .i64 t1, .int .i64 t2, .int .i64 sz, .int .i64 0, .slice none 0 0, .int .u64 0, .string ⟨#[]⟩] 47 := hT.set 7 (.int .u64 0)
  have hT : Blk (((((w3.setCell ⟨bx + 1 + 1, 4, none⟩ (.string (str []))).setCell ⟨bx + 1 + 1, 5, none⟩ (.slice none 0 0)).setCell ⟨bx + 1 + 1, 6, none⟩ (.slice none 0 0)).setCell ⟨bx + 1 + 1, 7, none⟩ (.int .u64 0)).setCell ⟨bx + 1 + 1, 8, none⟩ (.int .i64 0)) (bx + 1 + 1) #[.int .i64 0, .bool false, .int .u64 0, .int .u64 0, .string (str []), .slice none 0 0, .slice none 0 0, .int .u64 0, .int .i64 0, .slice none 0 0, .slice none 0 0, .int .u64 (q.length : Int), .int .u64 (total q : Int), .int .u64 (f : Int), .int .u64 (la : Int), .int .i64 t1, .int .i64 t2, .int .i64 sz, .int .i64 0, .slice none 0 0, .int .u64 0, .string ⟨#[]⟩] 47 := hT.set 8 (.int .i64 0)
  have hT : Blk ((((((w3.setCell ⟨bx + 1 + 1, 4, none⟩ (.string (str []))).setCell ⟨bx + 1 + 1, 5, none⟩ (.slice none 0 0)).setCell ⟨bx + 1 + 1, 6, none⟩ (.slice none 0 0)).setCell ⟨bx + 1 + 1, 7, none⟩ (.int .u64 0)).setCell ⟨bx + 1 + 1, 8, none⟩ (.int .i64 0)).setCell ⟨bx + 1 + 1, 0, none⟩ (.int .i64 0)) (bx + 1 + 1) #[.int .i64 0, .bool false, .int .u64 0, .int .u64 0, .string (str []), .slice none 0 0, .slice none 0 0, .int .u64 0, .int .i64 0, .slice none 0 0, .slice none 0 0, .int .u64 (q.length : Int), .int .u64 (total q : Int), .int .u64 (f : Int), .int .u64 (la : Int), .int .i64 t1, .int .i64 t2, .int .i64 sz, .int .i64 0, .slice none 0 0, .int .u64 0, .string ⟨#[]⟩] 47 := hT.set 0 (.int .i64 0)
  have HT6 : Hid (Blk ((((((w3.setCell ⟨bx + 1 + 1, 4, none⟩ (.string (str []))).setCell ⟨bx + 1 + 1, 5, none⟩ (.slice none 0 0)).setCell ⟨bx + 1 + 1, 6, none⟩ (.slice none 0 0)).setCell ⟨bx + 1 + 1, 7, none⟩ (.int .u64 0)).setCell ⟨bx + 1 + 1, 8, none⟩ (.int .i64 0)).setCell ⟨bx + 1 + 1, 0, none⟩ (.int .i64 0)) (bx + 1 + 1) (told 0 0 zMsg [.int .u64 (q.length : Int), .int .u64 (total q : Int), .int .u64 (f : Int), .int .u64 (la : Int), .int .i64 t1, .int .i64 t2, .int .i64 sz, .int .i64 0, .slice none 0 0, .int .u64 0]).toArray 47) := Lib.hid hT
  have HR6 : Hid (Blk ((((((w3.setCell ⟨bx + 1 + 1, 4, none⟩ (.string (str []))).setCell ⟨bx + 1 + 1, 5, none⟩ (.slice none 0 0)).setCell ⟨bx + 1 + 1, 6, none⟩ (.slice none 0 0)).setCell ⟨bx + 1 + 1, 7, none⟩ (.int .u64 0)).setCell ⟨bx + 1 + 1, 8, none⟩ (.int .i64 0)).setCell ⟨bx + 1 + 1, 0, none⟩ (.int .i64 0)) (bx + 1) #[.int .i64 0, .bool false, .int .u64 0, .int .u64 0, .string ⟨#[]⟩, .slice none 0 0, .slice none 0 0, .int .u64 0, .int .i64 0, .slice none 0 0, .slice none 0 0, .int .u64 0, .int .u64 0, .int .u64 0, .int .u64 0, .int .i64 0, .int .i64 0, .int .i64 0, .int .i64 0, .slice none 0 0, .int .u64 0, .string ⟨#[]⟩] 47) := Lib.hid ((((((HR3.out.setOther (a := ⟨bx + 1 + 1, 4, none⟩) (by simp) _).setOther (a := ⟨bx + 1 + 1, 5, none⟩) (by simp) _).setOther (a := ⟨bx + 1 + 1, 6, none⟩) (by simp) _).setOther (a := ⟨bx + 1 + 1, 7, none⟩) (by simp) _).setOther (a := ⟨bx + 1 + 1, 8, none⟩) (by simp) _).setOther (a := ⟨bx + 1 + 1, 0, none⟩) (by simp) _)
  have HKS : Hid (Kp (fun i => i = bx + 1 + 1 ∨ i = bx + 1) w3 ((((((w3.setCell ⟨bx + 1 + 1, 4, none⟩ (.string (str []))).setCell ⟨bx + 1 + 1, 5, none⟩ (.slice none 0 0)).setCell ⟨bx + 1 + 1, 6, none⟩ (.slice none 0 0)).setCell ⟨bx + 1 + 1, 7, none⟩ (.int .u64 0)).setCell ⟨bx + 1 + 1, 8, none⟩ (.int .i64 0)).setCell ⟨bx + 1 + 1, 0, none⟩ (.int .i64 0))) := Lib.hid (((((((Kp.refl (fun i => i = bx + 1 + 1 ∨ i = bx + 1) w3).setL _).setL _).setL _).setL _).setL _).setL _)
  clear hT
  go_wp2_with (with_reducible refine stop_load rfl ?_)
  refine Lib.hid ?_
  refine wpList_load_mid (by with_reducible rfl) 47 (.tmp 5) (by with_reducible rfl) (bx + 1 + 1) 0 (by rfl) (told 0 0 zMsg [.int .u64 (q.length : Int), .int .u64 (total q : Int), .int .u64 (f : Int), .int .u64 (la : Int), .int .i64 t1, .int .i64 t2, .int .i64 sz, .int .i64 0, .slice none 0 0, .int .u64 0]) _ ?_ Tryz.underlying47 (by rfl) ?_ ?_
  · exact HT6.out.range
  · exact inf47
  refine wpList_store_mid (by with_reducible rfl) 47 (.tmp 4) (.tmp 195) (by with_reducible rfl) (bx + 1) 0 (told 0 0 zMsg [.int .u64 (q.length : Int), .int .u64 (total q : Int), .int .u64 (f : Int), .int .u64 (la : Int), .int .i64 t1, .int .i64 t2, .int .i64 sz, .int .i64 0, .slice none 0 0, .int .u64 0]).toArray (by rfl) (by rfl) ?_ ?_ ?_ ?_
  · exact HR6.out.there (by rfl)
  · exact inf47
  · exact all_oneCell_toArray (told_one zMsg_one (by simp [Value.oneCell']))
  go_wp2_with fail
  have hRF := HR6.out.setAll (told 0 0 zMsg [.int .u64 (q.length : Int), .int .u64 (total q : Int), .int .u64 (f : Int), .int .u64 (la : Int), .int .i64 t1, .int .i64 t2, .int .i64 sz, .int .i64 0, .slice none 0 0, .int .u64 0]) rfl
  have hKF : Kp (fun i => i = bx + 1 + 1 ∨ i = bx + 1) w3 (((((((w3.setCell ⟨bx + 1 + 1, 4, none⟩ (.string (str []))).setCell ⟨bx + 1 + 1, 5, none⟩ (.slice none 0 0)).setCell ⟨bx + 1 + 1, 6, none⟩ (.slice none 0 0)).setCell ⟨bx + 1 + 1, 7, none⟩ (.int .u64 0)).setCell ⟨bx + 1 + 1, 8, none⟩ (.int .i64 0)).setCell ⟨bx + 1 + 1, 0, none⟩ (.int .i64 0)).setCells (bx + 1) 0 (told 0 0 zMsg [.int .u64 (q.length : Int), .int .u64 (total q : Int), .int .u64 (f : Int), .int .u64 (la : Int), .int .i64 t1, .int .i64 t2, .int .i64 sz, .int .i64 0, .slice none 0 0, .int .u64 0])) :=
    HKS.out.trans (Kp.setAll _ _ 0 _ (Kp.refl _ _)) fun _ _ e => .inr e
  refine bodyPost_ret (results_cell_row (P := Tryz.prog) rfl _ _ (bx + 1) 47 _ (0, 0) _ rfl hRF Tryz.underlying47 rfl (by kernel_rfl)) rfl ?_
  have hz1 := HK1.out.size
  have hz2 := HX2.out.size
  have hz3 := HKA.out.size
  refine ⟨⟨_, rfl, t1, t2, sz, rfl⟩, ((HH1.out.keep HX2.out fun _ _ => id).keep HKA.out fun x hx e => e.elim (fun e => hr2O (e ▸ hx)) fun e => hr1O (e ▸ hx)).keep hKF fun x hx e => e.elim (fun e => hr2O (e ▸ hx)) fun e => hr1O (e ▸ hx), ?_⟩
  refine ((((HX0.out.mono fun _ _ e => absurd e id).trans HK1.out fun _ _ e => e).trans HX2.out fun _ _ e => absurd e id).trans HKA.out fun i hi e => ?_).trans hKF fun i hi e => ?_
  · omega
  · omega
end Go.Proofs.YtbehafhkgbjgmaaGreatDoor
