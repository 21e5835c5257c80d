/-
  The law FnStoreRollingBytes is true at every input; the arguments read behind the call as before. Conditions: those of the given row.
-/
import Derived.Test.YtbehafhkgbjgmaaGreatDoorMb37
import Derived.Test.YtbehafhkgbjgmaaGreatDoorCards
import Derived.Test.YtbehafhkgbjgmaaGreatDoorTie
import Derived.WalkKit
import Derived.ProofKit
import Derived.OpenShut
import Derived.Carry
import Derived.Deep.DeepHandedRow
import Derived.Deep.DeepWitnessRowRef
import Derived.Lib.LaidU8
import Derived.LaidLaws
import Derived.Lay
import Derived.MakeChecks
namespace Go.Proofs.YtbehafhkgbjgmaaGreatDoor.RollingB
open Go Go.ChangeShapes Go.WideShapes Go.ChangeAt Go.RowKit
set_option maxRecDepth 100000

theorem own : ownKnob Tryz.prog.godebug = none := by kernel_rfl
theorem g2 : Tryz.prog.globalNamed "pub-streamkeep/pub/natsserver/server.ErrStoreEOF" = some 2 := by kernel_rfl
theorem g3 : Tryz.prog.globalNamed "pub-streamkeep/pub/natsserver/server.ErrStoreMsgNotFound" = some 3 := by kernel_rfl
theorem t2 : (Tryz.prog.globals[2]?).map (·.type) = some 59 := by kernel_rfl
theorem t3 : (Tryz.prog.globals[3]?).map (·.type) = some 59 := by kernel_rfl
theorem plainH (W : World) : laidMetH Tryz.prog Rows.fnStoreRollingBytesRow.laid W = laidMet Tryz.prog Rows.fnStoreRollingBytesRow.laid W := MakeChecks.laidMetH_plain _ _ _ (by kernel_rfl)
theorem errs {W : World} (h : laidMetH Tryz.prog Rows.fnStoreRollingBytesRow.laid W) : Errs W := by
  rw [plainH] at h
  have e3 : ("pub-streamkeep/pub/natsserver/server.ErrStoreMsgNotFound", Rows.laid_pub_streamkeep_pub_natsserver_server_ErrStoreMsgNotFound) ∈ Rows.fnStoreRollingBytesRow.laid := by
    unfold Rows.fnStoreRollingBytesRow
    simp only [List.mem_cons, true_or, or_true]
  have e2 : ("pub-streamkeep/pub/natsserver/server.ErrStoreEOF", Rows.laid_pub_streamkeep_pub_natsserver_server_ErrStoreEOF) ∈ Rows.fnStoreRollingBytesRow.laid := by
    unfold Rows.fnStoreRollingBytesRow
    simp only [List.mem_cons, true_or, or_true]
  obtain ⟨ga, ta, ca, fa, pa, a1, a2, a3, a4⟩ := Lib.laidMet.reads h e2
  obtain ⟨gb, tb, cb, fb, pb, b1, b2, b3, b4⟩ := Lib.laidMet.reads h e3
  obtain rfl := Option.some.inj (g2.symm.trans a1)
  obtain rfl := Option.some.inj (g3.symm.trans b1)
  obtain rfl := Option.some.inj (t2.symm.trans a2)
  obtain rfl := Option.some.inj (t3.symm.trans b2)
  obtain ⟨_, u, v, hu, _, _⟩ := iface_of_trod Tryz.underlying59 a4
  obtain ⟨_, u', v', hu', _, _⟩ := iface_of_trod Tryz.underlying59 b4
  have c2 := World.var?_cell g2 a3 0
  have c3 := World.var?_cell g3 b3 0
  rw [← Array.getElem?_toList, hu] at c2
  rw [← Array.getElem?_toList, hu'] at c3
  exact ⟨u, v, u', v', c2, c3⟩
theorem laid_met (os : Os) (args : Array Value) : laidMetH Tryz.prog Rows.fnStoreRollingBytesRow.laid ((World.laidAll Tryz.prog os Rows.fnStoreRollingBytesRow.laid).forCall (fun _ _ => 0) ⟨#[], args, []⟩).memory := by
  rw [plainH]
  exact laidMet_laidAll _ (by kernel_rfl) (by kernel_rfl)
theorem laidOut : laidOutB Tryz.prog = true := by kernel_rfl
theorem contract (H : Type) (enc : TypeId × Value → H) (W : World) (base : Nat) (args : Array Value) (ds gs : List (DataW H)) (before : List MemPlace)
    (hval : ∀ (j : Nat) t v, Tryz.f4.params[j]? = some t → args[j]? = some v → Value.okWide Tryz.prog W .any base t v)
    (hW : DataW.Whole enc Tryz.prog Tryz.f4.params.toList Rows.fnStoreRollingBytesSpec.vars false W args.toList ds gs before) (hL : laidMetH Tryz.prog Rows.fnStoreRollingBytesRow.laid W) :
    Calls Tryz.prog 4 args W fun e W' => ∃ v, e = .returned v ∧ Rows.fnStoreRollingBytesSpec.post enc Tryz.prog Tryz.f4 false true false false W args v W' := by
  have hW' := hW
  obtain ⟨p, q, hA0, hV, rfl, hfz, hnd⟩ := hW
  have hA : DataW.TrodAll enc Tryz.prog W 0 (fun _ => true) true Tryz.f4.params.toList args.toList ds p := hA0
  rw [Tryz.params4] at hA hval
  obtain ⟨v0, vs0, d0, ds0, p0, q0, hargs, rfl, rfl, h0, r0⟩ := trodAll_cons hA
  obtain ⟨v1, vs1, d1, ds1, p1, q1, rfl, rfl, rfl, h1, r1⟩ := trodAll_cons r0
  obtain ⟨rfl, rfl, rfl⟩ := trodAll_nil r1
  obtain rfl : args = #[v0, v1] := by cases args; simp_all
  obtain ⟨rfl, rfl⟩ := trodVars_none hV
  have h0k := h0
  have h1k := h1
  obtain ⟨mm, rfl, rfl, rfl, _⟩ := open_int Tryz.underlying2 (hval 1 2 v1 rfl rfl) h1
  obtain ⟨fuel, hf⟩ := h0
  obtain ⟨a0, len, cap0, rfl⟩ := okWide_slice Tryz.underlying22 (hval 0 22 v0 rfl rfl)
  obtain ⟨ao, cap, vs, hcs, hcap, hcm, hN, hS, hO⟩ := open_steps hf
  simp [Value.cells] at hcs
  obtain ⟨rfl, rfl, rfl⟩ := hcs
  clear hA0 hA hf r0 r1
  simp only [List.append_nil] at hW' h0k
  have hlt : ∀ x ∈ p0, x.block < W.heap.size := fun x hx => by simpa using hW'.lt x (by simpa using hx)
  have hl : vs.length ≤ 9223372036854775807 := Nat.le_trans hcap (Nat.le_trans hcm (by decide))
  refine (rolling4 vs a0 cap0 mm W hS hO hN hl (errs hL)).mono fun e W' ⟨he, hX⟩ => ?_
  subst he
  have hB : Below W.heap.size W W' := hX.below (Nat.le_refl _) fun _ _ h => h
  refine ⟨_, rfl, _, _, _, [], _, [], hW', trodAll_cons_mk (shut_bool Tryz.underlying4 _) trodAll_mk0, trodAll_mk2 (Below.trod laidOut (by kernel_rfl) (of_decide_eq_true (by kernel_rfl)) h0k hB hlt) (Below.trod laidOut (by kernel_rfl) (of_decide_eq_true (by kernel_rfl)) h1k hB (fun x hx => by cases hx)), rfl, hB.frame _, fun h => by cases h⟩

theorem zip (os : Os) : ((World.laidAll Tryz.prog os Rows.fnStoreRollingBytesRow.laid).forCall (fun _ _ => 0) ⟨#[], #[.slice none 0 0, .int .i64 0], []⟩).variablesZipB Tryz.prog = true := by kernel_rfl
theorem rest (os : Os) : (((World.laidAll Tryz.prog os Rows.fnStoreRollingBytesRow.laid).forCall (fun _ _ => 0) ⟨#[], #[.slice none 0 0, .int .i64 0], []⟩).heap.toList.drop Tryz.prog.globals.size).take ((begin Tryz.prog (fun _ _ => 0) default).world.heap.size - Tryz.prog.globals.size) = (begin Tryz.prog (fun _ _ => 0) default).world.heap.toList.drop Tryz.prog.globals.size := by kernel_rfl
theorem okB (os : Os) : Input.okWideB Tryz.prog ((World.laidAll Tryz.prog os Rows.fnStoreRollingBytesRow.laid).forCall (fun _ _ => 0) ⟨#[], #[.slice none 0 0, .int .i64 0], []⟩) 4 ⟨#[], #[.slice none 0 0, .int .i64 0], []⟩ = true := by kernel_rfl
theorem noInit : Tryz.prog.inits.idxOf? 4 = none := by kernel_rfl
theorem named4 : Tryz.prog.funcNamed "pub-streamkeep/laws.FnStoreRollingBytes" = some 4 := by kernel_rfl
theorem wants22 : Tryz.prog.wantsStandIn 22 = false := by kernel_rfl
theorem wants2 : Tryz.prog.wantsStandIn 2 = false := by kernel_rfl
theorem looks0 : true = Tryz.prog.looks [] := by kernel_rfl
theorem reads (os : Os) {H : Type} (enc : TypeId × Value → H) : DataW.whole enc Tryz.prog ((World.laidAll Tryz.prog os Rows.fnStoreRollingBytesRow.laid).forCall (fun _ _ => 0) ⟨#[], #[.slice none 0 0, .int .i64 0], []⟩).memory Tryz.f4.params.toList Rows.fnStoreRollingBytesSpec.vars false #[Value.slice none 0 0, Value.int .i64 0].toList 8 = some ([.nil, .lit (.int .i64 0)], [], []) := by kernel_rfl
theorem sized (os : Os) {H : Type} (enc : TypeId × Value → H) : (OpenSpec.ofChange Rows.fnStoreRollingBytesSpec).bare.sizedB enc Tryz.prog Tryz.f4 false ((World.laidAll Tryz.prog os Rows.fnStoreRollingBytesRow.laid).forCall (fun _ _ => 0) ⟨#[], #[.slice none 0 0, .int .i64 0], []⟩).memory #[.slice none 0 0, .int .i64 0] 8 = true := by kernel_rfl
theorem fits (os : Os) {H : Type} (enc : TypeId × Value → H) : (OpenSpec.ofChange Rows.fnStoreRollingBytesSpec).preRow enc Tryz.prog Tryz.f4 Rows.fnStoreRollingBytesRow.domain false Rows.fnStoreRollingBytesRow.laid ((World.laidAll Tryz.prog os Rows.fnStoreRollingBytesRow.laid).forCall (fun _ _ => 0) ⟨#[], #[.slice none 0 0, .int .i64 0], []⟩).memory #[.slice none 0 0, .int .i64 0] :=
  OpenSpec.preRow_of_cond 8 (reads os enc) rfl (fun k hk => by cases hk) (sized os enc) (laid_met os _)
end Go.Proofs.YtbehafhkgbjgmaaGreatDoor.RollingB
