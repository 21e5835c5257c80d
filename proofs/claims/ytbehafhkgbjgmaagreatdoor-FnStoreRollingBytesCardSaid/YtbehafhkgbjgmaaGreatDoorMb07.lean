/-
  The tree of subjects: 'Find' finds what is there, and nothing else. No condition beyond that the texts are short and bear no byte 127.
-/
import Derived.Test.YtbehafhkgbjgmaaGreatDoorMb06
namespace Go.Proofs.YtbehafhkgbjgmaaGreatDoor
open Go Go.RowKit
set_option maxRecDepth 100000

theorem ta_leaf (x : Value) (w : World) : (Instr.typeAssert (.iface 267 x) 199 267 false).run Tryz.prog w = .ok x w := by kernel_rfl

theorem quiet_of_eq {P : Program} {f : FuncId} {args : Array Value} {w : World} {n : Nat} {v : Value}
    (h : Calls P f args (w.drewN n) fun e w' => e = .returned v ∧ w.drewN n = w') : Calls P f args (w.drewN n) fun e w'' => e = .returned v ∧ ∃ m, w'' = w.drewN m :=
  h.mono fun _ _ ⟨he, hm⟩ => ⟨he, n, hm.symm⟩
theorem pivot_int (l : List UInt8) (ao : Option Addr) (cap k : Nat) (K : Int) (w : World) (hS : Sl w ao cap l) (hk : k ≤ 4611686018427387904) (hK : K = k) :
    Calls Tryz.prog 187 #[.slice ao l.length cap, .int .i64 K] w fun e w' => e = .returned (.int .u8 (pvt l k).toNat) ∧ w' = w := by
  subst hK
  exact pivot_any l ao cap k w hS.bytes hS.small hk

/-- The result of 'Find'. -/
def found (x : Option (Nat × SS)) : Ending :=
  match x with
  | some (b, _) => .returned (.tuple #[.pointer (some ⟨b, 0, none⟩), .bool true])
  | none => .returned (.tuple #[.pointer none, .bool false])

set_option maxHeartbeats 2000000 in
theorem find125 (tb d : Nat) (v : Value) (M : List UInt8 → Option (Nat × SS)) (B : Nat → Prop) (l : List UInt8) (ao : Option Addr) (cap : Nat) (w : World)
    (h0 : w.cell? ⟨tb, 0, none⟩ = some v) (hT : IsT w d v M B) (hG : Good M) (hS : Sl w ao cap l) :
    Calls Tryz.prog 125 #[.pointer (some ⟨tb, 0, none⟩), .slice ao l.length cap] w fun e w' => e = found (M l) ∧ Ext w w' := by
  obtain ⟨tt, tb', rfl⟩ := hT.ifc
  have HT := Lib.hid hT
  have HS := Lib.hid hS
  have hsmall : l.length ≤ 4611686018427387904 := hS.small
  have HG := Lib.hid hG
  clear hT hS hG
  go_enter Tryz.func125, Tryz.ntmps125
  go_wp2_with fail
  clear h0
  go_loopg [6, 7] d (fun k s x wr => ∃ (si : Nat) (M' : List UInt8 → Option (Nat × SS)) (B' : Nat → Prop), si ≤ l.length ∧ s = .int .i64 si ∧ Hid (IsT wr k x M' B') ∧ Hid (M' (l.drop si) = M l) ∧ Hid (Good M') ∧ Hid (Ext w wr))
  case atStart => exact ⟨0, M, B, Nat.zero_le _, rfl, HT, by simp [Hid], HG, Kp.refl _ _⟩
  case round =>
    obtain ⟨si, M', B', hsi, rfl, HT', HM, HG', HE⟩ := hrel
    have hT' := HT'.out
    have HSr := Lib.hid (HS.out.ext HE.out)
    cases hT' with
    | leaf d b suf s hB =>
      have hm := m_isLeaf_leaf ⟨b, 0, none⟩
      have hcut := cutEnd36 (w := w) HS.out hsi
      have HSc := Lib.hid (HSr.out.cutEnd hsi)
      generalize l.drop si = r at HM hcut HSc
      have hta := ta_leaf
      have h5 : wr.cell? ⟨b, 5, none⟩ = some (.string (str suf)) := (hB.cell 5).trans rfl
      clear hB
      have hd : r = suf ∨ r ≠ suf := by by_cases h : r = suf; exact .inl h; exact .inr h
      rcases hd with hd | hd
      · have hb : (r == suf) = true := by rw [hd]; simp
        have HR : Hid (found (M l) = .returned (.tuple #[.pointer (some ⟨b, 0, none⟩), .bool true])) := by
          have := HM.out
          simp only [hd, if_true] at this
          rw [← this]; rfl
        clear hd HM
        go_wp2_with (first | (go_at_call 337; refine (leafIsLeaf _ _).mono ?_; rintro e w' ⟨rfl, rfl⟩) | (go_at_call 186; (with_reducible refine (match_any b (str suf) r _ _ _ h5 HSc.out.bytes HSc.out.plain).mono ?_); rw [str_data, hb]; rintro e w1 ⟨rfl, hE1⟩; have HE1 := Lib.hid hE1; clear hE1))
        go_ret2
        exact ⟨by rw [HR.out]; rfl, HE.out.trans HE1.out fun _ _ h => h⟩
      · have hb : (r == suf) = false := by simpa using hd
        have HR : Hid (found (M l) = .returned (.tuple #[.pointer none, .bool false])) := by
          have := HM.out
          simp only [hd, if_false] at this
          rw [← this]; rfl
        clear hd HM
        go_wp2_with (first | (go_at_call 337; refine (leafIsLeaf _ _).mono ?_; rintro e w' ⟨rfl, rfl⟩) | (go_at_call 186; (with_reducible refine (match_any b (str suf) r _ _ _ h5 HSc.out.bytes HSc.out.plain).mono ?_); rw [str_data, hb]; rintro e w1 ⟨rfl, hE1⟩; have HE1 := Lib.hid hE1; clear hE1))
        go_ret2
        exact ⟨by rw [HR.out]; rfl, HE.out.trans HE1.out fun _ _ h => h⟩
    | node d' k b pre n v c M0 B0 hn hN hc he hp hb hd =>
      have hm := m_isLeaf k b
      have hm2 := m_base k b
      have hm3 := m_find k b
      have hm4 := n_find k b
      have hm5 := c_find k
      have hpre := hN.preCell
      have HN := Lib.hid hN
      have HC := Lib.hid hc
      have HP := Lib.hid hp
      have hsz : (str pre).size = pre.length := str_size pre
      have hpl := (HG'.out.pre hN.inj hp (by omega) (he 0 (by omega))).2
      clear hN hc he hp hb hd
      by_cases hz : pre.length = 0
      · obtain rfl : pre = [] := List.eq_nil_of_length_eq_zero hz
        have hsz0 : (str []).size = 0 := rfl
        have hdr : l.drop si = [] ++ l.drop si := rfl
        have hs2 : si ≤ 4611686018427387904 := by omega
        have hpv : Hid (∀ m, Calls Tryz.prog 187 #[.slice ao l.length cap, .int .i64 si] (wr.drewN m) fun e w' => e = .returned (.int .u8 (pvt l si).toNat) ∧ w' = wr.drewN m) := fun m => pivot_int l ao cap si si (wr.drewN m) (HSr.out.keep ((Kp.refl (fun _ => False) wr).drewN _) (fun _ _ _ _ => id)) hs2 rfl
        clear hz hsz hpl
        by_cases hix : ix n c (pvt l (si)) = 0
        · have hfd : Hid (∀ m, Calls Tryz.prog k.fFind #[.pointer (some ⟨b, 0, none⟩), .int .u8 (pvt l (si)).toNat] (wr.drewN m) fun e w' => e = .returned (.pointer none) ∧ wr.drewN m = w') := fun m => by
            have := find_any k b [] n v c (wr.drewN m) (pvt l (si)) (HN.out.drewN m)
            simp only [fres, hix, if_true] at this
            exact this
          have HR : Hid (found (M l) = .returned (.tuple #[.pointer none, .bool false])) := by
            have hj := HM.out
            rw [hdr, join_none fun i hi e => ix_zero hix i hi (by rw [e, pvt_drop])] at hj
            rw [Hid, ← hj]
            rfl
          clear hix HM hdr
          go_wp2_with (first | (go_at_call 345; refine (metaIsLeaf _ _).mono ?_; rintro e w' ⟨rfl, rfl⟩) | (go_at_call 344; refine (metaBase _ _).mono ?_; rintro e w' ⟨rfl, rfl⟩) | go_quiet (first | (go_at_call 187; exact Calls.quiet_of_same (hpv.out _)) | exact quiet_of_eq (hfd.out _)))
          go_ret2
          exact ⟨by rw [HR.out]; rfl, by repeat (first | exact HE.out | refine Kp.drewN ?_ _)⟩
        · obtain ⟨i, hi⟩ : ∃ i, ix n c (pvt l (si)) = i + 1 := ⟨ix n c (pvt l (si)) - 1, by omega⟩
          have hpos := ix_pos hix
          rw [hi, Nat.add_sub_cancel] at hpos
          have hfd : Hid (∀ m, Calls Tryz.prog k.fFind #[.pointer (some ⟨b, 0, none⟩), .int .u8 (pvt l (si)).toNat] (wr.drewN m) fun e w' => e = .returned (.pointer (some ⟨b, i, none⟩)) ∧ wr.drewN m = w') := fun m => by
            have := find_any k b [] n v c (wr.drewN m) (pvt l (si)) (HN.out.drewN m)
            rw [fres, if_neg hix, hi, Nat.add_sub_cancel] at this
            exact this
          have hvi := HN.out.childCell hpos.1
          have HR : Hid (M0 i (l.drop (si)) = M l) := by
            have hj := HM.out
            rw [hdr, join_at HN.out.inj hpos.1 (by rw [pvt_drop, hpos.2])] at hj
            exact hj
          have HT2 := Lib.hid (HC.out i hpos.1)
          obtain ⟨t2, b2, ev⟩ := HT2.out.ifc
          have HG2 : Hid (Good (M0 i)) := HG'.out.sub HN.out.inj HP.out hpos.1
          rw [ev] at hvi HT2
          clear hix hi hpos HM hdr ev
          go_wp2_with (first | (go_at_call 345; refine (metaIsLeaf _ _).mono ?_; rintro e w' ⟨rfl, rfl⟩) | (go_at_call 344; refine (metaBase _ _).mono ?_; rintro e w' ⟨rfl, rfl⟩) | go_quiet (first | (go_at_call 187; exact Calls.quiet_of_same (hpv.out _)) | exact quiet_of_eq (hfd.out _)))
          go_roundg d'
          case measure => omega
          case rel => exact ⟨si, M0 i, B0 i, by omega, by go_num, HT2.out.keep ((Kp.refl (fun _ => False) _).drewN _) (fun _ _ => id), HR, HG2, by repeat (first | exact HE.out | refine Kp.drewN ?_ _)⟩
        
      · have hz' : 0 < pre.length := by omega
        by_cases hml : l.length < si + pre.length
        · have hcut := cut36 (w := w) HS.out hsi (Nat.le_refl _)
          have HSc := Lib.hid (HSr.out.cut hsi (Nat.le_refl _))
          have hno : ¬ ∃ r, l.drop si = pre ++ r := fun ⟨r, e⟩ => by have := congrArg List.length e; simp at this; omega
          have HR : Hid (found (M l) = .returned (.tuple #[.pointer none, .bool false])) := by
            rw [Hid, ← HM.out, join_off hno]
            rfl
          have hne : (l.take l.length).drop si ≠ pre := fun e => by have := congrArg List.length e; simp at this; omega
          generalize (l.take l.length).drop si = r at hcut HSc hne
          have hcv : ∀ n, (convert 36 9 (.slice (cutAt ao cap si) r.length (cap - si))).run Tryz.prog (wr.drewN n) = .ok (.string (str r)) (wr.drewN n) := fun n => conv_str (w := wr.drewN n) HSc.out.bytes HSc.out.plain (cap - si)
          have hq : ((str r).toList == (str pre).toList) = false := by rw [str_toList, str_toList]; simpa using hne
          clear hne hz hno HM
          go_wp2_with (first | (go_at_call 345; refine (metaIsLeaf _ _).mono ?_; rintro e w' ⟨rfl, rfl⟩) | (go_at_call 344; refine (metaBase _ _).mono ?_; rintro e w' ⟨rfl, rfl⟩) | go_quiet (fail))
          go_ret2
          exact ⟨by rw [HR.out]; rfl, HE.out.drewN _⟩
        · have hcut := cut36 (w := w) HS.out (k := si) (m := si + pre.length) (by omega) (by omega)
          have HSc := Lib.hid (HSr.out.cut (k := si) (m := si + pre.length) (by omega) (by omega))
          have hcut' : ∀ w', (Instr.slice 36 (.slice ao l.length cap) (some (.int .i64 si)) (some (.int .i64 ((si : Int) + (pre.length : Int)))) none).run Tryz.prog w' = .ok (.slice (cutAt ao cap si) ((l.take (si + pre.length)).drop si).length (cap - si)) w' := hcut
          clear hcut
          have htk : (l.take (si + pre.length)).drop si = (l.drop si).take pre.length := by rw [List.drop_take]; congr 1; omega
          by_cases heq : (l.drop si).take pre.length = pre
          · have hdr : l.drop si = pre ++ l.drop (si + pre.length) := by
              conv => lhs; rw [← List.take_append_drop pre.length (l.drop si), heq, List.drop_drop]
            rw [← htk] at heq
            clear htk
            generalize (l.take (si + pre.length)).drop si = r at hcut' HSc heq
            subst heq
            have hcv : ∀ n, (convert 36 9 (.slice (cutAt ao cap si) r.length (cap - si))).run Tryz.prog (wr.drewN n) = .ok (.string (str r)) (wr.drewN n) := fun n => conv_str (w := wr.drewN n) HSc.out.bytes HSc.out.plain (cap - si)
            have hs2 : si + r.length ≤ 4611686018427387904 := by omega
            have hpv : Hid (∀ w', Ext wr w' → Calls Tryz.prog 187 #[.slice ao l.length cap, .int .i64 ((si : Int) + (r.length : Int))] w' fun e w'' => e = .returned (.int .u8 (pvt l (si + r.length)).toNat) ∧ w'' = w') := fun w' hx => pivot_int l ao cap (si + r.length) _ w' (HSr.out.ext hx) hs2 rfl
            have hq : ((str r).toList == (str r).toList) = true := by simp
            clear hz
            by_cases hix : ix n c (pvt l (si + r.length)) = 0
            · have hfd : Hid (∀ w', Ext wr w' → Calls Tryz.prog k.fFind #[.pointer (some ⟨b, 0, none⟩), .int .u8 (pvt l (si + r.length)).toNat] w' fun e w'' => e = .returned (.pointer none) ∧ w' = w'') := fun w' hx => by
                have := find_any k b r n v c w' (pvt l (si + r.length)) (HN.out.keep hx id)
                simp only [fres, hix, if_true] at this
                exact this
              have HR : Hid (found (M l) = .returned (.tuple #[.pointer none, .bool false])) := by
                have hj := HM.out
                rw [hdr, join_none fun i hi e => ix_zero hix i hi (by rw [e, pvt_drop])] at hj
                rw [Hid, ← hj]
                rfl
              clear hix HM hdr
              go_wp2_with (first | (go_at_call 345; refine (metaIsLeaf _ _).mono ?_; rintro e w' ⟨rfl, rfl⟩) | (go_at_call 344; refine (metaBase _ _).mono ?_; rintro e w' ⟨rfl, rfl⟩) | go_quiet (fail))
              obtain ⟨w2, hw2⟩ : ∃ w2, wr.drewN nq = w2 := ⟨_, rfl⟩
              rw [hw2]
              have HX : Hid (Ext wr w2) := by rw [← hw2]; exact (Kp.refl _ _).drewN _
              clear hw2
              go_quiet (first | (go_at_call 187; exact Calls.quiet_of_same (hpv.out _ (HX.out.drewN _))) | exact quiet_of_eq (hfd.out _ (HX.out.drewN _)))
              go_wp2_with fail
              go_ret2
              exact ⟨by rw [HR.out]; rfl, ((HE.out.trans HX.out fun _ _ h => h).drewN _)⟩
            · obtain ⟨i, hi⟩ : ∃ i, ix n c (pvt l (si + r.length)) = i + 1 := ⟨ix n c (pvt l (si + r.length)) - 1, by omega⟩
              have hpos := ix_pos hix
              rw [hi, Nat.add_sub_cancel] at hpos
              have hfd : Hid (∀ w', Ext wr w' → Calls Tryz.prog k.fFind #[.pointer (some ⟨b, 0, none⟩), .int .u8 (pvt l (si + r.length)).toNat] w' fun e w'' => e = .returned (.pointer (some ⟨b, i, none⟩)) ∧ w' = w'') := fun w' hx => by
                have := find_any k b r n v c w' (pvt l (si + r.length)) (HN.out.keep hx id)
                rw [fres, if_neg hix, hi, Nat.add_sub_cancel] at this
                exact this
              have hvi := HN.out.childCell hpos.1
              have HR : Hid (M0 i (l.drop (si + r.length)) = M l) := by
                have hj := HM.out
                rw [hdr, join_at HN.out.inj hpos.1 (by rw [pvt_drop, hpos.2])] at hj
                exact hj
              have HT2 := Lib.hid (HC.out i hpos.1)
              obtain ⟨t2, b2, ev⟩ := HT2.out.ifc
              have HG2 : Hid (Good (M0 i)) := HG'.out.sub HN.out.inj HP.out hpos.1
              rw [ev] at hvi HT2
              clear hix hi hpos HM hdr ev
              go_wp2_with (first | (go_at_call 345; refine (metaIsLeaf _ _).mono ?_; rintro e w' ⟨rfl, rfl⟩) | (go_at_call 344; refine (metaBase _ _).mono ?_; rintro e w' ⟨rfl, rfl⟩) | go_quiet (fail))
              obtain ⟨w2, hw2⟩ : ∃ w2, wr.drewN nq = w2 := ⟨_, rfl⟩
              rw [hw2]
              have HX : Hid (Ext wr w2) := by rw [← hw2]; exact (Kp.refl _ _).drewN _
              have hvi2 : w2.cell? ⟨b, i, none⟩ = _ := (HX.out.cell id (HN.out.lt)).trans hvi
              clear hw2
              go_quiet (first | (go_at_call 187; exact Calls.quiet_of_same (hpv.out _ (HX.out.drewN _))) | exact quiet_of_eq (hfd.out _ (HX.out.drewN _)))
              go_wp2_with fail
              go_roundg d'
              case measure => omega
              case rel => exact ⟨si + r.length, M0 i, B0 i, by omega, by go_num, HT2.out.keep (HX.out.drewN _) (fun _ _ => id), HR, HG2, ((HE.out.trans HX.out fun _ _ h => h).drewN _)⟩
        
          · have hno : ¬ ∃ r, l.drop si = pre ++ r := fun ⟨r, e⟩ => heq (by rw [e]; simp)
            have HR : Hid (found (M l) = .returned (.tuple #[.pointer none, .bool false])) := by
              rw [Hid, ← HM.out, join_off hno]
              rfl
            rw [← htk] at heq
            clear htk hno HM
            generalize (l.take (si + pre.length)).drop si = r at hcut' HSc heq
            have hcv : ∀ n, (convert 36 9 (.slice (cutAt ao cap si) r.length (cap - si))).run Tryz.prog (wr.drewN n) = .ok (.string (str r)) (wr.drewN n) := fun n => conv_str (w := wr.drewN n) HSc.out.bytes HSc.out.plain (cap - si)
            have hq : ((str r).toList == (str pre).toList) = false := by rw [str_toList, str_toList]; simpa using heq
            clear heq hz
            go_wp2_with (first | (go_at_call 345; refine (metaIsLeaf _ _).mono ?_; rintro e w' ⟨rfl, rfl⟩) | (go_at_call 344; refine (metaBase _ _).mono ?_; rintro e w' ⟨rfl, rfl⟩) | go_quiet (fail))
            go_ret2
            exact ⟨by rw [HR.out]; rfl, HE.out.drewN _⟩
end Go.Proofs.YtbehafhkgbjgmaaGreatDoor
