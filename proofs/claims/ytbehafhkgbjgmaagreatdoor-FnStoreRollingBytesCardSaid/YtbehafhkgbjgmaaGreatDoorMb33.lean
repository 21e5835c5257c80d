/-
  A new store; a step of any kind, and what it leaves. No condition beyond the store and the step.
-/
import Derived.Test.YtbehafhkgbjgmaaGreatDoorMb32
import Derived.Test.YtbehafhkgbjgmaaGreatDoorMb05
import Derived.Test.YtbehafhkgbjgmaaGreatDoorMb01
import Derived.Test.YtbehafhkgbjgmaaGreatDoorMb29
import Derived.OwnWalk
import Derived.Maps.AppendAt
namespace Go.Proofs.YtbehafhkgbjgmaaGreatDoor
open Go Go.RowKit
set_option maxRecDepth 100000

def KGood (K : List (List UInt8)) : Prop := K.length < 48 ∧ ∀ key, key ∈ K → (127 : UInt8) ∉ key ∧ 0 < key.length ∧ key.length ≤ 65536
theorem new22 (m n b : Nat) (K : List (List UInt8)) (hK : KGood K) (w : World) (hB : Blk w b (cfgCells m n) 69) :
    Calls Tryz.prog 22 #[.pointer (some ⟨b, 0, none⟩)] w fun e w' => ∃ ms, e = .returned (.tuple #[.pointer (some ⟨ms, 0, none⟩), .nilIface]) ∧ Ext w w' ∧ ∃ O, Holds w' ms K m n [] 0 0 O ∧ ∀ x, O x → w.heap.size ≤ x := by
  have H62 := Lib.hid (new62 m n b w hB)
  clear hB
  have H28 : Hid (Calls Tryz.prog 28 #[.pointer (some ⟨b, 0, none⟩)] w fun e w' => ∃ ms r tb, e = .returned (.tuple #[.pointer (some ⟨ms, 0, none⟩), .nilIface]) ∧ w.heap.size ≤ ms ∧ w.heap.size ≤ r ∧ w.heap.size ≤ tb ∧ Ext w w' ∧
      Blk w' ms (Sto.cells ⟨0, 0, m, n, 0, 0, 0, 0, 0, 0, r, tb, .pointer none, 0, 0, 0⟩) 91 ∧ MapAt w' r [] ∧ Tr w' tb (fun _ => none) (fun _ => False)) := by
    refine Lib.hid ?_
    go_enter Tryz.func28, Tryz.ntmps28
    go_wp2_with fail
    refine H62.out.mono ?_
    rintro e w1 ⟨ms, r, tb, rfl, hr⟩
    have HR := Lib.hid hr
    clear hr
    go_wp2_with fail
    go_ret2
    exact ⟨ms, r, tb, rfl, HR.out⟩
  go_enter Tryz.func22, Tryz.ntmps22
  go_wp2_with fail
  refine H28.out.mono ?_
  rintro e w1 ⟨ms, r, tb, rfl, hr⟩
  have HR := Lib.hid hr
  clear hr
  go_wp2_with fail
  go_ret2
  obtain ⟨h1, h2, h3, h4, h5, h6, h7⟩ := HR.out
  refine ⟨ms, rfl, h4, _, ⟨_, [], _, _, fun _ => False, ⟨h5, h6, h7, trivial, rfl, .inr ⟨rfl, rfl, rfl⟩, rfl, rfl, by show (0 : Nat) < 60; omega, by simp, fun key h => absurd rfl h, hK, id, id, id, id, id, fun _ h => absurd h id, fun _ h => absurd h id⟩, rfl, rfl, rfl, rfl, rfl, rfl, fun x => Iff.rfl⟩, fun x hx => ?_⟩
  rcases hx with e | e | e | e | e
  · rw [e]; exact h1
  · rw [e]; exact h2
  · rw [e]; exact h3
  · exact absurd e id
  · exact absurd e id

theorem AnsAt.keep {w w' : World} {O O' : Nat → Prop} {cs : List Value} {a : Ans} (h : AnsAt w O cs a) (k : Kp O w w') (hO : ∀ x, O' x → O x ∨ w.heap.size ≤ x) : AnsAt w' O' cs a := by
  cases a with
  | msg s r =>
    obtain ⟨ha, hc, da, dc, h0, h1, h2, h3, h4, h5⟩ := h
    have hi : ∀ ao : Option Addr, In (fun x => x < w.heap.size ∧ ¬ O x) ao → In (fun x => x < w'.heap.size ∧ ¬ O' x) ao := fun ao hi b off s e => by
      have := hi b off s e
      exact ⟨Nat.lt_of_lt_of_le this.1 k.size, fun ho => (hO b ho).elim this.2 fun h => by omega⟩
    exact ⟨ha, hc, da, dc, h0, h1.keep k fun b off s e hb => (h3 b off s e).2 hb, h2.keep k fun b off s e hb => (h4 b off s e).2 hb, hi ha h3, hi da h4, h5⟩
  | deed => exact h
  | state _ _ _ _ => exact h
  | none => exact h
theorem AnsAt.row {w : World} {O : Nat → Prop} {cs : List Value} {a : Ans} (h : AnsAt w O cs a) : cs.length = 22 ∧ ∀ u, u ∈ cs → u.oneCell' = true := by
  cases a with
  | msg s r => obtain ⟨ha, hc, da, dc, rfl, _⟩ := h; exact ⟨rfl, told_one (by simp [Value.oneCell']) zSt_one⟩
  | deed => obtain ⟨num, rfl⟩ := h; exact ⟨rfl, told_one zMsg_one zSt_one⟩
  | state _ _ _ _ => obtain ⟨t1, t2, sz, rfl⟩ := h; exact ⟨rfl, told_one zMsg_one (by simp [Value.oneCell'])⟩
  | none => cases (show cs = _ from h); exact ⟨rfl, told_one zMsg_one zSt_one⟩
/-- The answers so far: a row of the call's own, in no block of O. -/
def Outs (w : World) (O : Nat → Prop) (base : Nat) (V : Value) (an : List Ans) : Prop :=
  ∃ css : List (List Value), css.length = an.length ∧ w.ownsRow base 47 22 V an.length css.flatten ∧ (∀ b, V.ownBlock = some b → ¬ O b) ∧ ∀ (i : Nat) (cs : List Value) (a : Ans), css[i]? = some cs → an[i]? = some a → AnsAt w (fun x => O x ∨ V.ownBlock = some x) cs a
theorem Kp.grownNone {O : Nat → Prop} {w w' : World} (k : Kp O w w') {V : Value} {base e sz nn : Nat} {xs : List Value} (h : w.ownsRow base e sz V nn xs) (hO : ∀ b, V.ownBlock = some b → ¬ O b) : w'.ownsRow base e sz V nn xs := by
  refine ⟨h.1, ?_⟩
  rcases h.2 with hn | ⟨g, cap, cur, rfl, hb, hgg, rest⟩
  · exact .inl hn
  · exact .inr ⟨g, cap, cur, rfl, hb, (k.block g (Array.getElem?_eq_some_iff.1 hgg).1 (hO g rfl)).trans hgg, rest⟩
theorem Outs.keep {w w' : World} {O O' : Nat → Prop} {base : Nat} {V : Value} {an : List Ans} (h : Outs w O base V an) (k : Kp O w w') (hO : ∀ x, O' x → O x ∨ w.heap.size ≤ x) : Outs w' O' base V an := by
  obtain ⟨css, h1, h2, h3, h4⟩ := h
  exact ⟨css, h1, k.grownNone h2 h3, fun b hb ho => (hO b ho).elim (h3 b hb) fun h => by have := (h2.lt b hb).2; omega, fun i cs a hc ha => (h4 i cs a hc ha).keep (k.mono fun _ _ e => .inl e) fun x hx => hx.elim (fun h => (hO x h).imp .inl id) fun h => .inl (.inr h)⟩

/-- The store between two steps, as plain data. -/
structure PS where
  q : List Rec
  f : Nat
  la : Nat
/-- A step, what the store is behind it, and what it answers. -/
inductive StepRel (K : List (List UInt8)) (m n : Nat) : PS → StepV → PS → Ans → Prop where
  | store (ps : PS) (v : StepV) (hop : v.op = 0) (hla : ps.la < 59) (hk : v.subj ∈ K) (hs : v.rc.size ≤ 65536) : StepRel K m n ps v ⟨put m n ps.q v.rc, firstOf (ps.la + 1) (put m n ps.q v.rc), ps.la + 1⟩ .deed
  | hit (ps : PS) (v : StepV) (i sq : Nat) (r : Rec) (hop : v.op = 20) (hsq : v.seq = (sq : Int)) (hi : ps.q[i]? = some r) (he : ps.f + i = sq) (hs : r.size ≤ 65536) : StepRel K m n ps v ps (.msg sq r)
  | miss (ps : PS) (v : StepV) (sq : Nat) (hop : v.op = 20) (hsq : v.seq = (sq : Int)) (hq : ps.q = []) (hle : sq ≤ ps.la) : StepRel K m n ps v ps .none
  | state (ps : PS) (v : StepV) (hop : v.op = 32) : StepRel K m n ps v ps (.state ps.q.length (total ps.q) ps.f ps.la)

/-- What a step leaves. -/
def Stepped (ms : Nat) (K : List (List UInt8)) (m n : Nat) (O : Nat → Prop) (ps : PS) (a : Ans) (w : World) (e : Ending) (w' : World) : Prop :=
  ∃ cs : List Value, e = .returned (.agg cs.toArray) ∧ ∃ O' : Nat → Prop, AnsAt w' (fun x => O' x ∨ x < w.heap.size) cs a ∧ Holds w' ms K m n ps.q ps.f ps.la O' ∧ Kp O w w' ∧ ∀ x, O' x → O x ∨ w.heap.size ≤ x
theorem step_any {ms m n : Nat} {K : List (List UInt8)} {O : Nat → Prop} {ps ps' : PS} {v : StepV} {a : Ans} {w : World} (hR : StepRel K m n ps v ps' a) (hH : Holds w ms K m n ps.q ps.f ps.la O) (hmb : m ≤ 1048576) (hnb : n ≤ 1048576) (hE : Errs w) (h2 : ¬ O 2) (h3 : ¬ O 3)
    (hHB : Bs w v.ha v.hc v.hdr) (hDB : Bs w v.da v.dc v.data) :
    (v.op = 0 ∧ Calls Tryz.prog 25 #[.pointer (some ⟨ms, 0, none⟩), v.agg] w (Stepped ms K m n O ps' a w)) ∨ ((v.op = 20 ∨ v.op = 32) ∧ Calls Tryz.prog 26 #[.pointer (some ⟨ms, 0, none⟩), v.agg] w (Stepped ms K m n O ps' a w)) := by
  cases hR with
  | store hop hla hk hs =>
    refine .inl ⟨hop, (deed25 ms m n K ps.q ps.f ps.la O v w hH hop hmb hnb hla hk hs hHB hDB).mono ?_⟩
    rintro e w' ⟨⟨num, rfl⟩, O', g1, g2, g3⟩
    exact ⟨_, rfl, O', ⟨num, rfl⟩, g1, g2, g3⟩
  | hit i sq r hop hsq hi he hs =>
    refine .inr ⟨.inl hop, (ask_hit ms m n K ps.f ps.la O v w ps.q i sq r hH hop hsq hi he hs).mono ?_⟩
    rintro e w' ⟨⟨cs, rfl, g1⟩, g2, g3⟩
    exact ⟨_, rfl, O, g1, g2, g3, fun x hx => .inl hx⟩
  | miss sq hop hsq hq hle =>
    rw [hq] at hH
    refine .inr ⟨.inl hop, (ask_miss ms m n K ps.f ps.la O v w hH hop sq hsq hle hE h2 h3).mono ?_⟩
    rintro e w' ⟨⟨cs, rfl, g1⟩, g2, g3⟩
    exact ⟨_, rfl, O, g1, by rw [hq]; exact g2, g3, fun x hx => .inl hx⟩
  | state hop =>
    refine .inr ⟨.inr hop, (ask_state ms m n K ps.f ps.la O v w ps.q hH hop).mono ?_⟩
    rintro e w' ⟨⟨cs, rfl, g1⟩, g2, g3⟩
    exact ⟨_, rfl, O, g1, g2, g3, fun x hx => .inl hx⟩
end Go.Proofs.YtbehafhkgbjgmaaGreatDoor

/-
  A text is cut at its points. No condition but that it is not too long.
-/
namespace Go.Proofs.YtbehafhkgbjgmaaGreatDoor
open Go Go.RowKit
set_option maxRecDepth 100000

theorem stop_here' {p : Prop} (h : Hid p) : p := h.out
theorem inf9 : ∃ i, Tryz.prog.info? 9 = some i ∧ i.zero = some (.string ⟨#[]⟩) ∧ i.size = 1 ∧ i.bytes = 16 := by
  have h : (Tryz.prog.info? 9).map (fun i => (i.zero, i.size, i.bytes)) = some (some (.string ⟨#[]⟩), 1, 16) := by kernel_rfl
  exact info_parts h
def strs (l : List (List UInt8)) : List Value := l.map fun t => .string (str t)
theorem strs_append (a b : List (List UInt8)) : strs (a ++ b) = strs a ++ strs b := by simp [strs]
theorem strs_length (l : List (List UInt8)) : (strs l).length = l.length := by simp [strs]
theorem strs_one (l : List (List UInt8)) : ∀ u, u ∈ strs l → u.oneCell' = true := by
  intro u hu
  simp [strs] at hu
  obtain ⟨a, _, rfl⟩ := hu
  rfl
theorem str_app2 (a b : List UInt8) : str a ++ str b = str (a ++ b) := ByteArray.mk_append_mk a b
theorem str_slice (W : World) (l : List UInt8) (j : Nat) (hj : j < l.length) :
    (Instr.slice 9 (.string (str l)) (some (.int .i64 j)) (some (.int .i64 ((j : Int) + 1))) none).run Tryz.prog W = .ok (.string (str [l[j]])) W := by
  rw [run_slice_string W 9 (str l) .i64 .i64 j (j + 1) Tryz.underlying9 (by omega) (by omega) (by rw [str_size]; omega)]
  congr 2
  have e : ((j : Int) + 1).toNat = j + 1 := by omega
  rw [e]
  unfold str
  rw [ByteArray.extract_mk]
  congr 2
  have e1 : (j : Int).toNat = j := by omega
  rw [e1, List.drop_eq_getElem_cons hj]
  have e2 : j + 1 - j = 1 := by omega
  rw [e2, List.take_succ_cons, List.take_zero]
theorem str_index (W : World) (l : List UInt8) (j : Nat) (hj : j < l.length) : (Instr.index 9 (.string (str l)) (.int .i64 j)).run Tryz.prog W = .ok (.int .u8 (l[j].toNat : Int)) W := by
  rw [run_index_string W 9 (str l) .i64 j Tryz.underlying9, dif_pos ⟨by omega, by rw [str_size]; omega⟩]
  congr 3
theorem str_join (W : World) (a b : List UInt8) (ha : a.length ≤ 2147483647) (hb : b.length ≤ 2147483647) : (binOp .add 9 (.string (str a)) (.string (str b))).run Tryz.prog W = .ok (.string (str (a ++ b))) W := by
  rw [binOp_string_add, run_string_add_sum W _ _ (by rw [str_size, str_size]; omega), str_app2]

/-- A row of texts that the call made. -/
theorem own_strs {w : World} {base : Nat} {v : Value} {l : List (List UInt8)} {n : Nat} (h : w.ownsRow base 9 1 v n (strs l)) : ∃ ao cap, v = .slice ao l.length cap ∧ StrsAt w ao l := by
  have hn : n = l.length := by have := h.1; rw [strs_length] at this; omega
  subst hn
  have hc := fun g => h.cells (g := g)
  rcases h.2 with ⟨rfl, h0⟩ | ⟨g, cap, cur, rfl, _⟩
  · exact ⟨none, 0, by rw [h0], fun i hi => by omega⟩
  · refine ⟨_, cap, rfl, fun i hi => ⟨g, 0, rfl, ?_⟩⟩
    have := hc g rfl i (.string (str l[i])) (by simp [strs, hi])
    rwa [show (⟨g, 0, none⟩ : Addr).add i = ⟨g, 0 + i, none⟩ by unfold Addr.add; split <;> simp_all] at this
theorem own_kept_ext {w w' : World} {base : Nat} {e : TypeId} {k : Nat} {v : Value} {n : Nat} {xs : List Value} (h : w.ownsRow base e k v n xs) (hX : Ext w w') : w'.ownsRow base e k v n xs :=
  h.kept (row := none) ⟨hX.os, hX.tape, hX.output, hX.size, fun j hj _ => hX.block j hj id⟩ (by cases hv : v.ownBlock <;> simp)

set_option maxHeartbeats 2000000 in
theorem tokens27 (l : List UInt8) (w : World) (hl : l.length ≤ 2147483647) : Calls Tryz.prog 27 #[.string (str l)] w fun e w' => (∃ ao cap, e = .returned (.slice ao (tokens l).length cap) ∧ StrsAt w' ao (tokens l)) ∧ Ext w w' := by
  obtain ⟨i0, hi, hz0, hz1, hz2⟩ := inf9
  have hsz : (str l).size = l.length := str_size _
  have HI := Lib.hid (fun W j hj => str_index W l j hj)
  have HS := Lib.hid (fun W j hj => str_slice W l j hj)
  generalize hS : str l = S at HI HS hsz
  have hS0 := Lib.hid hS
  clear hS
  generalize hn : l.length = n at hl hsz
  go_enter Tryz.func27, Tryz.ntmps27
  go_wp2_with fail
  go_loopw [3, 4, 5] (fun v t x wr => ∃ j : Nat, j ≤ n ∧ x = .int .i64 j ∧ t = .string (str (toks (l.take j)).2) ∧ Hid (wr.ownsRow w.heap.size 9 1 v (toks (l.take j)).1.length (strs (toks (l.take j)).1)) ∧ Hid (Ext w wr)) (fun _ _ x _ => n - (intOf x).toNat)
  case atStart => exact ⟨0, Nat.zero_le _, rfl, by simp [toks]; rfl, Lib.hid (World.ownsRow_nil _ _ _ _), Lib.hid (Kp.refl _ _)⟩
  case round =>
    obtain ⟨j, hj, rfl, rfl, hown, hX⟩ := hrel
    have htl := toks_len (l.take j)
    have hlt : (l.take j).length ≤ j := by simp; omega
    by_cases hjn : j < n
    · have hidx := HI.out wr j (by omega)
      have hslc := HS.out
      have ht := Lib.hid (show toks (l.take (j + 1)) = tokStep (toks (l.take j)) (l[j]'(by omega)) by rw [List.take_succ_eq_append_getElem (by omega), toks_snoc])
      have hk2 : (toks (l.take j)).2.length ≤ 2147483647 := by have := htl.2 (toks (l.take j)).2 (by simp [tokens]); omega
      have hk1 : (toks (l.take j)).1.length ≤ 2147483647 := by omega
      generalize toks (l.take j) = T at hown ht hk1 hk2
      obtain ⟨T1, T2⟩ := T
      clear htl hlt
      have hjo := str_join
      simp only at hown ht hk1 hk2 ⊢
      generalize hk1' : T1.length = k1 at hown hk1
      by_cases hc : l[j]'(by omega) = 46
      · have hc' : ((l[j]'(by omega)).toNat : Int) = 46 := by rw [hc]; rfl
        rw [hc'] at hidx
        rw [hc] at ht
        clear hc hc' hslc hjo
        have hmx : k1 + 1 ≤ maxLen := by unfold maxLen; omega
        have hxs := hX.out.size
        go_wp2_with (at_builtin; refine wpList_append_own _ rfl (.tmp 16) (.tmp 18) 42 rfl w.heap.size 9 i0 (.string ⟨#[]⟩) 1 16 Tryz.underlying42 hi hz0 hz1 hz2 rfl (by decide) _ k1 (strs T1) rfl (hown.out.alloc _) ⟨wr.heap.size, 0, none⟩ 1 1 (strs [T2]) rfl (by simp [strs]) (by intro q u hu; match q, hu with | 0, hu => simp [strs] at hu; subst hu; simp [World.cell?_alloc_mark, Addr.add]) (strs_one _) hmx (by omega) (by simp; omega) ?_; intro v1 w1 hown1 hgrow _)
        have HO1 := Lib.hid hown1
        have HX1 : Hid (Ext w w1) := Lib.hid (Kp.grown (hX.out.alloc _) hgrow fun k hk => .inr (hown.out.lt k hk).1)
        clear hown1 hgrow
        rw [← strs_append] at HO1
        go_wp2_with fail
        go_roundw
        case measure => simp [intOf]; omega
        case rel =>
          refine ⟨j + 1, by omega, by simp, ?_, ?_, HX1⟩
          · rw [ht.out]; simp [tokStep]; rfl
          · rw [ht.out]; simp only [tokStep, if_pos]; rw [List.length_append, hk1']; exact HO1
      · have hc' : ¬ ((l[j]'(by omega)).toNat : Int) = 46 := fun e => hc (UInt8.toNat_inj.1 (by simpa using (by omega : (l[j]'(by omega)).toNat = 46)))
        have hslj := HS.out wr j (by omega)
        have hjoj := str_join wr T2 [l[j]'(by omega)] hk2 (by simp)
        have ht := Lib.hid (show toks (l.take (j + 1)) = (T1, T2 ++ [l[j]'(by omega)]) by rw [ht.out, tokStep, if_neg hc])
        clear hc hslc hjo hjoj
        generalize l[j]'(by omega) = c at hidx hc' hslj ht
        have hz2 : (str T2).size = T2.length := str_size _
        have hz3 : (str [c]).size = 1 := str_size _
        generalize T2.length = k2 at hk2 hz2
        go_wp2_with fail
        go_roundw
        case measure => simp [intOf]; omega
        case rel =>
          refine ⟨j + 1, by omega, by simp, ?_, ?_, hX⟩
          · rw [ht.out, str_app2]
          · rw [ht.out]; simp only; rw [hk1']; exact hown
    · have ht := Lib.hid (show toks (l.take j) = toks l by rw [List.take_of_length_le (by omega)])
      have hk1 : (toks (l.take j)).1.length ≤ 2147483647 := by omega
      rw [ht.out] at hown hk1
      have HT : Hid (tokens l = (toks l).1 ++ [(toks l).2]) := Lib.hid rfl
      rw [ht.out]
      clear htl hlt ht
      generalize toks l = T at hown HT hk1
      obtain ⟨T1, T2⟩ := T
      simp only at hown HT hk1 ⊢
      generalize hk1' : T1.length = k1 at hown hk1
      have hmx : k1 + 1 ≤ maxLen := by unfold maxLen; omega
      have hxs := hX.out.size
      go_wp2_with (at_builtin; refine wpList_append_own _ rfl (.tmp 27) (.tmp 29) 42 rfl w.heap.size 9 i0 (.string ⟨#[]⟩) 1 16 Tryz.underlying42 hi hz0 hz1 hz2 rfl (by decide) _ k1 (strs T1) rfl (hown.out.alloc _) ⟨wr.heap.size, 0, none⟩ 1 1 (strs [T2]) rfl (by simp [strs]) (by intro q u hu; match q, hu with | 0, hu => simp [strs] at hu; subst hu; simp [World.cell?_alloc_mark, Addr.add]) (strs_one _) hmx (by omega) (by simp; omega) ?_; intro v1 w1 hown1 hgrow _)
      have HX1 : Hid (Ext w w1) := Lib.hid (Kp.grown (hX.out.alloc _) hgrow fun k hk => .inr (hown.out.lt k hk).1)
      rw [← strs_append, ← HT.out] at hown1
      obtain ⟨ao, cap, rfl, hS⟩ := own_strs hown1
      clear hown1 hgrow
      have HS1 := Lib.hid hS
      clear hS
      go_wp2_with fail
      go_ret
      exact ⟨⟨_, _, rfl, HS1.out⟩, HX1.out⟩
end Go.Proofs.YtbehafhkgbjgmaaGreatDoor

/-
  A script is played over a new store. No condition beyond the script.
-/
namespace Go.Proofs.YtbehafhkgbjgmaaGreatDoor
open Go Go.RowKit
set_option maxRecDepth 100000

theorem stop_load44 {ops : Array Oper} {rest : List Oper} {o : Oper} {a : Act} {w : World} {Q : Exit → Act → World → Prop} {x : Operand} (_hop : o.op = .load 44 x) (h : Hid (wpList Tryz.prog ops Q (o :: rest) a w)) : wpList Tryz.prog ops Q (o :: rest) a w := h.out
theorem fold_row : ∀ (vs : List Value) (o : Nat) (cs : Array Value), o + vs.length ≤ cs.size → ∀ i : Nat, ((vs.zipIdx o).foldl (fun (cs : Array Value) (x : Value × Nat) => cs.setIfInBounds x.snd x.fst) cs)[i]? = if o ≤ i ∧ i < o + vs.length then vs[i - o]? else cs[i]?
  | [], o, cs, _, i => by simp; intro h1 h2; omega
  | v :: vs, o, cs, h, i => by
    simp only [List.length_cons] at h
    rw [List.zipIdx_cons, List.foldl_cons, fold_row vs (o + 1) (cs.setIfInBounds o v) (by simp; omega) i]
    simp only [List.length_cons]
    by_cases hi : i = o
    · subst hi
      rw [if_neg (by omega), if_pos (by omega), Array.getElem?_setIfInBounds_self_of_lt (by omega)]
      simp
    · by_cases h4 : o + 1 ≤ i ∧ i < o + 1 + vs.length
      · rw [if_pos h4, if_pos (by omega)]
        obtain ⟨j, rfl⟩ : ∃ j, i = o + 1 + j := ⟨i - (o + 1), by omega⟩
        have e1 : o + 1 + j - (o + 1) = j := by omega
        have e2 : o + 1 + j - o = j + 1 := by omega
        rw [e1, e2, List.getElem?_cons_succ]
      · rw [if_neg h4, if_neg (by omega), Array.getElem?_setIfInBounds_ne (fun e => hi e.symm)]
theorem fold_all (vs : List Value) (cs : Array Value) (hl : vs.length = cs.size) : vs.zipIdx.foldl (fun (cs : Array Value) (x : Value × Nat) => cs.setIfInBounds x.snd x.fst) cs = vs.toArray := by
  apply Array.ext_getElem?
  intro i
  rw [fold_row vs 0 cs (by omega) i]
  by_cases hi : i < vs.length
  · rw [if_pos (by omega)]; simp
  · rw [if_neg (by omega)]
    have : ¬ i < cs.size := by omega
    simp [hi, this]
theorem inf44 : (Tryz.prog.info? 44).map (·.size) = some 16 := by kernel_rfl
theorem inf47w : ∃ i, Tryz.prog.info? 47 = some i ∧ i.zero = some (.agg (told 0 0 zMsg zSt).toArray) ∧ i.size = 22 ∧ i.bytes = 272 := by
  have h : (Tryz.prog.info? 47).map (fun i => (i.zero, i.size, i.bytes)) = some (some (.agg (told 0 0 zMsg zSt).toArray), 22, 272) := by kernel_rfl
  exact info_parts h
theorem StepsAt.range {w : World} {b off j : Nat} {vs : List StepV} (h : StepsAt w (Option.some ⟨b, off, Option.none⟩) vs) (hj : j < vs.length) : w.rangeAt b (off + j * 16) vs[j].cells := by
  obtain ⟨b', off', e, hc⟩ := h j hj
  simp only [Option.some.injEq, Addr.mk.injEq] at e
  obtain ⟨rfl, rfl, _⟩ := e
  intro k v hk
  rw [Nat.add_assoc]
  exact hc k v hk
theorem Outs.more {O : Nat → Prop} {base : Nat} {V' : Value} {an : List Ans} {a : Ans} {cs : List Value} {w' : World} {css : List (List Value)} (hl : css.length = an.length) (ho : w'.ownsRow base 47 22 V' (an.length + 1) (css.flatten ++ cs)) (hb : ∀ b, V'.ownBlock = some b → ¬ O b)
    (h : ∀ (i : Nat) (cs : List Value) (a : Ans), css[i]? = some cs → an[i]? = some a → AnsAt w' (fun x => O x ∨ V'.ownBlock = some x) cs a) (hc : AnsAt w' (fun x => O x ∨ V'.ownBlock = some x) cs a) : Outs w' O base V' (an ++ [a]) := by
  refine ⟨css ++ [cs], by simp [hl], by simpa using ho, hb, fun i c x hi hx => ?_⟩
  by_cases h1 : i < css.length
  · rw [List.getElem?_append_left h1] at hi
    rw [List.getElem?_append_left (by omega)] at hx
    exact h i c x hi hx
  · rw [List.getElem?_append_right (by omega)] at hi hx
    have e1 : i - css.length = 0 := by
      have := (List.getElem?_eq_some_iff.1 hi).1
      simp at this; omega
    rw [e1] at hi
    rw [← hl, e1] at hx
    simp at hi hx
    subst hi hx
    exact hc

set_option maxHeartbeats 4000000 in
theorem store17 (m n : Nat) (K : List (List UInt8)) (hK : KGood K) (vs : List StepV) (ao : Option Addr) (cap : Nat) (ps : Nat → PS) (an : List Ans) (w : World) (hS : StepsAt w ao vs) (hBs : ∀ v, v ∈ vs → Bs w v.ha v.hc v.hdr ∧ Bs w v.da v.dc v.data) (h0 : ps 0 = ⟨[], 0, 0⟩) (hl : an.length = vs.length)
    (hR : ∀ (i : Nat) (v : StepV) (a : Ans), vs[i]? = some v → an[i]? = some a → StepRel K m n (ps i) v (ps (i + 1)) a) (hn : vs.length ≤ 1000) (hmb : m ≤ 1048576) (hnb : n ≤ 1048576) (hE : Errs w) :
    Calls Tryz.prog 17 #[confAgg m n, .slice ao vs.length cap] w fun e w' => (∃ V, e = .returned V ∧ Outs w' (fun _ => False) w.heap.size V an) ∧ Ext w w' := by
  obtain ⟨i0, hi, hy0, hy1, hy2⟩ := inf47w
  have hw2 : 3 < w.heap.size := by obtain ⟨_, _, _, _, _, g3⟩ := hE; exact World.block_lt_of_cell? w _ g3
  have HS := Lib.hid hS
  have HBs := Lib.hid hBs
  have HR := Lib.hid hR
  have HE := Lib.hid hE
  clear hS hBs hR hE
  unfold confAgg
  generalize hk : vs.length = k at hl hn
  go_enter Tryz.func17, Tryz.ntmps17
  go_wp2_with fail
  refine (limits23 m n _).mono ?_
  rintro e w1 ⟨b, rfl, hb, hB1, hX1⟩
  have HX1 : Hid (Ext w w1) := Lib.hid (((Kp.refl _ _).alloc _).trans hX1 fun _ _ h => h)
  have H22 := Lib.hid (new22 m n b K hK w1 hB1)
  clear hB1 hX1 hb
  go_wp2_with fail
  refine H22.out.mono ?_
  rintro e w2 ⟨ms, rfl, hX2, O, hH, hO⟩
  have HX2 : Hid (Ext w w2) := Lib.hid (HX1.out.trans hX2 fun _ _ h => h)
  have hz1 := HX1.out.size
  have hms := hO ms hH.ms
  have HI : Hid (∃ O, Holds w2 ms K m n (ps 0).q (ps 0).f (ps 0).la O ∧ (∀ x, O x → w.heap.size ≤ x) ∧ Outs w2 O w.heap.size (.slice none 0 0) (an.take 0)) :=
    Lib.hid ⟨O, by rw [h0]; exact hH, fun x hx => Nat.le_trans hz1 (hO x hx), [], rfl, World.ownsRow_nil _ _ _ _, fun b hb => by simp [Value.ownBlock] at hb, fun i cs a hc => by simp at hc⟩
  clear hX2 hH hO H22
  go_wp2_with fail
  go_loopw [7, 8] (fun V x wr => ∃ j : Nat, j ≤ k ∧ x = .int .i64 j ∧ Hid (∃ O, Holds wr ms K m n (ps j).q (ps j).f (ps j).la O ∧ (∀ x, O x → w.heap.size ≤ x) ∧ Outs wr O w.heap.size V (an.take j)) ∧ Hid (Ext w wr)) (fun _ x _ => k - (intOf x).toNat)
  case atStart => exact ⟨0, Nat.zero_le _, rfl, HI, HX2⟩
  case round =>
    obtain ⟨j, hj, rfl, hI, hX⟩ := hrel
    clear HI HX2 HX1
    by_cases hjn : j < k
    · obtain ⟨b0, off, rfl⟩ := HS.out.some (j := j) (by omega)
      have hjv : j < vs.length := by omega
      have HC : Hid (∀ W, Ext w W → StepC W b0 (off + j * 16) vs[j]) := Lib.hid fun W hW => (HS.out.at hjv).keep hW id
      have HG : Hid (∀ W, Ext w W → W.rangeAt b0 (off + j * 16) vs[j].cells) := Lib.hid fun W hW => (HS.out.keep hW fun _ _ _ _ => id).range hjv
      have HBv : Hid (∀ W, Ext w W → Bs W vs[j].ha vs[j].hc vs[j].hdr ∧ Bs W vs[j].da vs[j].dc vs[j].data) := Lib.hid fun W hW => by
        have := HBs.out _ (List.getElem_mem hjv)
        exact ⟨⟨this.1.1.keep hW fun _ _ _ _ => id, this.1.2⟩, ⟨this.2.1.keep hW fun _ _ _ _ => id, this.2.2⟩⟩
      obtain ⟨a, ha⟩ : ∃ a, an[j]? = some a := ⟨an[j]'(by omega), by simp⟩
      have HRj := Lib.hid (HR.out j vs[j] a (by simp) ha)
      have HA := Lib.hid ha
      clear ha
      generalize hvj : vs[j] = v at HC HG HBv HRj
      clear hvj
      obtain ⟨O, hH, hO, hOut⟩ := hI.out
      have HH := Lib.hid hH
      have HO := Lib.hid hO
      have HOut := Lib.hid hOut
      clear hH hO hOut hI
      have c0 : wr.cell? ⟨b0, off + j * 16, none⟩ = some (.int .i64 v.op) := (HC.out wr hX.out).c0
      have c4 : wr.cell? ⟨b0, off + j * 16 + 4, none⟩ = some (.int .i64 v.time) := (HC.out wr hX.out).c4
      go_wp2_with fail
      refine (clockH ms v.time wr HH.out).mono ?_
      rintro e w3 ⟨rfl, hH3, hK3⟩
      have HX3 : Hid (Ext w w3) := Lib.hid (hX.out.trans hK3 fun i hi h => by have := HO.out i h; omega)
      have HH3 := Lib.hid hH3
      have HOut3 := Lib.hid (HOut.out.keep hK3 fun x hx => .inl hx)
      clear hH3 hK3 c0 c4 HOut HH
      have c0 : w3.cell? ⟨b0, off + j * 16, none⟩ = some (.int .i64 v.op) := (HC.out w3 HX3.out).c0
      have hO2 : ¬ O 2 := fun h => by have := HO.out 2 h; omega
      have hO3 : ¬ O 3 := fun h => by have := HO.out 3 h; omega
      rcases step_any HRj.out HH3.out hmb hnb (HE.out.keep HX3.out id id) hO2 hO3 (HBv.out w3 HX3.out).1 (HBv.out w3 HX3.out).2 with ⟨hop, hC⟩ | ⟨hop, hC⟩
      · have HCa := Lib.hid hC
        clear hC
        go_wp2_with (with_reducible refine stop_load44 rfl ?_)
        refine Lib.hid ?_
        refine wpList_load_mid (by with_reducible rfl) 44 (.tmp 40) (by with_reducible rfl) b0 (off + j * 16) (by rfl) v.cells _ ?_ Tryz.underlying44 (by rfl) ?_ ?_
        · exact HG.out w3 HX3.out
        · exact inf44
        go_wp2_with fail
        refine HCa.out.mono ?_
        rintro e w4 ⟨cs, rfl, O', hAns, hH4, hK4, hO4⟩
        have HU3 : Hid (∀ x, u7.ownBlock = some x → x < w3.heap.size) := Lib.hid fun x hx => by
          obtain ⟨css, g1, g2, g3, g4⟩ := HOut3.out
          exact (g2.lt x hx).2
        obtain ⟨css, g1, g2, g3, g4⟩ := HOut3.out.keep hK4 hO4
        have HX4 : Hid (Ext w w4) := Lib.hid (HX3.out.trans hK4 fun i hi h => by have := HO.out i h; omega)
        have hrow := hAns.row
        have hjl : (an.take j).length = j := by simp; omega
        rw [hjl] at g2
        have hz4 := HX4.out.size
        have HB4 := Lib.hid g2
        have H1 := Lib.hid g1
        have H3 := Lib.hid g3
        have H4 := Lib.hid g4
        have HAns := Lib.hid hAns
        have HH4 := Lib.hid hH4
        have HO4 := Lib.hid (fun x (hx : O' x) => (hO4 x hx).elim (fun h => HO.out x h) fun h => Nat.le_trans HX3.out.size h)
        have hmx : j + 1 ≤ maxLen := by unfold maxLen; omega
        clear g1 g2 g3 g4 hAns hH4 hK4 hO4 HCa c0 HOut3 HH3
        go_wp2_with (at_builtin; refine stop_here3 ?_)
        refine Lib.hid ?_
        rw [fold_all cs _ (hrow.1.trans rfl)]
        refine wpList_append_own_at _ rfl (.tmp 36) (.tmp 43) 39 rfl w.heap.size 47 i0 (.agg (told 0 0 zMsg zSt).toArray) 22 272 Tryz.underlying39 hi hy0 hy1 hy2 rfl (by decide) _ j css.flatten rfl (HB4.out.alloc _) ⟨w4.heap.size, 0, none⟩ 1 1 cs rfl (by rw [hrow.1]) ?_ hrow.2 hmx (by omega) (by simp only [World.size_alloc]; omega) ?_
        · intro q u hu
          rw [show (⟨w4.heap.size, 0, none⟩ : Addr).add q = ⟨w4.heap.size, q, none⟩ by unfold Addr.add; split <;> simp_all]
          rw [World.cell?_alloc_mark]
          simpa using hu
        intro v1 w5 hown1 hgrow _ hat
        have HX5 : Hid (Ext w w5) := Lib.hid (Kp.grown (HX4.out.alloc _) hgrow fun k hk => .inr (HB4.out.lt k hk).1)
        have HK5 : Hid (Kp (fun i => u7.ownBlock = some i) w4 w5) := Lib.hid (Kp.grown ((Kp.refl _ _).alloc _) hgrow fun k hk => .inl hk)
        have HH5 := Lib.hid (HH4.out.keep HK5.out fun x hx e => H3.out x e hx)
        have HO5 := Lib.hid (hown1.lt)
        have HOut5 : Hid (Outs w5 O' w.heap.size v1 (an.take (j + 1))) := Lib.hid (by
          have e : an.take (j + 1) = an.take j ++ [a] := by
            obtain ⟨hlt, rfl⟩ := List.getElem?_eq_some_iff.1 HA.out
            exact List.take_succ_eq_append_getElem hlt
          rw [e]
          have hat' : ∀ x, v1.ownBlock = some x → u7.ownBlock = some x ∨ w4.heap.size ≤ x := fun x hx => by
            rcases hat with h | h
            · exact .inl (h ▸ hx)
            · rw [h] at hx
              simp at hx
              exact .inr (by omega)
          have hKX : ∀ (cs : List Value) (a : Ans), AnsAt w4 (fun x => O' x ∨ u7.ownBlock = some x) cs a → AnsAt w5 (fun x => O' x ∨ v1.ownBlock = some x) cs a := fun cs a h =>
            h.keep (HK5.out.mono fun _ _ e => .inr e) fun x hx => hx.elim (fun h => .inl (.inl h)) fun h => (hat' x h).imp .inr id
          have hnew : AnsAt w4 (fun x => O' x ∨ u7.ownBlock = some x) cs a := HAns.out.keep (Kp.refl _ _) fun x hx => .inl (hx.elim .inl fun h => .inr (HU3.out x h))
          exact Outs.more (H1.out) (by rw [hjl]; exact hown1) (fun x hx ho => (hat' x hx).elim (fun h => H3.out x h ho) fun h => by have := HH4.out.lt ho; omega) (fun i c x hc hx => hKX c x (H4.out i c x hc hx)) (hKX cs a hnew))
        clear hown1 hgrow
        go_wp2_with fail
        go_roundw
        case measure => simp [intOf]; omega
        case rel => exact ⟨j + 1, by omega, by simp, Lib.hid ⟨O', HH5.out, HO4.out, HOut5.out⟩, HX5⟩
      · have HCa := Lib.hid hC
        clear hC
        go_wp2_with (with_reducible refine stop_load44 rfl ?_)
        refine Lib.hid ?_
        refine wpList_load_mid (by with_reducible rfl) 44 (.tmp 49) (by with_reducible rfl) b0 (off + j * 16) (by rfl) v.cells _ ?_ Tryz.underlying44 (by rfl) ?_ ?_
        · exact HG.out w3 HX3.out
        · exact inf44
        go_wp2_with fail
        refine HCa.out.mono ?_
        rintro e w4 ⟨cs, rfl, O', hAns, hH4, hK4, hO4⟩
        have HU3 : Hid (∀ x, u7.ownBlock = some x → x < w3.heap.size) := Lib.hid fun x hx => by
          obtain ⟨css, g1, g2, g3, g4⟩ := HOut3.out
          exact (g2.lt x hx).2
        obtain ⟨css, g1, g2, g3, g4⟩ := HOut3.out.keep hK4 hO4
        have HX4 : Hid (Ext w w4) := Lib.hid (HX3.out.trans hK4 fun i hi h => by have := HO.out i h; omega)
        have hrow := hAns.row
        have hjl : (an.take j).length = j := by simp; omega
        rw [hjl] at g2
        have hz4 := HX4.out.size
        have HB4 := Lib.hid g2
        have H1 := Lib.hid g1
        have H3 := Lib.hid g3
        have H4 := Lib.hid g4
        have HAns := Lib.hid hAns
        have HH4 := Lib.hid hH4
        have HO4 := Lib.hid (fun x (hx : O' x) => (hO4 x hx).elim (fun h => HO.out x h) fun h => Nat.le_trans HX3.out.size h)
        have hmx : j + 1 ≤ maxLen := by unfold maxLen; omega
        clear g1 g2 g3 g4 hAns hH4 hK4 hO4 HCa c0 HOut3 HH3
        go_wp2_with (at_builtin; refine stop_here3 ?_)
        refine Lib.hid ?_
        rw [fold_all cs _ (hrow.1.trans rfl)]
        refine wpList_append_own_at _ rfl (.tmp 45) (.tmp 52) 39 rfl w.heap.size 47 i0 (.agg (told 0 0 zMsg zSt).toArray) 22 272 Tryz.underlying39 hi hy0 hy1 hy2 rfl (by decide) _ j css.flatten rfl (HB4.out.alloc _) ⟨w4.heap.size, 0, none⟩ 1 1 cs rfl (by rw [hrow.1]) ?_ hrow.2 hmx (by omega) (by simp only [World.size_alloc]; omega) ?_
        · intro q u hu
          rw [show (⟨w4.heap.size, 0, none⟩ : Addr).add q = ⟨w4.heap.size, q, none⟩ by unfold Addr.add; split <;> simp_all]
          rw [World.cell?_alloc_mark]
          simpa using hu
        intro v1 w5 hown1 hgrow _ hat
        have HX5 : Hid (Ext w w5) := Lib.hid (Kp.grown (HX4.out.alloc _) hgrow fun k hk => .inr (HB4.out.lt k hk).1)
        have HK5 : Hid (Kp (fun i => u7.ownBlock = some i) w4 w5) := Lib.hid (Kp.grown ((Kp.refl _ _).alloc _) hgrow fun k hk => .inl hk)
        have HH5 := Lib.hid (HH4.out.keep HK5.out fun x hx e => H3.out x e hx)
        have HO5 := Lib.hid (hown1.lt)
        have HOut5 : Hid (Outs w5 O' w.heap.size v1 (an.take (j + 1))) := Lib.hid (by
          have e : an.take (j + 1) = an.take j ++ [a] := by
            obtain ⟨hlt, rfl⟩ := List.getElem?_eq_some_iff.1 HA.out
            exact List.take_succ_eq_append_getElem hlt
          rw [e]
          have hat' : ∀ x, v1.ownBlock = some x → u7.ownBlock = some x ∨ w4.heap.size ≤ x := fun x hx => by
            rcases hat with h | h
            · exact .inl (h ▸ hx)
            · rw [h] at hx
              simp at hx
              exact .inr (by omega)
          have hKX : ∀ (cs : List Value) (a : Ans), AnsAt w4 (fun x => O' x ∨ u7.ownBlock = some x) cs a → AnsAt w5 (fun x => O' x ∨ v1.ownBlock = some x) cs a := fun cs a h =>
            h.keep (HK5.out.mono fun _ _ e => .inr e) fun x hx => hx.elim (fun h => .inl (.inl h)) fun h => (hat' x h).imp .inr id
          have hnew : AnsAt w4 (fun x => O' x ∨ u7.ownBlock = some x) cs a := HAns.out.keep (Kp.refl _ _) fun x hx => .inl (hx.elim .inl fun h => .inr (HU3.out x h))
          exact Outs.more (H1.out) (by rw [hjl]; exact hown1) (fun x hx ho => (hat' x hx).elim (fun h => H3.out x h ho) fun h => by have := HH4.out.lt ho; omega) (fun i c x hc hx => hKX c x (H4.out i c x hc hx)) (hKX cs a hnew))
        clear hown1 hgrow
        go_wp2_with fail
        go_roundw
        case measure => simp [intOf]; omega
        case rel => exact ⟨j + 1, by omega, by simp, Lib.hid ⟨O', HH5.out, HO4.out, HOut5.out⟩, HX5⟩
    · go_wp2_with fail
      go_ret
      obtain ⟨O, _, _, hOut⟩ := hI.out
      rw [List.take_of_length_le (by omega)] at hOut
      obtain ⟨css, g1, g2, g3, g4⟩ := hOut
      exact ⟨⟨_, rfl, css, g1, g2, fun _ _ => id, fun i cs a hc ha => (g4 i cs a hc ha).keep (Kp.refl _ _) fun x hx => .inl (hx.elim (fun h => absurd h id) .inr)⟩, hX.out⟩
end Go.Proofs.YtbehafhkgbjgmaaGreatDoor

/-
  A script of deeds and a script of questions are played; what is answered to the questions. No condition beyond the scripts.
-/
namespace Go.Proofs.YtbehafhkgbjgmaaGreatDoor
open Go Go.RowKit
set_option maxRecDepth 100000

/-- append onto a row of the call's own, whatever is appended: as a step of a region that draws. -/
theorem step_append_any {P : Program} {ops : Array Oper} {o : Oper} {a : Act} {w : World} {K : Act → World → Prop} {Q : Exit → Act → World → Prop} {E : Prop}
    (hg : o.guard = none) (s x : Operand) (t : TypeId) (ho : o.op = .call { callee := .builtin .append, args := #[s, x], argTypes := #[t, t] })
    (base : Nat) (e : TypeId) (i : TypeInfo) (z : Value) (size bytes : Nat) (ht : P.underlying t = some (.slice e)) (hi : P.info? e = some i) (hz : i.zero = some z)
    (hsize : i.size = size) (hby : i.bytes = bytes) (hzs : z.cells.size = size) (hsz : 0 < size)
    (v : Value) (n : Nat) (xs : List Value) (hs : a.eval s = v) (hown : w.ownsRow base e size v n xs)
    (ao : Option Addr) (m c : Nat) (news : List Value) (hx : a.eval x = .slice ao m c) (hnn : ao = none → m = 0 ∧ c = 0) (hl : news.length = m * size) (hnews : ∀ ad, ao = some ad → ∀ j u, news[j]? = some u → w.cell? (ad.add j) = some u) (h1 : ∀ u ∈ news, u.oneCell' = true)
    (h63 : n + m ≤ maxLen) (hbytes : (n + m) * bytes ≤ 140737488355328) (hbase : base ≤ w.heap.size)
    (h : ∀ v' w', w'.ownsRow base e size v' (n + m) (xs ++ news) → w.grownBy w' v.ownBlock → K (a.put o.dst v') w') :
    if Region.wanted o (yielded ops a.tmps) = true then Oper.wp P o a w K Q else E := by
  rw [if_pos (by simp [Region.wanted, hg])]
  cases ao with
  | some ad => exact wp_append_own w s x t ho base e i z size bytes ht hi hz hsize hby hzs hsz v n xs hs hown ad m c news hx hl (hnews ad rfl) h1 h63 hbytes hbase fun v' w' h2 h3 _ => h v' w' h2 h3
  | none =>
    obtain ⟨rfl, rfl⟩ := hnn rfl
    obtain rfl : news = [] := List.eq_nil_of_length_eq_zero (by simpa using hl)
    have hrun := run_append_owned_none (P := P) (w := w) base t o.type e i size ht hi v n xs hown
    unfold Oper.wp
    simp [execOp, ho, resolve, invoke, builtin, hs, hx, hrun, Result.andThen]
    exact h _ _ (by simpa using hown) (World.grownBy.refl _ _)

def zStep : Array Value := #[.int .i64 0, .string ⟨#[]⟩, .slice none 0 0, .slice none 0 0, .int .i64 0, .int .u64 0, .int .u64 0, .int .u64 0, .bool false, .slice none 0 0, .int .i64 0, .int .i64 0, .int .i64 0, .bool false, .bool false, .int .u64 0]
theorem inf44w : ∃ i, Tryz.prog.info? 44 = some i ∧ i.zero = some (.agg zStep) ∧ i.size = 16 ∧ i.bytes = 176 := by
  have h : (Tryz.prog.info? 44).map (fun i => (i.zero, i.size, i.bytes)) = some (some (.agg zStep), 16, 176) := by kernel_rfl
  exact info_parts h
def cellsOf (vs : List StepV) : List Value := (vs.map StepV.cells).flatten
theorem flat_len {α : Type} (L : Nat) : ∀ ls : List (List α), (∀ l, l ∈ ls → l.length = L) → ls.flatten.length = ls.length * L
  | [], _ => by simp
  | l :: ls, h => by
    have h1 := h l (by simp)
    have h2 := flat_len L ls fun x hx => h x (by simp [hx])
    simp only [List.flatten_cons, List.length_append, h1, h2, List.length_cons, Nat.add_mul]
    omega
theorem flat_get {α : Type} (L : Nat) : ∀ (ls : List (List α)), (∀ l, l ∈ ls → l.length = L) → ∀ (i k : Nat) (l : List α), ls[i]? = some l → k < L → ls.flatten[i * L + k]? = l[k]?
  | [], _, i, k, l, h, _ => by simp at h
  | l0 :: ls, hl, 0, k, l, h, hk => by
    simp at h
    subst h
    have h1 := hl l0 (by simp)
    rw [List.flatten_cons, List.getElem?_append_left (by omega)]
    simp
  | l0 :: ls, hl, i + 1, k, l, h, hk => by
    have h1 := hl l0 (by simp)
    have h2 := flat_get L ls (fun x hx => hl x (by simp [hx])) i k l (by simpa using h) hk
    have e : (i + 1) * L = i * L + L := by rw [Nat.add_mul]; omega
    rw [List.flatten_cons, List.getElem?_append_right (by omega), h1, e, show i * L + L + k - L = i * L + k by omega]
    exact h2
theorem cells16 (v : StepV) : v.cells.length = 16 := rfl
theorem cellsOf_len (vs : List StepV) : (cellsOf vs).length = vs.length * 16 := by
  unfold cellsOf
  rw [flat_len 16 _ (by simp [cells16])]
  simp
theorem cellsOf_append (a b : List StepV) : cellsOf (a ++ b) = cellsOf a ++ cellsOf b := by simp [cellsOf]
theorem cellsOf_one (vs : List StepV) : ∀ u ∈ cellsOf vs, u.oneCell' = true := by
  intro u hu
  simp only [cellsOf, List.mem_flatten, List.mem_map] at hu
  obtain ⟨l, ⟨v, _, rfl⟩, hu⟩ := hu
  simp only [StepV.cells, List.mem_cons, List.not_mem_nil, or_false] at hu
  rcases hu with rfl | rfl | rfl | rfl | rfl | rfl | rfl | rfl | rfl | rfl | rfl | rfl | rfl | rfl | rfl | rfl <;> rfl
theorem cellsOf_get {vs : List StepV} {i k : Nat} (hi : i < vs.length) (hk : k < 16) : (cellsOf vs)[i * 16 + k]? = vs[i].cells[k]? := by
  unfold cellsOf
  exact flat_get 16 _ (by simp [cells16]) i k _ (by simp [hi]) hk
theorem steps_news {w : World} {ao : Option Addr} {vs : List StepV} (h : StepsAt w ao vs) : ∀ ad, ao = some ad → ∀ j u, (cellsOf vs)[j]? = some u → w.cell? (ad.add j) = some u := by
  intro ad he j u hu
  have hj := (List.getElem?_eq_some_iff.1 hu).1
  rw [cellsOf_len] at hj
  have hi : j / 16 < vs.length := by omega
  obtain ⟨b, off, e, hc⟩ := h (j / 16) hi
  rw [he] at e
  simp at e
  subst e
  have hk : j % 16 < 16 := Nat.mod_lt _ (by decide)
  have ej : j / 16 * 16 + j % 16 = j := by omega
  have hu' := hu
  rw [← ej, cellsOf_get hi hk] at hu'
  have := hc (j % 16) u hu'
  rw [ej] at this
  rw [add_off]
  exact this
/-- A row of steps that the call made. -/
theorem own_steps {w : World} {base : Nat} {v : Value} {vs : List StepV} {n : Nat} (h : w.ownsRow base 44 16 v n (cellsOf vs)) : ∃ ao cap, v = .slice ao vs.length cap ∧ StepsAt w ao vs ∧ (ao = none → vs = [] ∧ cap = 0) ∧ ∀ b off s, ao = some ⟨b, off, s⟩ → base ≤ b ∧ b < w.heap.size := by
  have hn : n = vs.length := by have := h.1; rw [cellsOf_len] at this; omega
  subst hn
  have hc := fun g => h.cells (g := g)
  have hlt := h.lt
  rcases h.2 with ⟨rfl, h0⟩ | ⟨g, cap, cur, rfl, _⟩
  · exact ⟨none, 0, by rw [h0], fun i hi => by omega, fun _ => ⟨List.eq_nil_of_length_eq_zero h0, rfl⟩, fun _ _ _ e => by simp at e⟩
  · refine ⟨_, cap, rfl, fun i hi => ⟨g, 0, rfl, fun k c hk => ?_⟩, fun e => by simp at e, fun b off s e => by simp at e; obtain ⟨rfl, _⟩ := e; exact hlt _ rfl⟩
    have hk16 : k < 16 := by have := (List.getElem?_eq_some_iff.1 hk).1; rw [cells16] at this; exact this
    have := hc g rfl (i * 16 + k) c (by rw [cellsOf_get hi hk16]; exact hk)
    rwa [add_off] at this

/-- The answers l lie behind ao. -/
def ToldAt (w : World) (ao : Option Addr) (l : List Ans) : Prop := ∀ (i : Nat) (a : Ans), l[i]? = some a → ∃ b off cs, ao = some ⟨b, off, none⟩ ∧ AnsAt w (fun _ => False) cs a ∧ ∀ k c, cs[k]? = some c → w.cell? ⟨b, off + (i * 22 + k), none⟩ = some c
theorem Outs.told {w : World} {base : Nat} {V : Value} {an : List Ans} (h : Outs w (fun _ => False) base V an) : ∃ ao cap, V = .slice ao an.length cap ∧ an.length ≤ cap ∧ (ao = none → an = [] ∧ cap = 0) ∧ (∀ ad, ao = some ad → ∃ g, ad = ⟨g, 0, none⟩) ∧ ToldAt w ao an := by
  obtain ⟨css, h1, h2, _, h4⟩ := h
  have hc := fun g => h2.cells (g := g)
  rcases h2.2 with ⟨rfl, h0⟩ | ⟨g, cap, cur, rfl, _, _, hn, _⟩
  · refine ⟨none, 0, by rw [h0], by omega, fun _ => ⟨List.eq_nil_of_length_eq_zero h0, rfl⟩, fun _ e => by simp at e, fun i a ha => ?_⟩
    rw [List.eq_nil_of_length_eq_zero h0] at ha
    simp at ha
  · refine ⟨_, cap, rfl, hn, fun e => by simp at e, fun ad e => ⟨g, by simp at e; exact e.symm⟩, fun i a ha => ?_⟩
    have hi : i < css.length := by have := (List.getElem?_eq_some_iff.1 ha).1; omega
    have hA := h4 i css[i] a (by simp [hi]) ha
    have hall : ∀ l, l ∈ css → l.length = 22 := fun l hl => by
      obtain ⟨k, hk, rfl⟩ := List.getElem_of_mem hl
      exact (h4 k css[k] (an[k]'(by omega)) (by simp [hk]) (by simp)).row.1
    refine ⟨g, 0, css[i], rfl, hA.keep (Kp.refl _ _) fun x hx => absurd hx id, fun k c hk => ?_⟩
    have hk22 : k < 22 := by have := (List.getElem?_eq_some_iff.1 hk).1; rw [hall _ (List.getElem_mem hi)] at this; exact this
    have := hc g rfl (i * 22 + k) c (by rw [flat_get 22 css hall i k css[i] (by simp [hi]) hk22]; exact hk)
    rwa [add_off] at this
theorem ToldAt.keep {w w' : World} {ao : Option Addr} {l : List Ans} (h : ToldAt w ao l) (hX : Ext w w') : ToldAt w' ao l := by
  intro i a ha
  obtain ⟨b, off, cs, e, hA, hc⟩ := h i a ha
  exact ⟨b, off, cs, e, hA.keep hX fun x hx => absurd hx id, fun k c hk => (hX.cell id (World.block_lt_of_cell? w _ (hc k c hk))).trans (hc k c hk)⟩
theorem ToldAt.drop {w : World} {g d : Nat} {l : List Ans} (h : ToldAt w (some ⟨g, 0, none⟩) l) : ToldAt w (some ⟨g, d * 22, none⟩) (l.drop d) := by
  intro i a ha
  rw [List.getElem?_drop] at ha
  obtain ⟨b, off, cs, e, hA, hc⟩ := h (d + i) a ha
  simp at e
  obtain ⟨rfl, rfl⟩ := e
  refine ⟨g, d * 22, cs, rfl, hA, fun k c hk => ?_⟩
  have := hc k c hk
  rw [show 0 + ((d + i) * 22 + k) = d * 22 + (i * 22 + k) by omega] at this
  exact this

set_option maxHeartbeats 4000000 in
theorem asked11 (m n : Nat) (K : List (List UInt8)) (hK : KGood K) (ds qs : List StepV) (ao bo : Option Addr) (cap cap2 : Nat) (ps : Nat → PS) (an : List Ans) (w : World) (hS1 : StepsAt w ao ds) (hS2 : StepsAt w bo qs) (hN1 : ao = none → ds = [] ∧ cap = 0) (hN2 : bo = none → qs = [] ∧ cap2 = 0)
    (hBs : ∀ v, v ∈ ds ++ qs → Bs w v.ha v.hc v.hdr ∧ Bs w v.da v.dc v.data) (h0 : ps 0 = ⟨[], 0, 0⟩) (hl : an.length = (ds ++ qs).length)
    (hR : ∀ (i : Nat) (v : StepV) (a : Ans), (ds ++ qs)[i]? = some v → an[i]? = some a → StepRel K m n (ps i) v (ps (i + 1)) a) (hn : ds.length + qs.length ≤ 1000) (hmb : m ≤ 1048576) (hnb : n ≤ 1048576) (hE : Errs w) :
    Calls Tryz.prog 11 #[confAgg m n, .slice ao ds.length cap, .slice bo qs.length cap2] w fun e w' => (∃ ao' cap', e = .returned (.tuple #[.slice ao' qs.length cap', .bool true]) ∧ ToldAt w' ao' (an.drop ds.length)) ∧ Ext w w' := by
  obtain ⟨i0, hi, hy0, hy1, hy2⟩ := inf44w
  have hz0 : zStep.size = 16 := rfl
  have hal : an.length = ds.length + qs.length := by rw [hl, List.length_append]
  have HP : Hid (∀ W V, Ext w W → W.ownsRow w.heap.size 44 16 V (ds.length + qs.length) (cellsOf ds ++ cellsOf qs) → Calls Tryz.prog 17 #[confAgg m n, V] W fun e w' => (∃ V, e = .returned V ∧ ∃ ao cap, V = .slice ao an.length cap ∧ an.length ≤ cap ∧ (ao = none → an = [] ∧ cap = 0) ∧ (∀ ad, ao = some ad → ∃ g, ad = ⟨g, 0, none⟩) ∧ ToldAt w' ao an) ∧ Ext W w') := Lib.hid fun W V hX hown => by
    rw [← cellsOf_append] at hown
    obtain ⟨a1, c1, rfl, g1, _, _⟩ := own_steps hown
    refine (store17 m n K hK (ds ++ qs) a1 c1 ps an W g1 (fun v hv => ⟨⟨(hBs v hv).1.1.keep hX fun _ _ _ _ => id, (hBs v hv).1.2⟩, ⟨(hBs v hv).2.1.keep hX fun _ _ _ _ => id, (hBs v hv).2.2⟩⟩) h0 hl hR (by rw [List.length_append]; exact hn) hmb hnb (hE.keep hX id id)).mono ?_
    rintro e w' ⟨⟨V, rfl, hO⟩, hX'⟩
    exact ⟨⟨V, rfl, hO.told⟩, hX'⟩
  have HN1 : Hid (∀ W, Ext w W → ∀ ad, ao = some ad → ∀ (j : Nat) (u : Value), (cellsOf ds)[j]? = some u → W.cell? (ad.add j) = some u) := Lib.hid fun W hX => steps_news (hS1.keep hX fun _ _ _ _ => id)
  have HN2 : Hid (∀ W, Ext w W → ∀ ad, bo = some ad → ∀ (j : Nat) (u : Value), (cellsOf qs)[j]? = some u → W.cell? (ad.add j) = some u) := Lib.hid fun W hX => steps_news (hS2.keep hX fun _ _ _ _ => id)
  have HM1 : Hid (ao = none → ds.length = 0 ∧ cap = 0) := Lib.hid fun e => ⟨by rw [(hN1 e).1]; rfl, (hN1 e).2⟩
  have HM2 : Hid (bo = none → qs.length = 0 ∧ cap2 = 0) := Lib.hid fun e => ⟨by rw [(hN2 e).1]; rfl, (hN2 e).2⟩
  have hc1 := cellsOf_len ds
  have hc2 := cellsOf_len qs
  have ho1 := Lib.hid (cellsOf_one ds)
  have ho2 := Lib.hid (cellsOf_one qs)
  clear hS1 hS2 hN1 hN2 hBs hR hE h0 hl
  unfold confAgg at HP ⊢
  generalize cellsOf ds = C1 at HP HN1 hc1 ho1
  generalize cellsOf qs = C2 at HP HN2 hc2 ho2
  generalize ds.length = d at *
  generalize qs.length = k at *
  have hmx1 : 0 + d ≤ maxLen := by unfold maxLen; omega
  have hmx2 : 0 + d + k ≤ maxLen := by unfold maxLen; omega
  go_enter Tryz.func11, Tryz.ntmps11
  go_wp2_with fail
  obtain ⟨w0, hw0⟩ : ∃ w0, w.alloc (.cells #[.int .i64 m, .int .i64 n, .int .i64 0, .bool false, .bool false, .int .u64 0] 33) = w0 := ⟨_, rfl⟩
  rw [hw0]
  have hX0 : Ext w w0 := by rw [← hw0]; exact (Kp.refl _ _).alloc _
  have hP0 : Blk w0 w.heap.size #[.int .i64 m, .int .i64 n, .int .i64 0, .bool false, .bool false, .int .u64 0] 33 := by rw [← hw0]; exact Blk.new w _ _
  have hz0' : w0.heap.size = w.heap.size + 1 := by rw [← hw0]; simp
  clear hw0
  have HXa : Hid (Ext w (w0.alloc (.cells #[] 44)).drew) := Lib.hid ((hX0.alloc _).drew)
  have HPa := Lib.hid ((hP0.alloc (.cells #[] 44)).drew)
  have HOW : Hid ((w0.alloc (.cells #[] 44)).drew.ownsRow w.heap.size 44 16 (.slice (some ⟨w.heap.size + 1, 0, none⟩) 0 0) 0 []) := Lib.hid (by have := (World.ownsRow_made (base := w.heap.size) (e := 44) (size := 16) w0 #[] 0 (by omega) (by decide) rfl).drew; rwa [hz0'] at this)
  have HBK : Hid (∀ k, (Value.slice (some ⟨w.heap.size + 1, 0, none⟩) 0 0).ownBlock = some k → k = w.heap.size + 1) := Lib.hid fun k hk => by simp [Value.ownBlock] at hk; exact hk.symm
  have c0 : w0.cell? ⟨w.heap.size, 0, none⟩ = some (.int .i64 m) := hP0.cell 0
  have f0 : ∀ o, (w0.alloc o).cell? ⟨w.heap.size, 0, none⟩ = some (.int .i64 m) := fun o => (hP0.alloc o).cell 0
  have c1 : w0.cell? ⟨w.heap.size, 1, none⟩ = some (.int .i64 n) := hP0.cell 1
  have f1 : ∀ o, (w0.alloc o).cell? ⟨w.heap.size, 1, none⟩ = some (.int .i64 n) := fun o => (hP0.alloc o).cell 1
  have c2 : w0.cell? ⟨w.heap.size, 2, none⟩ = some (.int .i64 0) := hP0.cell 2
  have f2 : ∀ o, (w0.alloc o).cell? ⟨w.heap.size, 2, none⟩ = some (.int .i64 0) := fun o => (hP0.alloc o).cell 2
  have e3 : w0.cell? ⟨w.heap.size, 3, none⟩ = some (.bool false) := hP0.cell 3
  have f3 : ∀ o, (w0.alloc o).cell? ⟨w.heap.size, 3, none⟩ = some (.bool false) := fun o => (hP0.alloc o).cell 3
  have c4 : w0.cell? ⟨w.heap.size, 4, none⟩ = some (.bool false) := hP0.cell 4
  have f4 : ∀ o, (w0.alloc o).cell? ⟨w.heap.size, 4, none⟩ = some (.bool false) := fun o => (hP0.alloc o).cell 4
  have c5 : w0.cell? ⟨w.heap.size, 5, none⟩ = some (.int .u64 0) := hP0.cell 5
  have f5 : ∀ o, (w0.alloc o).cell? ⟨w.heap.size, 5, none⟩ = some (.int .u64 0) := fun o => (hP0.alloc o).cell 5
  have hv1 : Hid (∀ (v : Value) (W : World), W.ownsRow w.heap.size 44 16 v (0 + d) ([] ++ C1) → Blk W w.heap.size #[.int .i64 m, .int .i64 n, .int .i64 0, .bool false, .bool false, .int .u64 0] 33 → ¬ v.ownBlock = some w.heap.size) := Lib.hid fun v W ho hb e => by
    rcases ho.2 with ⟨rfl, _⟩ | ⟨g, cp, cur, rfl, _, hg, _⟩
    · simp [Value.ownBlock] at e
    · simp [Value.ownBlock] at e
      subst e
      unfold Blk at hb
      rw [hb] at hg
      simp at hg
  clear hX0 hP0
  go_region_held3 (fun W => W.cell? ⟨w.heap.size, 0, none⟩ = some (.int .i64 m) ∧ W.cell? ⟨w.heap.size, 1, none⟩ = some (.int .i64 n) ∧ W.cell? ⟨w.heap.size, 2, none⟩ = some (.int .i64 0) ∧ W.cell? ⟨w.heap.size, 3, none⟩ = some (.bool false) ∧ W.cell? ⟨w.heap.size, 4, none⟩ = some (.bool false) ∧ W.cell? ⟨w.heap.size, 5, none⟩ = some (.int .u64 0)) (refine ⟨?_, ?_, ?_, ?_, ?_, ?_⟩ <;> simp [*]) (first | (refine step_append_any rfl (.tmp 10) (.tmp 11) 22 rfl w.heap.size 44 i0 (.agg zStep) 16 176 Tryz.underlying22 hi hy0 hy1 hy2 hz0 (by decide) _ 0 [] rfl HOW.out ao d cap C1 rfl HM1.out hc1 (HN1.out _ HXa.out) ho1.out hmx1 (by omega) HXa.out.size ?_; intro v1 w1 hown1 hgrow1; have HX1 : Hid (Ext w w1) := Lib.hid (Kp.grown HXa.out hgrow1 fun k hk => .inr (HOW.out.lt k hk).1); have HP1 := Lib.hid (HPa.out.keep (Kp.grown (F := fun i => i = w.heap.size + 1) (Kp.refl _ _) hgrow1 fun k hk => .inl (HBK.out k hk)) (by omega)); have HO1 := Lib.hid hown1; have hlt1 := HP1.out.lt; clear hown1 hgrow1; have d0 : w1.cell? ⟨w.heap.size, 0, none⟩ = some (.int .i64 m) := HP1.out.cell 0; have d1 : w1.cell? ⟨w.heap.size, 1, none⟩ = some (.int .i64 n) := HP1.out.cell 1; have d2 : w1.cell? ⟨w.heap.size, 2, none⟩ = some (.int .i64 0) := HP1.out.cell 2; have d3 : w1.cell? ⟨w.heap.size, 3, none⟩ = some (.bool false) := HP1.out.cell 3; have d4 : w1.cell? ⟨w.heap.size, 4, none⟩ = some (.bool false) := HP1.out.cell 4; have d5 : w1.cell? ⟨w.heap.size, 5, none⟩ = some (.int .u64 0) := HP1.out.cell 5) | (refine step_append_any rfl (.tmp 12) (.tmp 13) 22 rfl w.heap.size 44 i0 (.agg zStep) 16 176 Tryz.underlying22 hi hy0 hy1 hy2 hz0 (by decide) _ (0 + d) _ rfl HO1.out bo k cap2 C2 rfl HM2.out hc2 (HN2.out _ HX1.out) ho2.out hmx2 (by omega) HX1.out.size ?_; intro v2 w2 hown2 hgrow2; have HX2 : Hid (Ext w w2) := Lib.hid (Kp.grown HX1.out hgrow2 fun k hk => .inr (HO1.out.lt k hk).1); have HO2 := Lib.hid hown2; have HP2 := Lib.hid (HP1.out.keep (Kp.grown (F := fun i => v1.ownBlock = some i) (Kp.refl _ _) hgrow2 fun k hk => .inl hk) (hv1.out v1 w1 HO1.out HP1.out)); clear hown2 hgrow2; have g0 : w2.cell? ⟨w.heap.size, 0, none⟩ = some (.int .i64 m) := HP2.out.cell 0; have g1 : w2.cell? ⟨w.heap.size, 1, none⟩ = some (.int .i64 n) := HP2.out.cell 1; have g2 : w2.cell? ⟨w.heap.size, 2, none⟩ = some (.int .i64 0) := HP2.out.cell 2; have g3 : w2.cell? ⟨w.heap.size, 3, none⟩ = some (.bool false) := HP2.out.cell 3; have g4 : w2.cell? ⟨w.heap.size, 4, none⟩ = some (.bool false) := HP2.out.cell 4; have g5 : w2.cell? ⟨w.heap.size, 5, none⟩ = some (.int .u64 0) := HP2.out.cell 5) | (go_at_call 17; (with_reducible refine (HP.out w2 v2 HX2.out (by have := HO2.out; rw [Nat.zero_add, List.nil_append] at this; exact this)).mono ?_); rintro e w3 ⟨⟨V, rfl, a3, c3, rfl, hle3, hn3, hg3, hT3⟩, hX3⟩; have HX3 := Lib.hid (HX2.out.trans hX3 fun _ _ h => h); have HT3 := Lib.hid hT3; have HN3 := Lib.hid hn3; have HG3 := Lib.hid hg3; have HP3 := Lib.hid (HP2.out.keep hX3 id); clear hT3 hX3 hn3 hg3; have k0 : w3.cell? ⟨w.heap.size, 0, none⟩ = some (.int .i64 m) := HP3.out.cell 0; have k1 : w3.cell? ⟨w.heap.size, 1, none⟩ = some (.int .i64 n) := HP3.out.cell 1; have k2 : w3.cell? ⟨w.heap.size, 2, none⟩ = some (.int .i64 0) := HP3.out.cell 2; have k3 : w3.cell? ⟨w.heap.size, 3, none⟩ = some (.bool false) := HP3.out.cell 3; have k4 : w3.cell? ⟨w.heap.size, 4, none⟩ = some (.bool false) := HP3.out.cell 4; have k5 : w3.cell? ⟨w.heap.size, 5, none⟩ = some (.int .u64 0) := HP3.out.cell 5))
  clear c0 c1 c2 e3 c4 c5 f0 f1 f2 f3 f4 f5 d0 d1 d2 d3 d4 d5 g0 g1 g2 g3 g4 g5 k0 k1 k2 k3 k4 k5
  rw [hal] at hle3
  cases a3 with
  | none =>
    obtain ⟨h1, h2⟩ := HN3.out rfl
    have hd : d = 0 := by rw [h1] at hal; simp at hal; omega
    have hk : k = 0 := by rw [h1] at hal; simp at hal; omega
    subst hd hk h2
    go_wp2_with fail
    go_ret2
    exact ⟨⟨_, ⟨_, rfl⟩, by intro i a ha; simp at ha⟩, HX3.out⟩
  | some ad =>
    obtain ⟨g, rfl⟩ := HG3.out ad rfl
    go_wp2_with fail
    all_goals go_ret2
    · exact ⟨⟨_, ⟨_, rfl⟩, by intro i a ha; rw [List.drop_of_length_le (by omega)] at ha; simp at ha⟩, HX3.out⟩
    · exact ⟨⟨_, ⟨_, rfl⟩, HT3.out.drop⟩, HX3.out⟩
end Go.Proofs.YtbehafhkgbjgmaaGreatDoor
