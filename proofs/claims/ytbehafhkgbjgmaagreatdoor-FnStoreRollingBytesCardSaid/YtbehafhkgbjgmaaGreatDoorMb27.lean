/-
  A message is stored by the store itself, its lock taken and given back. No condition beyond the store.
-/
import Derived.Test.YtbehafhkgbjgmaaGreatDoorMb23
import Derived.Test.YtbehafhkgbjgmaaGreatDoorMb24
import Derived.Test.YtbehafhkgbjgmaaGreatDoorMb25
import Derived.Test.YtbehafhkgbjgmaaGreatDoorMb26
namespace Go.Proofs.YtbehafhkgbjgmaaGreatDoor
open Go Go.RowKit
set_option maxRecDepth 100000

theorem At.re {w w' : World} {ms : Nat} {K : List (List UInt8)} {s s' : Sto} {q : List Rec} {l : List (Nat × Nat)} {M : List UInt8 → Option (Nat × SS)} {B U : Nat → Prop} (h : At w ms K s q l M B U)
    (hB : Blk w' ms s'.cells 91) (hK : Kp (· = ms) w w') (e1 : s'.r = s.r) (e2 : s'.tb = s.tb) (e3 : s'.root = s.root) (e4 : s'.f = s.f) (e5 : s'.la = s.la) (e6 : s'.n = s.n) (e7 : s'.by' = s.by') : At w' ms K s' q l M B U := by
  have hrm : ¬ s.r = ms := Ne.symm (h.blk.neMap h.map)
  have htm : ¬ s.tb = ms := Ne.symm (h.tr.ne h.blk (by decide))
  have hz := hK.size
  refine ⟨hB, by rw [e1]; exact h.map.keep hK hrm, by rw [e2]; exact h.tr.keep hK htm fun x hx e => h.bms (e ▸ hx), by rw [e4]; exact h.msgs.keep hK fun x hx e => h.ums (e ▸ hx), by rw [e3]; exact h.root, by rw [e4, e5]; exact h.num, by rw [e6]; exact h.cnt, by rw [e7]; exact h.byt, by rw [e5]; exact h.low, h.sml, h.keys, h.kgood, h.bms, by rw [e1]; exact h.br, h.ums, by rw [e1]; exact h.ur, by rw [e2]; exact h.utb, h.bu, fun x hx => Nat.lt_of_lt_of_le (h.ult x hx) hz⟩

theorem store64 (ms m n : Nat) (K : List (List UInt8)) (s : Sto) (q : List Rec) (l : List (Nat × Nat)) (M : List UInt8 → Option (Nat × SS)) (B U : Nat → Prop) (r : Rec) (ha da : Option Addr) (hc dc : Nat) (x6 : Int) (w : World)
    (hA : At w ms K s q l M B U) (hm : s.mm = m) (hmb : m ≤ 1048576) (hn : s.mb = n) (hnb : n ≤ 1048576) (hla : s.la < 59) (hk : r.subj ∈ K) (hsz : r.size ≤ 65536)
    (hH : Sl w ha hc r.hdr) (hD : Sl w da dc r.data) (hHo : BytesOff (Own ms s B U) ha) (hDo : BytesOff (Own ms s B U) da) (hHz : ha = none → hc = 0) (hDz : da = none → dc = 0) :
    Calls Tryz.prog 64 #[.pointer (some ⟨ms, 0, none⟩), .string (str r.subj), .slice ha r.hdr.length hc, .slice da r.data.length dc, .int .u64 0, .int .i64 r.time, .int .i64 x6, .bool true] w fun e w' =>
      e = .returned .nilIface ∧ Put1 ms K s q r m n B U w w' := by
  cases hM : M r.subj with
  | none =>
    rcases Nat.eq_zero_or_pos q.length with hq | hq
    · exact store64a ms m n K s q l M B U r ha da hc dc x6 w hA hm hmb hn hnb hla hk hsz hH hD hHo hDo hHz hDz hM hq
    · exact store64b ms m n K s q l M B U r ha da hc dc x6 w hA hm hmb hn hnb hla hk hsz hH hD hHo hDo hHz hDz hM hq
  | some x =>
    obtain ⟨b, ss⟩ := x
    rcases Nat.eq_zero_or_pos q.length with hq | hq
    · exact store64c ms m n K s q l M B U r ha da hc dc x6 w hA hm hmb hn hnb hla hk hsz hH hD hHo hDo hHz hDz b ss hM hq
    · exact store64d ms m n K s q l M B U r ha da hc dc x6 w hA hm hmb hn hnb hla hk hsz hH hD hHo hDo hHz hDz b ss hM hq

/-- The first number behind a message more. -/
def firstOf (la : Nat) (q : List Rec) : Nat := la + 1 - q.length
set_option maxHeartbeats 1000000 in
theorem store29 (ms m n : Nat) (K : List (List UInt8)) (q : List Rec) (f la : Nat) (O : Nat → Prop) (r : Rec) (ha da : Option Addr) (hc dc : Nat) (x6 : Int) (w : World)
    (hH : Holds w ms K m n q f la O) (hmb : m ≤ 1048576) (hnb : n ≤ 1048576) (hla : la < 59) (hk : r.subj ∈ K) (hsz : r.size ≤ 65536)
    (hHs : Sl w ha hc r.hdr) (hDs : Sl w da dc r.data) (hHo : BytesOff O ha) (hDo : BytesOff O da) (hHz : ha = none → hc = 0) (hDz : da = none → dc = 0) :
    Calls Tryz.prog 29 #[.pointer (some ⟨ms, 0, none⟩), .string (str r.subj), .slice ha r.hdr.length hc, .slice da r.data.length dc, .int .u64 0, .int .i64 r.time, .int .i64 x6, .bool true] w fun e w' =>
      e = .returned .nilIface ∧ Done ms K m n O (put m n q r) (firstOf (la + 1) (put m n q r)) (la + 1) w w' := by
  obtain ⟨s, l, M, B, U, hA, h0, h4, hm, hn, hf, hl, hO⟩ := hH
  have hl1 := Lib.hid (lock63 ms s w hA.blk h0 h4)
  have HK : Hid (∀ w1, Blk w1 ms { s with l0 := 1, l4 := -1073741824 }.cells 91 → Kp (· = ms) w w1 → Calls Tryz.prog 64 #[.pointer (some ⟨ms, 0, none⟩), .string (str r.subj), .slice ha r.hdr.length hc, .slice da r.data.length dc, .int .u64 0, .int .i64 r.time, .int .i64 x6, .bool true] w1 fun e w' =>
      e = .returned .nilIface ∧ Put1 ms K { s with l0 := 1, l4 := -1073741824 } q r m n B U w1 w') := Lib.hid fun w1 hb hK => by
    have hms : O ms := (hO ms).2 (.inl rfl)
    exact store64 ms m n K _ q l M B U r ha da hc dc x6 w1 (hA.re hb hK rfl rfl rfl rfl rfl rfl rfl) hm hmb hn hnb (by rw [← hl] at hla; exact hla) hk hsz
      (hHs.keep hK fun b off sp e hx => hHo b off sp e (hx ▸ hms)) (hDs.keep hK fun b off sp e hx => hDo b off sp e (hx ▸ hms)) (fun b off sp e hx => hHo b off sp e ((hO b).2 hx)) (fun b off sp e hx => hDo b off sp e ((hO b).2 hx)) hHz hDz
  have HO := Lib.hid hO
  have HA := Lib.hid hA
  clear hA hO
  generalize r.hdr.length = n1 at HK
  generalize r.data.length = n2 at HK
  generalize str r.subj = S at HK
  go_enter Tryz.func29, Tryz.ntmps29
  go_wp2_with fail
  refine hl1.out.mono ?_
  rintro e w1 ⟨rfl, h1, h2⟩
  have HK1 := Lib.hid h2
  have H64 := Lib.hid (HK.out w1 h1 h2)
  clear h1 h2 HK hl1
  go_wp2_with fail
  refine H64.out.mono ?_
  rintro e w2 ⟨rfl, s2, l2, M2, B2, U2, hA2, e0, e4, em, en, er, etb, ec, ela, hK2, hB2, hU2⟩
  have hl2 := Lib.hid (unlock65 ms s2 w2 hA2.blk e0 e4)
  have HA2 := Lib.hid hA2
  have HK2 := Lib.hid hK2
  have HB2 := Lib.hid hB2
  have HU2 := Lib.hid hU2
  clear hA2 hK2 hB2 hU2 H64
  go_wp2_with fail
  refine hl2.out.mono ?_
  rintro e w3 ⟨rfl, h1, h2⟩
  have HB3 := Lib.hid h1
  have HK3 := Lib.hid h2
  clear h1 h2 hl2
  go_wp2_with fail
  go_ret
  have hA3 := HA2.out.re HB3.out HK3.out rfl rfl rfl rfl rfl rfl rfl
  have hlen : s2.f + (put m n q r).length = s2.la + 1 := by
    rcases HA2.out.num with h | ⟨_, _, h⟩
    · exact h
    · rw [ela] at h; simp at h
  have hz1 := HK1.out.size
  refine ⟨rfl, Own ms s2 B2 U2, ⟨_, l2, M2, B2, U2, hA3, rfl, rfl, em.trans hm, en.trans hn, ?_, ?_, fun x => Iff.rfl⟩, ?_, fun x hx => ?_⟩
  · show s2.f = _
    unfold firstOf
    rw [ela] at hlen
    omega
  · show s2.la = la + 1
    rw [ela]
    omega
  · have hms := (HO.out ms).2 (.inl rfl)
    refine ((HK1.out.mono (G := O) fun x _ e => e ▸ hms).trans HK2.out fun i _ e => ?_).trans HK3.out fun i _ e => e ▸ hms
    refine (HO.out i).2 ?_
    rcases e with e | e | e | e
    · exact .inl e
    · exact .inr (.inl e)
    · exact .inr (.inr (.inr (.inl e)))
    · exact .inr (.inr (.inl e))
  · rcases hx with e | e | e | e | e
    · exact .inl ((HO.out x).2 (.inl e))
    · exact .inl ((HO.out x).2 (.inr (.inl (e.trans er))))
    · exact .inl ((HO.out x).2 (.inr (.inr (.inl (e.trans etb)))))
    · rcases HB2.out x e with h | h
      · exact .inl ((HO.out x).2 (.inr (.inr (.inr (.inl h)))))
      · exact .inr (by omega)
    · rcases HU2.out x e with h | h
      · exact .inl ((HO.out x).2 (.inr (.inr (.inr (.inr h)))))
      · exact .inr (by omega)
end Go.Proofs.YtbehafhkgbjgmaaGreatDoor
