/-
  A message is stored. No condition beyond the store's own.
-/
import Derived.Test.YtbehafhkgbjgmaaGreatDoorMb20
namespace Go.Proofs.YtbehafhkgbjgmaaGreatDoor
open Go Go.RowKit
set_option maxRecDepth 100000

theorem mapnil (r : Nat) (W : World) : (binOp .eql 85 (.map (some r)) (.map none)).run Tryz.prog W = .ok (.bool false) W := by kernel_rfl
theorem stop_here {p : Prop} (h : Hid p) : p := h.out
theorem stop_map {ops : Array Oper} {rest : List Oper} {o : Oper} {a : Act} {w : World} {Q : Exit → Act → World → Prop} {t : TypeId} {m x v : Operand} (_hop : o.op = .mapUpdate t m x v) (h : Hid (wpList Tryz.prog ops Q (o :: rest) a w)) : wpList Tryz.prog ops Q (o :: rest) a w := h.out
theorem bytes_fun (l : List UInt8) (ns : Nat) (hns : l.length = ns) (hl : ns ≤ 4611686018427387904) : ∃ cv : World → Nat, (∀ W, (convert 9 36 (.string (str l))).run Tryz.prog W = .ok (.slice (some ⟨W.heap.size, 0, none⟩) ns (cv W)) (Lib.bytesWorld W 5 (str l))) ∧ Hid (∀ W, Sl (Lib.bytesWorld W 5 (str l)) (some ⟨W.heap.size, 0, none⟩) (cv W) l) := by
  subst hns
  exact ⟨fun W => Classical.choose (slBytes W l hl), fun W => (Classical.choose_spec (slBytes W l hl)).1, Lib.hid fun W => (Classical.choose_spec (slBytes W l hl)).2⟩
theorem Kp.grownBy {x : Nat} {w w' : World} (h : Kp (· = x) w w') : w.grownBy w' (some x) := ⟨h.os, h.tape, h.output, h.size, fun k hk hn => h.block k hk fun e => hn (by rw [e])⟩
theorem wpList_make_bytes {w : World} {ops : Array Oper} {rest : List Oper} {o : Oper} {a : Act} {Q : Exit → Act → World → Prop}
    (hg : o.guard = none) (l c : Operand) (hop : o.op = Op.makeSlice 36 l c) (C : Int) (n : Nat) (hl : a.eval l = .int .i64 0) (hc : a.eval c = .int .i64 C) (hC : C = (n : Int)) (hn : n ≤ 1099511627776)
    (hK : ∀ w', w'.ownsRow w.heap.size 5 1 (.slice (some ⟨w.heap.size, 0, none⟩) 0 n) 0 (u8s []) → Kp (fun _ => False) w w' → w.heap.size < w'.heap.size → wpList Tryz.prog ops Q rest (a.put o.dst (.slice (some ⟨w.heap.size, 0, none⟩) 0 n)) w') :
    wpList Tryz.prog ops Q (o :: rest) a w := by
  obtain ⟨i0, hi, hz0, hz1, hz2⟩ := inf5
  refine wpList_make_own w hg l c 36 hop w.heap.size 5 i0 (.int .u8 0) 1 Tryz.underlying36 hi hz0 hz1 .i64 .i64 C n hl hc hC (by rw [hz2]; omega) (by unfold maxLen; omega) (Nat.le_refl _) ?_
  intro w' h1 h2
  exact hK w' h1 (Kp.grown (Kp.refl _ _) h2 fun k hk => by simp at hk) (h1.lt _ rfl).2
theorem wpList_append_into {w : World} {ops : Array Oper} {rest : List Oper} {o : Oper} {a : Act} {Q : Exit → Act → World → Prop}
    (hg : o.guard = none) (s x : Operand) (hop : o.op = Op.call { callee := Callee.builtin Builtin.append, args := #[s, x], argTypes := #[36, 36] })
    (base g k m cap c : Nat) (l1 l2 : List UInt8) (ao : Option Addr) (hs : a.eval s = .slice (some ⟨g, 0, none⟩) k cap) (hx : a.eval x = .slice ao m c) (hown : w.ownsRow base 5 1 (.slice (some ⟨g, 0, none⟩) k cap) k (u8s l1))
    (hl2 : l2.length = m) (hb : BytesAt w ao l2) (hz : ao = none → m = 0 ∧ c = 0) (hfit : k + m ≤ cap)
    (hK : ∀ w', w'.ownsRow base 5 1 (.slice (some ⟨g, 0, none⟩) (k + m) cap) (k + m) (u8s (l1 ++ l2)) → Kp (· = g) w w' → wpList Tryz.prog ops Q rest (a.put o.dst (.slice (some ⟨g, 0, none⟩) (k + m) cap)) w') :
    wpList Tryz.prog ops Q (o :: rest) a w := by
  obtain ⟨i0, hi, hz0, hz1, hz2⟩ := inf5
  refine wpList_append_fits_any w hg s x 36 hop base 5 i0 1 Tryz.underlying36 hi hz1 g k cap (u8s l1) hs hown ao m c (u8s l2) hx (by rw [u8s_length]; omega) hz (fun ad e => by subst e; exact bytes_news hb) (u8s_one l2) hfit ?_
  intro w' h1 h2
  rw [← u8s_append] at h1
  exact hK w' h1 (Kp.grown (Kp.refl _ _) h2 fun k hk => by simp at hk; exact .inl hk.symm)

theorem own_bytes {w : World} {g n cap : Nat} {l : List UInt8} (h : w.ownsRow g 5 1 (.slice (some ⟨g, 0, none⟩) n cap) n (u8s l)) : BytesAt w (some ⟨g, 0, none⟩) l := by
  refine BytesAt.of fun i hi => ?_
  have := h.cells (g := g) rfl i (.int .u8 (l[i].toNat : Int)) (by simp [u8s, hi])
  rw [add_off] at this
  exact this
theorem msg_made {w8 w10 : World} {g mb s n2 x y z nh nd hc' dc' bc : Nat} {r : Rec} {ha' da' : Option Addr} (hown : w8.ownsRow g 5 1 (.slice (some ⟨g, 0, none⟩) (nh + nd) n2) (nh + nd) (u8s (r.hdr ++ r.data))) (hK : Kp (· = mb) w8 w10) (hgm : ¬ mb = g)
    (hB : Blk w10 mb #[.string (str r.subj), .slice ha' x hc', .slice da' y dc', .slice (some ⟨g, 0, none⟩) z bc, .int .u64 s, .int .i64 r.time] 147) (hx : r.hdr.length = x) (hy : r.data.length = y) (hz : x + y = z) (hbc : z ≤ bc) (hsm : z ≤ 1099511627776)
    (h1 : (ha' = none ∧ x = 0) ∨ (ha' = some ⟨g, 0, none⟩ ∧ x ≤ hc')) (h2 : (da' = some ⟨g, 0, none⟩ ∧ y = 0) ∨ (da' = some ⟨g, x, none⟩ ∧ y ≤ dc')) : MsgAt w10 (fun b => b = mb ∨ b = g) mb s r := by
  have hby := own_bytes hown
  have hgw : g < w8.heap.size := (hown.lt g rfl).2
  have hby10 : BytesAt w10 (some ⟨g, 0, none⟩) (r.hdr ++ r.data) := hby.keep hK fun b off s' e => by simp at e; rw [← e.1]; exact fun h => hgm h.symm
  subst hx hy
  have hin : ∀ o, In (fun b => b = mb ∨ b = g) (some ⟨g, o, none⟩) := fun o b off s' e => by simp at e; exact .inr e.1.symm
  have hlen : (r.hdr ++ r.data).length = z := by rw [List.length_append]; exact hz
  have HH : Sl w10 ha' hc' r.hdr ∧ In (fun b => b = mb ∨ b = g) ha' := by
    rcases h1 with ⟨rfl, h0⟩ | ⟨rfl, hle⟩
    · obtain e := List.eq_nil_of_length_eq_zero h0
      rw [e]
      exact ⟨⟨BytesAt.nil _ _, ⟨fun _ => rfl, fun _ e => by simp at e⟩, by simp, by simp⟩, In.none _⟩
    · refine ⟨⟨fun i hi => ?_, ⟨fun e => by simp at e, fun a e => by simp at e; simp [← e]⟩, by omega, by omega⟩, hin 0⟩
      obtain ⟨b', off, e, hc⟩ := hby10 i (by rw [List.length_append]; omega)
      exact ⟨b', off, e, by rw [hc, List.getElem_append_left hi]⟩
  have HD : Sl w10 da' dc' r.data ∧ In (fun b => b = mb ∨ b = g) da' := by
    rcases h2 with ⟨rfl, h0⟩ | ⟨rfl, hle⟩
    · obtain e := List.eq_nil_of_length_eq_zero h0
      rw [e]
      exact ⟨⟨BytesAt.nil _ _, ⟨fun _ => rfl, fun a e => by simp at e; simp [← e]⟩, by simp, by simp⟩, hin 0⟩
    · refine ⟨⟨fun i hi => ?_, ⟨fun e => by simp at e, fun a e => by simp at e; simp [← e]⟩, by omega, by omega⟩, hin _⟩
      obtain ⟨b', off, e, hc⟩ := hby10 (r.hdr.length + i) (by rw [List.length_append]; omega)
      simp only [Option.some.injEq, Addr.mk.injEq] at e
      obtain ⟨rfl, rfl, _⟩ := e
      refine ⟨g, r.hdr.length, rfl, ?_⟩
      rw [Nat.zero_add] at hc
      rw [hc, List.getElem_append_right (by omega)]
      simp
  rw [← hlen] at hB hbc hsm
  exact ⟨ha', hc', da', dc', g, bc, hB, .inl rfl, HH.1, HH.2, HD.1, HD.2, ⟨hby10, ⟨fun e => by simp at e, fun a e => by simp at e; simp [← e]⟩, hbc, by omega⟩, .inr rfl⟩

/-- The message enters the map: what is known behind it. -/
structure Mapped (w w11 : World) (ms : Nat) (s : Sto) (q : List Rec) (l : List (Nat × Nat)) (M : List UInt8 → Option (Nat × SS)) (B U : Nat → Prop) (r : Rec) (mb g k f3 la : Nat) (t1 : Int) : Prop where
  blk : Blk w11 ms { s with f := f3, t1 := t1 }.cells 91
  map : MapAt w11 s.r (l ++ [(la + 1, mb)])
  tr : Tr w11 s.tb M B
  msg : MsgAt w11 (fun x => x = mb ∨ x = g) mb (la + 1) r
  msgs : Msgs w11 U f3 l q
  keep : Kp (fun x => x = ms ∨ x = s.r) w w11
  mbx : mb < w11.heap.size
  k60 : k ≤ 59
  tot : total q ≤ 65536 * 60
  c14 : w11.cell? ⟨ms, 14, none⟩ = some (.int .u64 (k : Int))
  c15 : w11.cell? ⟨ms, 15, none⟩ = some (.int .u64 (total q : Int))
  c18 : w11.cell? ⟨ms, 18, none⟩ = some (.int .u64 (la : Int))
theorem put_map {w w10 : World} {ms mb g k f3 la : Nat} {K : List (List UInt8)} {s : Sto} {q : List Rec} {l : List (Nat × Nat)} {M : List UInt8 → Option (Nat × SS)} {B U : Nat → Prop} {r : Rec} {t1 : Int} (h : At w ms K s q l M B U) (hkq : q.length = k) (hsla : s.la = la) (hla : la < 59)
    (hB : Blk w10 ms { s with f := f3, t1 := t1 }.cells 91) (hf : f3 + k = la + 1) (hK : Kp (· = ms) w w10) (hmsg : MsgAt w10 (fun x => x = mb ∨ x = g) mb (la + 1) r) (hq : Msgs w10 U f3 l q) (hmb : w.heap.size ≤ mb) (hg : w.heap.size ≤ g) :
    ∃ w11, (Instr.mapUpdate 85 (.map (some s.r)) (.int .u64 ((la : Int) + 1)) (.pointer (some ⟨mb, 0, none⟩))).run Tryz.prog w10 = .ok () w11 ∧ Mapped w w11 ms s q l M B U r mb g k f3 la t1 := by
  have hrm : ¬ s.r = ms := Ne.symm (h.blk.neMap h.map)
  have hrw := h.map.lt
  have hrange : ∀ p, p ∈ l → p.1 ≠ la + 1 := fun p hp e => by
    have h1 := hq.range p hp
    omega
  obtain ⟨w11, hup, hMap11, hK11⟩ := map_update (b := mb) (h.map.keep hK hrm) hrange
  have hrg : s.r ≠ g := by omega
  have hrmb : s.r ≠ mb := by omega
  have htm : ¬ s.tb = ms := Ne.symm (h.tr.ne h.blk (by decide))
  have htr : ¬ s.tb = s.r := h.tr.neMap h.map
  have hB11 := hB.keep hK11 fun e => hrm e.symm
  have hm11 := hmsg.keep hK11 fun x hx e => hx.elim (fun h => hrmb (e.symm.trans h)) fun h => hrg (e.symm.trans h)
  refine ⟨w11, hup, hB11, hMap11, (h.tr.keep hK htm fun x hx e => h.bms (e ▸ hx)).keep hK11 htr fun x hx e => h.br (e ▸ hx), hm11, hq.keep hK11 fun x hx e => h.ur (e ▸ hx), (hK.mono fun _ _ e => Or.inl e).trans hK11 fun _ _ e => Or.inr e, ?_, by omega, ?_, ?_, ?_, ?_⟩
  · obtain ⟨_, _, _, _, _, _, h, _⟩ := hm11
    exact h.lt
  · have := total_le (q := q) (c := 65536) fun x hx => (h.sml x hx).2
    omega
  · rw [← hkq, ← h.cnt]; exact hB11.cell 14
  · rw [← h.byt]; exact hB11.cell 15
  · rw [← hsla]; exact hB11.cell 18

/-- What storing leaves. -/
def Put1 (ms : Nat) (K : List (List UInt8)) (s : Sto) (q : List Rec) (r : Rec) (m n : Nat) (B U : Nat → Prop) (w w' : World) : Prop :=
  ∃ s' l' M' B' U', At w' ms K s' (put m n q r) l' M' B' U' ∧ s'.l0 = s.l0 ∧ s'.l4 = s.l4 ∧ s'.mm = s.mm ∧ s'.mb = s.mb ∧ s'.r = s.r ∧ s'.tb = s.tb ∧ s'.clock = s.clock ∧ s'.la = s.la + 1 ∧
    Kp (fun x => x = ms ∨ x = s.r ∨ B x ∨ x = s.tb) w w' ∧ (∀ x, B' x → B x ∨ w.heap.size ≤ x) ∧ (∀ x, U' x → U x ∨ w.heap.size ≤ x)

theorem At.add {w wX : World} {ms mb g k f3 : Nat} {K : List (List UInt8)} {s : Sto} {q : List Rec} {l : List (Nat × Nat)} {M M' : List UInt8 → Option (Nat × SS)} {B B' U : Nat → Prop} {r : Rec} {t1 : Int} (h : At w ms K s q l M B U)
    (hB : Blk wX ms { s with n := k + 1, by' := total q + r.size, f := f3, t1 := t1, la := s.la + 1, t2 := r.time }.cells 91) (hM : MapAt wX s.r (l ++ [(s.la + 1, mb)])) (hT : Tr wX s.tb M' B') (hk : q.length = k) (hf : f3 + k = s.la + 1)
    (hq : Msgs wX U f3 l q) (hm : MsgAt wX (fun x => x = mb ∨ x = g) mb (s.la + 1) r) (hla : s.la < 59) (hr : r.subj ∈ K) (hsz : r.size ≤ 65536) (hkeys : ∀ key, M' key ≠ none → M key ≠ none ∨ key = r.subj) (hmb : w.heap.size ≤ mb) (hg : w.heap.size ≤ g)
    (hB' : ∀ x, B' x → B x ∨ (w.heap.size ≤ x ∧ x ≠ mb ∧ x ≠ g)) (hmx : mb < wX.heap.size) (hgx : g < wX.heap.size) :
    At wX ms K { s with n := k + 1, by' := total q + r.size, f := f3, t1 := t1, la := s.la + 1, t2 := r.time } (q ++ [r]) (l ++ [(s.la + 1, mb)]) M' B' (fun x => U x ∨ x = mb ∨ x = g) := by
  have hms := h.blk.lt
  have hrr := h.map.lt
  have htb := h.tr.lt.1
  refine ⟨hB, hM, hT, ?_, h.root, .inl ?_, ?_, ?_, ?_, ?_, ?_, h.kgood, ?_, ?_, ?_, ?_, ?_, ?_, ?_⟩
  · have := (hq.mono (V := fun x => U x ∨ x = mb ∨ x = g) fun x hx => .inl hx).snoc (b := mb) (r := r) (by rw [hk, hf]; exact hm.mono fun x hx => .inr hx)
    rw [hk, hf] at this
    exact this
  · simp only [List.length_append, List.length_cons, List.length_nil]; omega
  · simp only [List.length_append, List.length_cons, List.length_nil]; omega
  · rw [total_append]; simp [total]
  · show s.la + 1 < 60; omega
  · intro x hx
    rcases List.mem_append.1 hx with hx | hx
    · exact h.sml x hx
    · simp at hx; subst hx; exact ⟨hr, hsz⟩
  · intro key hkey
    rcases hkeys key hkey with h' | h'
    · exact h.keys key h'
    · exact h' ▸ hr
  · intro hx; rcases hB' _ hx with h' | h'
    · exact h.bms h'
    · omega
  · intro hx; rcases hB' _ hx with h' | h'
    · exact h.br h'
    · have h' : w.heap.size ≤ s.r := h'.1
      omega
  · rintro (h' | h' | h')
    · exact h.ums h'
    · omega
    · omega
  · rintro (h' | h' | h')
    · exact h.ur h'
    · have h' : s.r = mb := h'
      omega
    · have h' : s.r = g := h'
      omega
  · rintro (h' | h' | h')
    · exact h.utb h'
    · have h' : s.tb = mb := h'
      omega
    · have h' : s.tb = g := h'
      omega
  · intro x hx hu
    rcases hB' x hx with h1 | h1
    · rcases hu with h' | h' | h'
      · exact h.bu x h1 h'
      · have := h.tr.lt.2 x h1; omega
      · have := h.tr.lt.2 x h1; omega
    · rcases hu with h' | h' | h'
      · have := h.ult x h'; omega
      · exact h1.2.1 h'
      · exact h1.2.2 h'
  · rintro x (h' | h' | h')
    · have := h.ult x h'; omega
    · omega
    · omega

/-- The two limits behind the message. -/
theorem Put1.of {w wX : World} {ms mb g k f3 m n : Nat} {K : List (List UInt8)} {s : Sto} {q : List Rec} {B B' U : Nat → Prop} {r : Rec} {t1 : Int} {wZ : World}
    (hK : Kp (fun x => x = ms ∨ x = s.r ∨ B x ∨ x = s.tb) w wX)
    (hB' : ∀ x, B' x → B x ∨ (w.heap.size ≤ x ∧ x ≠ mb ∧ x ≠ g)) (hmb : w.heap.size ≤ mb) (hg : w.heap.size ≤ g)
    (h1 : Now ms K { s with n := k + 1, by' := total q + r.size, f := f3, t1 := t1, la := s.la + 1, t2 := r.time } B' (fun x => U x ∨ x = mb ∨ x = g) (put m n q r) wX wZ) : Put1 ms K s q r m n B U w wZ := by
  obtain ⟨s2, l2, M2, B2, g1, g2, g3, g4⟩ := h1
  refine ⟨s2, l2, M2, B2, _, g1, g2.1, g2.2.1, g2.2.2.1, g2.2.2.2.1, g2.2.2.2.2.2.1, g2.2.2.2.2.2.2.1, g2.2.2.2.2.2.2.2, g2.2.2.2.2.1, hK.trans g3 fun i hi hx => ?_, fun x hx => ?_, fun x hx => ?_⟩
  · rcases hx with h' | h' | h' | h'
    · exact .inl h'
    · exact .inr (.inl h')
    · rcases hB' i h' with h' | h'
      · exact .inr (.inr (.inl h'))
      · omega
    · exact .inr (.inr (.inr h'))
  · rcases g4 x hx with h' | h'
    · rcases hB' x h' with h' | h'
      · exact .inl h'
      · exact .inr h'.1
    · exact .inr (Nat.le_trans hK.size h')
  · rcases hx with h' | h' | h'
    · exact .inl h'
    · exact .inr (by omega)
    · exact .inr (by omega)
end Go.Proofs.YtbehafhkgbjgmaaGreatDoor
