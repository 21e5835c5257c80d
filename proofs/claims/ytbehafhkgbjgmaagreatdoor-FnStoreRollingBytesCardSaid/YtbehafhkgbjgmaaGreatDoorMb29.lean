/-
  The store tells its counts. No condition beyond the store.
-/
import Derived.Test.YtbehafhkgbjgmaaGreatDoorMb05
import Derived.Test.YtbehafhkgbjgmaaGreatDoorMb18
import Derived.Test.YtbehafhkgbjgmaaGreatDoorMb04
namespace Go.Proofs.YtbehafhkgbjgmaaGreatDoor
open Go Go.RowKit
set_option maxRecDepth 100000

def zState : Array Value := #[.int .u64 0, .int .u64 0, .int .u64 0, .int .i64 0, .int .u64 0, .int .i64 0, .int .i64 0, .map none, .int .i64 0, .slice none 0 0, .int .i64 0]

/-- The state's block x: its last number stays. -/
def Fs (x : Nat) (la : Nat) (w w' : World) : Prop := ∃ cs, Blk w' x cs 84 ∧ cs[4]? = some (.int .u64 la) ∧ (∃ z, cs[6]? = some (.int .i64 z)) ∧ Kp (· = x) w w'
theorem Fs.set8 {x la : Nat} {w w' : World} (h : Fs x la w w') (v : Value) : Fs x la w (w'.setCell ⟨x, 8, none⟩ v) := by
  obtain ⟨cs, h1, h2, ⟨z, h3⟩, h4⟩ := h
  exact ⟨_, h1.set 8 v, by rw [Array.getElem?_setIfInBounds_ne (by decide)]; exact h2, ⟨z, by rw [Array.getElem?_setIfInBounds_ne (by decide)]; exact h3⟩, Kp.setCell (F := (· = x)) h4 (.inl rfl) _⟩
theorem Fs.set6 {x la : Nat} {w w' : World} (h : Fs x la w w') (z : Int) : Fs x la w (w'.setCell ⟨x, 6, none⟩ (.int .i64 z)) := by
  obtain ⟨cs, h1, h2, ⟨z', h3⟩, h4⟩ := h
  exact ⟨_, h1.set 6 _, by rw [Array.getElem?_setIfInBounds_ne (by decide)]; exact h2, ⟨z, by rw [Array.getElem?_setIfInBounds_self_of_lt (by have := (Array.getElem?_eq_some_iff.1 h3).1; exact this)]⟩, Kp.setCell (F := (· = x)) h4 (.inl rfl) _⟩
theorem Fs.six {x la : Nat} {w w' : World} (h : Fs x la w w') : (∃ z, w'.cell? ⟨x, 6, none⟩ = some (.int .i64 z)) ∧ w'.frozen? ⟨x, 6, none⟩ = false := by
  obtain ⟨cs, h1, h2, ⟨z, h3⟩, h4⟩ := h
  exact ⟨⟨z, (h1.cell 6).trans h3⟩, h1.frozen 6⟩
theorem Fs.drewN {x la : Nat} {w w' : World} (h : Fs x la w w') (n : Nat) : Fs x la w (w'.drewN n) := by
  obtain ⟨cs, h1, h2, h3, h4⟩ := h
  exact ⟨cs, h1.drewN n, h2, h3, h4.drewN n⟩
theorem Fs.drew {x la : Nat} {w w' : World} (h : Fs x la w w') : Fs x la w w'.drew := by
  obtain ⟨cs, h1, h2, h3, h4⟩ := h
  exact ⟨cs, h1.drew, h2, h3, h4.drew⟩

set_option maxHeartbeats 2000000 in
theorem fast31 (ms x : Nat) (s : Sto) (M : List UInt8 → Option (Nat × SS)) (B : Nat → Prop) (w : World) (hB : Blk w ms s.cells 91) (h4 : s.l4 = 0) (hT : Tr w s.tb M B) (hX : Blk w x zState 84) (hbm : ¬ B ms) (hbx : ¬ B x) :
    Calls Tryz.prog 31 #[.pointer (some ⟨ms, 0, none⟩), .pointer (some ⟨x, 0, none⟩)] w fun e w' => e = .returned (.tuple #[]) ∧ Blk w' ms s.cells 91 ∧ Kp (fun i => i = ms ∨ i = x) w w' ∧ (∃ z, w'.cell? ⟨x, 4, none⟩ = some (.int .u64 z)) := by
  have hmx : ¬ ms = x := hB.ne hX (by decide)
  have htx : ¬ s.tb = x := by obtain ⟨_, _, hb, _⟩ := hT; exact hb.ne hX (by decide)
  have htm : ¬ s.tb = ms := by obtain ⟨_, _, hb, _⟩ := hT; exact hb.ne hB (by decide)
  have H66 := Lib.hid (rlock66 ms s w hB h4)
  have HB := Lib.hid hB
  have HX := Lib.hid hX
  have HT := Lib.hid hT
  clear hB hX hT
  go_enter Tryz.func31, Tryz.ntmps31
  go_wp2_with fail
  refine H66.out.mono ?_
  rintro e w1 ⟨rfl, h1, h2⟩
  have HB1 := Lib.hid h1
  have HK1 := Lib.hid h2
  clear h1 h2
  have HX1 := Lib.hid (HX.out.keep HK1.out fun e => hmx e.symm)
  have c14 : w1.cell? ⟨ms, 14, none⟩ = some (.int .u64 s.n) := HB1.out.cell 14
  have c15 : w1.cell? ⟨ms, 15, none⟩ = some (.int .u64 s.by') := HB1.out.cell 15
  have c16 : w1.cell? ⟨ms, 16, none⟩ = some (.int .u64 s.f) := HB1.out.cell 16
  have c17 : w1.cell? ⟨ms, 17, none⟩ = some (.int .i64 s.t1) := HB1.out.cell 17
  have c18 : w1.cell? ⟨ms, 18, none⟩ = some (.int .u64 s.la) := HB1.out.cell 18
  have c19 : w1.cell? ⟨ms, 19, none⟩ = some (.int .i64 s.t2) := HB1.out.cell 19
  have x0 : w1.cell? ⟨x, 0, none⟩ = some (.int .u64 0) := HX1.out.cell 0
  have x1 : w1.cell? ⟨x, 1, none⟩ = some (.int .u64 0) := HX1.out.cell 1
  have x2 : w1.cell? ⟨x, 2, none⟩ = some (.int .u64 0) := HX1.out.cell 2
  have x3 : w1.cell? ⟨x, 3, none⟩ = some (.int .i64 0) := HX1.out.cell 3
  have x4 : w1.cell? ⟨x, 4, none⟩ = some (.int .u64 0) := HX1.out.cell 4
  have x5 : w1.cell? ⟨x, 5, none⟩ = some (.int .i64 0) := HX1.out.cell 5
  have f0 : w1.frozen? ⟨x, 0, none⟩ = false := HX1.out.frozen 0
  have f1 : w1.frozen? ⟨x, 1, none⟩ = false := HX1.out.frozen 1
  have f2 : w1.frozen? ⟨x, 2, none⟩ = false := HX1.out.frozen 2
  have f3 : w1.frozen? ⟨x, 3, none⟩ = false := HX1.out.frozen 3
  have f4 : w1.frozen? ⟨x, 4, none⟩ = false := HX1.out.frozen 4
  have f5 : w1.frozen? ⟨x, 5, none⟩ = false := HX1.out.frozen 5
  go_wp2_with fail
  obtain ⟨w2, hw2⟩ : ∃ w2, (((((w1.setCell ⟨x, 0, none⟩ (.int .u64 s.n)).setCell ⟨x, 1, none⟩ (.int .u64 s.by')).setCell ⟨x, 2, none⟩ (.int .u64 s.f)).setCell ⟨x, 3, none⟩ (.int .i64 s.t1)).setCell ⟨x, 4, none⟩ (.int .u64 s.la)).setCell ⟨x, 5, none⟩ (.int .i64 s.t2) = w2 := ⟨_, rfl⟩
  rw [hw2]
  have hX2 : Blk w2 x #[.int .u64 s.n, .int .u64 s.by', .int .u64 s.f, .int .i64 s.t1, .int .u64 s.la, .int .i64 s.t2, .int .i64 0, .map none, .int .i64 0, .slice none 0 0, .int .i64 0] 84 := by (rw [← hw2]; exact (((((HX1.out.set 0 _).set 1 _).set 2 _).set 3 _).set 4 _).set 5 _)
  have hK2 : Kp (· = x) w1 w2 := by (rw [← hw2]; exact Kp.setCell (F := (· = x)) (Kp.setCell (F := (· = x)) (Kp.setCell (F := (· = x)) (Kp.setCell (F := (· = x)) (Kp.setCell (F := (· = x)) (Kp.setCell (F := (· = x)) (Kp.refl _ _) (.inl rfl) _) (.inl rfl) _) (.inl rfl) _) (.inl rfl) _) (.inl rfl) _) (.inl rfl) _)
  have HX2 := Lib.hid hX2
  have HB2 := Lib.hid (HB1.out.keep hK2 hmx)
  have HK2 : Hid (Kp (fun i => i = ms ∨ i = x) w w2) := Lib.hid ((HK1.out.mono fun _ _ e => Or.inl e).trans hK2 fun _ _ e => .inr e)
  clear c14 c15 c16 c17 c18 c19 x0 x1 x2 x3 x4 x5 f0 f1 f2 f3 f4 f5 hw2 hX2 hK2 HX1 HB1 HK1
  have x0 : w2.cell? ⟨x, 0, none⟩ = some (.int .u64 s.n) := HX2.out.cell 0
  have x2 : w2.cell? ⟨x, 2, none⟩ = some (.int .u64 s.f) := HX2.out.cell 2
  have x4 : w2.cell? ⟨x, 4, none⟩ = some (.int .u64 s.la) := HX2.out.cell 4
  have x6 : w2.cell? ⟨x, 6, none⟩ = some (.int .i64 0) := HX2.out.cell 6
  have x8 : w2.cell? ⟨x, 8, none⟩ = some (.int .i64 0) := HX2.out.cell 8
  have f6 : w2.frozen? ⟨x, 6, none⟩ = false := HX2.out.frozen 6
  have f8 : w2.frozen? ⟨x, 8, none⟩ = false := HX2.out.frozen 8
  have c26 : w2.cell? ⟨ms, 26, none⟩ = some (.pointer (some ⟨s.tb, 0, none⟩)) := HB2.out.cell 26
  have HT2 := Lib.hid (HT.out.keep HK2.out (fun e => e.elim htm htx) fun y hy e => by
    rcases e with e | e
    · exact hbm (e ▸ hy)
    · exact hbx (e ▸ hy))
  have HF : Hid (Fs x s.la w2 w2) := Lib.hid ⟨_, HX2.out, rfl, ⟨_, rfl⟩, Kp.refl _ _⟩
  have H67 : Hid (∀ W, Fs x s.la w2 W → Calls Tryz.prog 67 #[.pointer (some ⟨s.tb, 0, none⟩)] W fun e w' => (∃ sz, e = .returned (.int .i64 sz)) ∧ W = w') := Lib.hid fun W hF => size67 s.tb M B W (HT2.out.keep hF.choose_spec.2.2.2 htx fun y hy e => hbx (e ▸ hy))
  go_quiet (fail)
  obtain ⟨w3, hw3⟩ : ∃ w3, w2.drewN nq = w3 := ⟨_, rfl⟩
  rw [hw3]
  have HX3 := Lib.hid (HX2.out.drewN nq)
  have HB3 := Lib.hid (HB2.out.drewN nq)
  have HF3 := Lib.hid (HF.out.drewN nq)
  have HK3 := Lib.hid (HK2.out.drewN nq)
  rw [hw3] at HX3 HB3 HF3 HK3
  clear hw3 x0 x2 x4 x6 x8 f6 f8 c26
  have x0 : w3.cell? ⟨x, 0, none⟩ = some (.int .u64 s.n) := HX3.out.cell 0
  have x2 : w3.cell? ⟨x, 2, none⟩ = some (.int .u64 s.f) := HX3.out.cell 2
  have x4 : w3.cell? ⟨x, 4, none⟩ = some (.int .u64 s.la) := HX3.out.cell 4
  have x6 : w3.cell? ⟨x, 6, none⟩ = some (.int .i64 0) := HX3.out.cell 6
  have x8 : w3.cell? ⟨x, 8, none⟩ = some (.int .i64 0) := HX3.out.cell 8
  have f6 : w3.frozen? ⟨x, 6, none⟩ = false := HX3.out.frozen 6
  have f8 : w3.frozen? ⟨x, 8, none⟩ = false := HX3.out.frozen 8
  have c26 : w3.cell? ⟨ms, 26, none⟩ = some (.pointer (some ⟨s.tb, 0, none⟩)) := HB3.out.cell 26
  have H68 : Hid (∀ W, Fs x s.la w2 W → Calls Tryz.prog 68 #[.pointer (some ⟨ms, 0, none⟩)] W fun e w' => e = .returned (.tuple #[]) ∧ Blk w' ms s.cells 91 ∧ Kp (fun i => i = ms ∨ i = x) w w' ∧ (∃ z, w'.cell? ⟨x, 4, none⟩ = some (.int .u64 z))) := Lib.hid fun W hF => by
    obtain ⟨cs, g1, g2, _, g3⟩ := hF
    refine (runlock68 ms _ W (HB2.out.keep g3 hmx) rfl).mono ?_
    rintro e w' ⟨he, h1, h2⟩
    refine ⟨he, by have := h1; rwa [show ({ ({ s with l4 := 1 } : Sto) with l4 := 0 } : Sto) = s from sto_unread h4] at this, (HK2.out.trans g3 fun _ _ e => .inr e).trans h2 fun _ _ e => .inl e, s.la, ?_⟩
    exact ((g1.keep h2 fun e => hmx e.symm).cell 4).trans g2
  go_wp2_with fail
  · go_still_tail 19, (by kernel_rfl)
    go_wp2_with fail
    all_goals (
      have hFW := (HF3.out.set8 (.int .i64 (wrap64 (IntKind.u64.wrap (IntKind.u64.wrap (IntKind.u64.wrap (s.la - s.f) + 1) - s.n)))))
      generalize Value.int .i64 (wrap64 (IntKind.u64.wrap (IntKind.u64.wrap (IntKind.u64.wrap (s.la - s.f) + 1) - s.n))) = vv at hFW ⊢
      first
        | obtain ⟨w4, hw4⟩ : ∃ w4, (w3.setCell ⟨x, 8, none⟩ vv).drew = w4 := ⟨_, rfl⟩
          rw [hw4]
          have hF4 := hFW.drew
          rw [hw4] at hF4
        | obtain ⟨w4, hw4⟩ : ∃ w4, ((w3.setCell ⟨x, 8, none⟩ vv).setCell ⟨x, 8, none⟩ (.int .i64 0)).drew = w4 := ⟨_, rfl⟩
          rw [hw4]
          have hF4 := (hFW.set8 (.int .i64 0)).drew
          rw [hw4] at hF4
      have HF4 := Lib.hid hF4
      clear hFW hw4 hF4 x0 x2 x4 x6 x8 f6 f8 c26
      obtain ⟨⟨z6, x6⟩, f6⟩ := HF4.out.six
      refine (H67.out _ HF4.out).mono ?_
      rintro e w5 ⟨⟨sz, rfl⟩, rfl⟩
      go_wp2_with fail
      refine (H68.out _ (HF4.out.set6 _)).mono ?_
      rintro e w6 ⟨rfl, h1, h2, h3⟩
      have H1 := Lib.hid h1
      have H2 := Lib.hid h2
      have H3 := Lib.hid h3
      clear h1 h2 h3
      go_wp2_with fail
      go_end0
      exact ⟨rfl, H1.out, H2.out, H3.out⟩)
  · refine (H67.out _ HF3.out).mono ?_
    rintro e w4 ⟨⟨sz, rfl⟩, rfl⟩
    go_wp2_with fail
    refine (H68.out _ (HF3.out.set6 _)).mono ?_
    rintro e w6 ⟨rfl, h1, h2, h3⟩
    have H1 := Lib.hid h1
    have H2 := Lib.hid h2
    have H3 := Lib.hid h3
    clear h1 h2 h3
    go_wp2_with fail
    go_end0
    exact ⟨rfl, H1.out, H2.out, H3.out⟩
end Go.Proofs.YtbehafhkgbjgmaaGreatDoor

/-
  The plain law of texts cut at points: a text whose parts are few and short, of small letters and digits alone, is short, is not empty, and bears no byte 127. No condition.
-/
namespace Go.Proofs.YtbehafhkgbjgmaaGreatDoor

/-- The parts that are closed, and the open one, behind one byte more. -/
def tokStep (x : List (List UInt8) × List UInt8) (c : UInt8) : List (List UInt8) × List UInt8 := if c = 46 then (x.1 ++ [x.2], []) else (x.1, x.2 ++ [c])
def toks (s : List UInt8) : List (List UInt8) × List UInt8 := s.foldl tokStep ([], [])
def tokens (s : List UInt8) : List (List UInt8) := (toks s).1 ++ [(toks s).2]
theorem toks_nil : toks [] = ([], []) := rfl
theorem toks_snoc (s : List UInt8) (c : UInt8) : toks (s ++ [c]) = tokStep (toks s) c := by simp [toks]
def sumLen : List (List UInt8) → Nat
  | [] => 0
  | t :: l => t.length + 1 + sumLen l
theorem sumLen_append (a b : List (List UInt8)) : sumLen (a ++ b) = sumLen a + sumLen b := by
  induction a with
  | nil => simp [sumLen]
  | cons t a ih => simp [sumLen, ih]; omega
theorem toks_spec (s : List UInt8) : s.length = sumLen (toks s).1 + (toks s).2.length ∧ ∀ c, c ∈ s → c = 46 ∨ ∃ t, t ∈ tokens s ∧ c ∈ t := by
  refine snoc_cases (fun s => s.length = sumLen (toks s).1 + (toks s).2.length ∧ ∀ c, c ∈ s → c = 46 ∨ ∃ t, t ∈ tokens s ∧ c ∈ t) ⟨by simp [toks, sumLen], by simp⟩ ?_ s
  intro s x ⟨h1, h2⟩
  rw [tokens, toks_snoc]
  unfold tokStep
  by_cases hx : x = 46
  · rw [if_pos hx]
    refine ⟨by simp [sumLen_append, sumLen, h1]; omega, fun c hc => ?_⟩
    rcases List.mem_append.1 hc with hc | hc
    · rcases h2 c hc with h | ⟨t, ht, hct⟩
      · exact .inl h
      · refine .inr ⟨t, ?_, hct⟩
        simp only [tokens] at ht
        simp only [List.mem_append] at ht ⊢
        exact .inl ht
    · simp at hc
      exact .inl (hc.trans hx)
  · rw [if_neg hx]
    refine ⟨by simp [h1]; omega, fun c hc => ?_⟩
    rcases List.mem_append.1 hc with hc | hc
    · rcases h2 c hc with h | ⟨t, ht, hct⟩
      · exact .inl h
      · simp only [tokens, List.mem_append, List.mem_singleton] at ht
        rcases ht with ht | ht
        · exact .inr ⟨t, by simp [ht], hct⟩
        · subst ht
          exact .inr ⟨(toks s).2 ++ [x], by simp, by simp [hct]⟩
    · simp at hc
      exact .inr ⟨(toks s).2 ++ [x], by simp, by simp [hc]⟩
theorem toks_len (s : List UInt8) : (toks s).1.length ≤ s.length ∧ ∀ t, t ∈ tokens s → t.length ≤ s.length := by
  refine snoc_cases (fun s => (toks s).1.length ≤ s.length ∧ ∀ t, t ∈ tokens s → t.length ≤ s.length) ⟨by simp [toks], by simp [tokens, toks]⟩ ?_ s
  intro s x ⟨h1, h2⟩
  rw [tokens, toks_snoc]
  unfold tokStep
  by_cases hx : x = 46
  · rw [if_pos hx]
    refine ⟨by simp; omega, fun t ht => ?_⟩
    simp only [List.mem_append, List.mem_singleton] at ht
    simp only [tokens, List.mem_append, List.mem_singleton] at h2
    simp only [List.length_append, List.length_cons, List.length_nil]
    rcases ht with ht | rfl
    · have := h2 t ht; omega
    · simp
  · rw [if_neg hx]
    refine ⟨by simp; omega, fun t ht => ?_⟩
    simp only [List.mem_append, List.mem_singleton] at ht
    simp only [tokens, List.mem_append, List.mem_singleton] at h2
    simp only [List.length_append, List.length_cons, List.length_nil]
    rcases ht with ht | rfl
    · have := h2 t (.inl ht); omega
    · have := h2 _ (.inr rfl); simp; omega
def okByte (c : UInt8) : Prop := (97 ≤ c.toNat ∧ c.toNat ≤ 122) ∨ (48 ≤ c.toNat ∧ c.toNat ≤ 57)
/-- What is asked of a message's subject. -/
def GoodSubj (s : List UInt8) : Prop := 0 < s.length ∧ s.length ≤ 53 ∧ (127 : UInt8) ∉ s
theorem sumLen_le : ∀ l : List (List UInt8), (∀ t, t ∈ l → t.length ≤ 8) → sumLen l ≤ 9 * l.length
  | [], _ => by simp [sumLen]
  | t :: l, h => by
    have h1 := h t (by simp)
    have h2 := sumLen_le l fun x hx => h x (by simp [hx])
    simp only [sumLen, List.length_cons]
    omega
theorem good_of {s : List UInt8} (h : ∀ t, t ∈ tokens s → 0 < t.length ∧ t.length ≤ 8 ∧ ∀ c, c ∈ t → okByte c) (h6 : (tokens s).length ≤ 6) : GoodSubj s := by
  obtain ⟨h1, h2⟩ := toks_spec s
  have hl := sumLen_le (toks s).1 fun t ht => (h t (by simp [tokens, ht])).2.1
  have ho := h (toks s).2 (by simp [tokens])
  simp only [tokens, List.length_append, List.length_cons, List.length_nil] at h6
  refine ⟨by omega, by omega, fun hc => ?_⟩
  rcases h2 127 hc with h' | ⟨t, ht, hct⟩
  · exact absurd h' (by decide)
  · rcases (h t ht).2.2 127 hct with h' | h'
    · exact absurd h'.2 (by decide)
    · exact absurd h'.2 (by decide)
end Go.Proofs.YtbehafhkgbjgmaaGreatDoor
