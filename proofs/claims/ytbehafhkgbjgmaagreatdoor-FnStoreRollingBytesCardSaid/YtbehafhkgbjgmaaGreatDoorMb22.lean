/-
  A message is stored: what the walks end in. No condition beyond the store's own.
-/
import Derived.Test.YtbehafhkgbjgmaaGreatDoorMb21
namespace Go.Proofs.YtbehafhkgbjgmaaGreatDoor
open Go Go.RowKit
set_option maxRecDepth 100000

/-- The message is in the map and its subject in the tree. -/
def Added (ms : Nat) (K : List (List UInt8)) (s : Sto) (q : List Rec) (l : List (Nat × Nat)) (r : Rec) (mb g k f3 : Nat) (t1 : Int) (B U : Nat → Prop) (w w' : World) : Prop :=
  ∃ M' B', At w' ms K { s with n := k + 1, by' := total q + r.size, f := f3, t1 := t1, la := s.la + 1, t2 := r.time } (q ++ [r]) (l ++ [(s.la + 1, mb)]) M' B' (fun x => U x ∨ x = mb ∨ x = g) ∧
    Kp (fun x => x = ms ∨ x = s.r ∨ B x ∨ x = s.tb) w w' ∧ ∀ x, B' x → B x ∨ (w.heap.size ≤ x ∧ x ≠ mb ∧ x ≠ g)

theorem added_any {ms mb g k f3 : Nat} {K : List (List UInt8)} {s : Sto} {q : List Rec} {l : List (Nat × Nat)} {M M' : List UInt8 → Option (Nat × SS)} {B B' U : Nat → Prop} {r : Rec} {t1 : Int} {w w11 wX : World} (h : At w ms K s q l M B U)
    (HP : Mapped w w11 ms s q l M B U r mb g k f3 s.la t1) (hkq : q.length = k) (hf : f3 + k = s.la + 1) (hla : s.la < 59) (hk : r.subj ∈ K) (hsz : r.size ≤ 65536) (hmb : w.heap.size ≤ mb) (hg : w.heap.size ≤ g) (hgm : g < mb)
    (hB : Blk wX ms { s with n := k + 1, by' := total q + r.size, f := f3, t1 := t1, la := s.la + 1, t2 := r.time }.cells 91) (hT : Tr wX s.tb M' B') (hK : Kp (fun x => x = ms ∨ B x ∨ x = s.tb) w11 wX)
    (hkeys : ∀ key, M' key ≠ none → M key ≠ none ∨ key = r.subj) (hB' : ∀ x, B' x → B x ∨ w11.heap.size ≤ x) : Added ms K s q l r mb g k f3 t1 B U w wX := by
  have hm := HP.mbx
  have hsz1 := HP.keep.size
  have hsz2 := hK.size
  have hrm : ¬ s.r = ms := Ne.symm (h.blk.neMap h.map)
  have htr : ¬ s.tb = s.r := h.tr.neMap h.map
  have htl := h.tr.lt
  have hml := h.blk.lt
  refine ⟨M', B', h.add hB ?_ hT hkq hf ?_ ?_ hla hk hsz hkeys hmb hg (fun x hx => ?_) (by omega) (by omega), ?_, fun x hx => ?_⟩
  · exact HP.map.keep hK fun e => by
      rcases e with e | e | e
      · exact hrm e
      · exact h.br e
      · exact htr e.symm
  · exact HP.msgs.keep hK fun x hx e => by
      rcases e with e | e | e
      · exact h.ums (e ▸ hx)
      · exact h.bu x e hx
      · exact h.utb (e ▸ hx)
  · exact HP.msg.keep hK fun x hx e => by
      have hxw : w.heap.size ≤ x := by rcases hx with rfl | rfl <;> assumption
      rcases e with e | e | e
      · omega
      · have := htl.2 x e; omega
      · have := htl.1; omega
  · rcases hB' x hx with h' | h'
    · exact .inl h'
    · exact .inr ⟨by omega, by omega, by omega⟩
  · refine HP.keep.mono (G := fun x => x = ms ∨ x = s.r ∨ B x ∨ x = s.tb) (fun x _ e => ?_) |>.trans hK fun i _ e => ?_
    · rcases e with e | e
      · exact .inl e
      · exact .inr (.inl e)
    · rcases e with e | e | e
      · exact .inl e
      · exact .inr (.inr (.inl e))
      · exact .inr (.inr (.inr e))
  · rcases hB' x hx with h' | h'
    · exact .inl h'
    · exact .inr ⟨by omega, by omega, by omega⟩

theorem put_new {ms mb g k f3 la ns cap z : Nat} {K : List (List UInt8)} {s : Sto} {q : List Rec} {l : List (Nat × Nat)} {M : List UInt8 → Option (Nat × SS)} {B U : Nat → Prop} {r : Rec} {t1 : Int} {w w11 w12 W : World} (h : At w ms K s q l M B U)
    (HP : Mapped w w11 ms s q l M B U r mb g k f3 la t1) (hkq : q.length = k) (hsla : s.la = la) (hf : f3 + k = la + 1) (hla : la < 59) (hk : r.subj ∈ K) (hsz : r.size ≤ 65536) (hmb : w.heap.size ≤ mb) (hg : w.heap.size ≤ g) (hgm : g < mb)
    (hM : M r.subj = none) (hB : Blk w12 ms { s with n := k + 1, by' := total q + r.size, f := f3, t1 := t1, la := la + 1, t2 := r.time }.cells 91) (hK : Kp (· = ms) w11 w12)
    (hz : w12.heap.size = z) (hW : Ext w12 W) (hS : Sl W (some ⟨w12.heap.size, 0, none⟩) cap r.subj) (hns : r.subj.length = ns) :
    Calls Tryz.prog 127 #[.pointer (some ⟨s.tb, 0, none⟩), .slice (some ⟨z, 0, none⟩) ns cap, .agg #[.int .u64 1, .int .u64 ((la : Int) + 1), .int .u64 ((la : Int) + 1), .bool false, .bool false]] W
      fun e w' => e = .returned (.tuple #[.pointer none, .bool false]) ∧ Added ms K s q l r mb g k f3 t1 B U w w' := by
  subst hsla hns hz
  have htm : ¬ s.tb = ms := Ne.symm (h.tr.ne h.blk (by decide))
  have hkg := h.kgood.2 r.subj hk
  have hbm : ∀ x, B x → ¬ x = ms := fun x hx e => h.bms (e ▸ hx)
  have hT := (HP.tr.keep hK htm hbm).keep hW id fun _ _ => id
  have hlt := HP.tr.lt
  have hs1 := hK.size
  have hs2 := hW.size
  have hms := h.blk.lt
  have hs0 := HP.keep.size
  refine (insert127 s.tb cap M B r.subj (some ⟨w12.heap.size, 0, none⟩) ⟨1, (s.la : Int) + 1, (s.la : Int) + 1, false, false⟩ W hT h.good h.few hS (fun b off sp e hx => ?_) hkg.1 (by omega) hM).mono ?_
  · simp only [Option.some.injEq, Addr.mk.injEq] at e
    obtain ⟨rfl, _, _⟩ := e
    rcases hx with hx | hx
    · have := hlt.2 _ hx; omega
    · have := hlt.1; omega
  · rintro e w' ⟨rfl, B', nb, h1, h2, h3⟩
    refine ⟨rfl, added_any h HP hkq hf hla hk hsz hmb hg hgm ((hB.keep hW id).keep h2 fun e => ?_) h1 ((hK.mono (fun _ _ e => .inl e)).trans ((hW.mono (G := fun x => B x ∨ x = s.tb) fun _ _ e => absurd e id).trans h2 fun _ _ e => e) fun _ _ e => .inr e) (fun key hkey => ?_) fun x hx => ?_⟩
    · rcases e with e | e
      · exact h.bms e
      · exact htm e.symm
    · unfold put1 at hkey
      split at hkey
      · rename_i e; exact .inr e
      · exact .inl hkey
    · rcases h3 x hx with h' | h'
      · exact .inl h'
      · exact .inr (by omega)

theorem put_known {ms mb g k f3 la b : Nat} {K : List (List UInt8)} {s : Sto} {q : List Rec} {l : List (Nat × Nat)} {M : List UInt8 → Option (Nat × SS)} {B U : Nat → Prop} {r : Rec} {t1 : Int} {ss : SS} {suf : List UInt8} {w w11 w12 w13 : World} (h : At w ms K s q l M B U)
    (HP : Mapped w w11 ms s q l M B U r mb g k f3 la t1) (hkq : q.length = k) (hsla : s.la = la) (hf : f3 + k = la + 1) (hla : la < 59) (hk : r.subj ∈ K) (hsz : r.size ≤ 65536) (hmb : w.heap.size ≤ mb) (hg : w.heap.size ≤ g) (hgm : g < mb)
    (hM : M r.subj = some (b, ss)) (hb : Blk w11 b (ss.cells suf) 269) (hB : Blk w12 ms { s with n := k + 1, by' := total q + r.size, f := f3, t1 := t1, la := la + 1, t2 := r.time }.cells 91) (hK : Kp (· = ms) w11 w12)
    (hK2 : Kp (· = b) w12 w13) (hL : LeafIs w13 b suf) : Added ms K s q l r mb g k f3 t1 B U w w13 := by
  subst hsla
  have htm : ¬ s.tb = ms := Ne.symm (h.tr.ne h.blk (by decide))
  have hbm : ∀ x, B x → ¬ x = ms := fun x hx e => h.bms (e ▸ hx)
  have hbB := (HP.tr.leafAt hM).1
  have hbms : ¬ b = ms := hbm b hbB
  have hT := HP.tr.keep hK htm hbm
  obtain ⟨M', h1, h2⟩ := hT.turned hM (hb.keep hK hbms) hK2 hL
  exact added_any h HP hkq hf hla hk hsz hmb hg hgm (hB.keep hK2 fun e => hbms e.symm) h1 ((hK.mono (fun _ _ e => .inl e)).trans hK2 fun _ _ e => .inr (.inl (e ▸ hbB))) (fun key hkey => .inl (h2 key hkey)) fun x hx => .inl hx

/-- The two limits behind the message. -/
theorem put_end {ms mb g k f3 m n : Nat} {K : List (List UInt8)} {s : Sto} {q : List Rec} {l : List (Nat × Nat)} {B U : Nat → Prop} {r : Rec} {t1 : Int} {w w' : World} (h : Added ms K s q l r mb g k f3 t1 B U w w') (hm : s.mm = m) (hmb : m ≤ 1048576) (hn : s.mb = n) (hnb : n ≤ 1048576)
    (hm1 : w.heap.size ≤ mb) (hg : w.heap.size ≤ g) :
    Calls Tryz.prog 82 #[.pointer (some ⟨ms, 0, none⟩)] w' fun e w2 => e = .returned (.tuple #[]) ∧ Calls Tryz.prog 83 #[.pointer (some ⟨ms, 0, none⟩)] w2 fun e w3 => e = .returned (.tuple #[]) ∧ Put1 ms K s q r m n B U w w3 := by
  obtain ⟨M', B', hA, hK, hB'⟩ := h
  refine (limit82 ms m K _ (q ++ [r]) _ M' B' _ w' hA hm hmb).mono ?_
  rintro e w2 ⟨rfl, s2, l2, M2, B2, hA2, hS2, hK2, hB2⟩
  refine ⟨rfl, (limit83 ms n K s2 _ l2 M2 B2 _ w2 hA2 (hS2.2.2.2.1.trans hn) hnb).mono ?_⟩
  rintro e w3 ⟨rfl, hN⟩
  exact ⟨rfl, Put1.of hK hB' hm1 hg (Now.trans hS2 hK2 hB2 hN)⟩
end Go.Proofs.YtbehafhkgbjgmaaGreatDoor
