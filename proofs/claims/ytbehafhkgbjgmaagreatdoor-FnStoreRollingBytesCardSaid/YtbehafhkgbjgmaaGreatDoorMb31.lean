/-
  The store between two steps: how it stays, its clock, its counts. No condition beyond the store.
-/
import Derived.Test.YtbehafhkgbjgmaaGreatDoorMb20
import Derived.Test.YtbehafhkgbjgmaaGreatDoorMb27
import Derived.Test.YtbehafhkgbjgmaaGreatDoorMb28
import Derived.Test.YtbehafhkgbjgmaaGreatDoorMb29
import Derived.Test.YtbehafhkgbjgmaaGreatDoorMb30
import Derived.Deep.MidRow
import Derived.Test.YtbehafhkgbjgmaaGreatDoorMb05
namespace Go.Proofs.YtbehafhkgbjgmaaGreatDoor
open Go Go.RowKit
set_option maxRecDepth 100000

theorem At.keep {w w' : World} {F : Nat → Prop} {ms : Nat} {K : List (List UInt8)} {s : Sto} {q : List Rec} {l : List (Nat × Nat)} {M : List UInt8 → Option (Nat × SS)} {B U : Nat → Prop} (h : At w ms K s q l M B U) (k : Kp F w w') (hF : ∀ x, Own ms s B U x → ¬ F x) : At w' ms K s q l M B U :=
  ⟨h.blk.keep k (hF _ (.inl rfl)), h.map.keep k (hF _ (.inr (.inl rfl))), h.tr.keep k (hF _ (.inr (.inr (.inl rfl)))) fun x hx => hF x (.inr (.inr (.inr (.inl hx)))), h.msgs.keep k fun x hx => hF x (.inr (.inr (.inr (.inr hx)))),
    h.root, h.num, h.cnt, h.byt, h.low, h.sml, h.keys, h.kgood, h.bms, h.br, h.ums, h.ur, h.utb, h.bu, fun x hx => Nat.lt_of_lt_of_le (h.ult x hx) k.size⟩
theorem Holds.keep {w w' : World} {F O : Nat → Prop} {ms m n f la : Nat} {K : List (List UInt8)} {q : List Rec} (h : Holds w ms K m n q f la O) (k : Kp F w w') (hF : ∀ x, O x → ¬ F x) : Holds w' ms K m n q f la O := by
  obtain ⟨s, l, M, B, U, hA, h0, h4, hm, hn, hf, hl, hO⟩ := h
  exact ⟨s, l, M, B, U, hA.keep k fun x hx => hF x ((hO x).2 hx), h0, h4, hm, hn, hf, hl, hO⟩
theorem Holds.lt {w : World} {O : Nat → Prop} {ms m n f la : Nat} {K : List (List UInt8)} {q : List Rec} (h : Holds w ms K m n q f la O) {x : Nat} (hx : O x) : x < w.heap.size := by
  obtain ⟨s, l, M, B, U, hA, h0, h4, hm, hn, hf, hl, hO⟩ := h
  rcases (hO x).1 hx with e | e | e | e | e
  · rw [e]; exact hA.blk.lt
  · rw [e]; exact hA.map.lt
  · rw [e]; exact hA.tr.lt.1
  · exact hA.tr.lt.2 x e
  · exact hA.ult x e
theorem Holds.ms {w : World} {O : Nat → Prop} {ms m n f la : Nat} {K : List (List UInt8)} {q : List Rec} (h : Holds w ms K m n q f la O) : O ms := by
  obtain ⟨s, l, M, B, U, hA, h0, h4, hm, hn, hf, hl, hO⟩ := h
  exact (hO ms).2 (.inl rfl)
theorem Done.ext {w w1 w2 : World} {O : Nat → Prop} {ms m n f la : Nat} {K : List (List UInt8)} {q : List Rec} (hX : Ext w w1) (h : Done ms K m n O q f la w1 w2) : Done ms K m n O q f la w w2 := by
  obtain ⟨O', h1, h2, h3⟩ := h
  exact ⟨O', h1, (hX.mono fun _ _ e => absurd e id).trans h2 fun _ _ e => e, fun x hx => (h3 x hx).imp id fun h => Nat.le_trans hX.size h⟩
theorem Done.after {w w1 w2 : World} {F O : Nat → Prop} {ms m n f la : Nat} {K : List (List UInt8)} {q : List Rec} (h : Done ms K m n O q f la w w1) (k : Kp F w1 w2) (hF : ∀ O' : Nat → Prop, (∀ x, O' x → O x ∨ w.heap.size ≤ x) → Holds w1 ms K m n q f la O' → Holds w2 ms K m n q f la O') (hn : ∀ x, F x → x < w.heap.size → O x) : Done ms K m n O q f la w w2 := by
  obtain ⟨O', h1, h2, h3⟩ := h
  exact ⟨O', hF O' h3 h1, h2.trans k fun i hi e => hn i e hi, h3⟩

theorem clockH (ms : Nat) (t : Int) (w : World) {O : Nat → Prop} {m n f la : Nat} {K : List (List UInt8)} {q : List Rec} (h : Holds w ms K m n q f la O) :
    Calls Tryz.prog 24 #[.pointer (some ⟨ms, 0, none⟩), .int .i64 t] w fun e w' => e = .returned (.tuple #[]) ∧ Holds w' ms K m n q f la O ∧ Kp O w w' := by
  have hms := h.ms
  obtain ⟨s, l, M, B, U, hA, h0, h4, hm, hn, hf, hl, hO⟩ := h
  refine (clock24 ms s t w hA.blk).mono ?_
  rintro e w' ⟨rfl, h1, h2⟩
  exact ⟨rfl, ⟨_, l, M, B, U, hA.re h1 h2 rfl rfl rfl rfl rfl rfl rfl, h0, h4, hm, hn, hf, hl, hO⟩, h2.mono fun x _ e => e ▸ hms⟩
theorem fastH (ms x : Nat) (w : World) {O : Nat → Prop} {m n f la : Nat} {K : List (List UInt8)} {q : List Rec} (h : Holds w ms K m n q f la O) (hX : Blk w x zState 84) (hx : ¬ O x) :
    Calls Tryz.prog 31 #[.pointer (some ⟨ms, 0, none⟩), .pointer (some ⟨x, 0, none⟩)] w fun e w' => e = .returned (.tuple #[]) ∧ Holds w' ms K m n q f la O ∧ Kp (fun i => O i ∨ i = x) w w' ∧ (∃ z, w'.cell? ⟨x, 4, none⟩ = some (.int .u64 z)) := by
  have hms := h.ms
  obtain ⟨s, l, M, B, U, hA, h0, h4, hm, hn, hf, hl, hO⟩ := h
  refine (fast31 ms x s M B w hA.blk h4 hA.tr hX hA.bms fun hb => hx ((hO x).2 (.inr (.inr (.inr (.inl hb)))))).mono ?_
  rintro e w' ⟨rfl, h1, h2, h3⟩
  refine ⟨rfl, ⟨s, l, M, B, U, ?_, h0, h4, hm, hn, hf, hl, hO⟩, h2.mono (fun i _ e => by rcases e with e | e; exact .inl (by rw [e]; exact hms); exact .inr e), h3⟩
  have hk : Kp (fun i => i = x) w w' → True := fun _ => trivial
  have hxn : ∀ y, Own ms s B U y → y ≠ x := fun y hy e => hx (e ▸ (hO y).2 hy)
  have hrm : ¬ s.r = ms := Ne.symm (hA.blk.neMap hA.map)
  have htm : ¬ s.tb = ms := Ne.symm (hA.tr.ne hA.blk (by decide))
  have hz := h2.size
  exact ⟨h1, hA.map.keep h2 (fun e => e.elim hrm (hxn _ (.inr (.inl rfl)))), hA.tr.keep h2 (fun e => e.elim htm (hxn _ (.inr (.inr (.inl rfl))))) (fun y hy e => e.elim (fun e => hA.bms (e ▸ hy)) (hxn y (.inr (.inr (.inr (.inl hy)))))), hA.msgs.keep h2 fun y hy e => e.elim (fun e => hA.ums (e ▸ hy)) (hxn y (.inr (.inr (.inr (.inr hy))))),
    hA.root, hA.num, hA.cnt, hA.byt, hA.low, hA.sml, hA.keys, hA.kgood, hA.bms, hA.br, hA.ums, hA.ur, hA.utb, hA.bu, fun y hy => Nat.lt_of_lt_of_le (hA.ult y hy) hz⟩

theorem Kp.setAll {b : Nat} (w : World) : ∀ (vs : List Value) (o : Nat) (w' : World), Kp (· = b) w w' → Kp (· = b) w (w'.setCells b o vs)
  | [], _, _, h => h
  | v :: vs, o, _, h => Kp.setAll w vs (o + 1) _ (Kp.setCell (F := (· = b)) h (.inl rfl) v)
theorem setCells_row (b : Nat) (T : TypeId) : ∀ (vs : List Value) (o : Nat) (w : World) (cs : Array Value), Blk w b cs T → o + vs.length ≤ cs.size → ∃ cs', Blk (w.setCells b o vs) b cs' T ∧ cs'.size = cs.size ∧ ∀ i, cs'[i]? = if o ≤ i ∧ i < o + vs.length then vs[i - o]? else cs[i]?
  | [], o, w, cs, h, _ => ⟨cs, h, rfl, fun i => by simp; intro h1 h2; omega⟩
  | v :: vs, o, w, cs, h, hl => by
    simp only [List.length_cons] at hl
    obtain ⟨cs', h1, h2, h3⟩ := setCells_row b T vs (o + 1) (w.setCell ⟨b, o, none⟩ v) _ (h.set o v) (by simp; omega)
    refine ⟨cs', h1, by simpa using h2, fun i => ?_⟩
    rw [h3 i]
    simp only [List.length_cons]
    by_cases hi : i = o
    · subst hi
      rw [if_neg (by omega), if_pos (by omega), Array.getElem?_setIfInBounds_self_of_lt (by omega)]
      simp
    · by_cases h4 : o + 1 ≤ i ∧ i < o + 1 + vs.length
      · rw [if_pos h4, if_pos (by omega)]
        obtain ⟨j, rfl⟩ : ∃ j, i = o + 1 + j := ⟨i - (o + 1), by omega⟩
        have e1 : o + 1 + j - (o + 1) = j := by omega
        have e2 : o + 1 + j - o = j + 1 := by omega
        rw [e1, e2, List.getElem?_cons_succ]
      · rw [if_neg h4, if_neg (by omega), Array.getElem?_setIfInBounds_ne (fun e => hi e.symm)]
theorem Blk.setAll {w : World} {b : Nat} {cs : Array Value} {T : TypeId} (h : Blk w b cs T) (vs : List Value) (hl : vs.length = cs.size) : Blk (w.setCells b 0 vs) b vs.toArray T := by
  obtain ⟨cs', h1, h2, h3⟩ := setCells_row b T vs 0 w cs h (by omega)
  have e : cs' = vs.toArray := by
    apply Array.ext_getElem?
    intro i
    rw [h3 i]
    by_cases hi : i < vs.length
    · rw [if_pos (by omega)]; simp
    · rw [if_neg (by omega)]
      have : ¬ i < cs.size := by omega
      simp [hi, this]
  rw [← e]
  exact h1
theorem Blk.range {w : World} {b : Nat} {cs : Array Value} {T : TypeId} (h : Blk w b cs T) : w.rangeAt b 0 cs.toList := fun j v hj => by
  rw [Nat.zero_add, h.cell j]; simpa using hj
theorem Blk.there {w : World} {b : Nat} {cs : Array Value} {T : TypeId} (h : Blk w b cs T) {k : Nat} (hk : k = cs.size) : w.there b 0 k := fun j hj => by
  subst hk
  rw [Nat.zero_add, h.cell j]
  exact ⟨by simp [hj], h.frozen j⟩

def zMsg : List Value := [.string (str []), .slice none 0 0, .slice none 0 0, .int .u64 0, .int .i64 0]
def zSt : List Value := [.int .u64 0, .int .u64 0, .int .u64 0, .int .u64 0, .int .i64 0, .int .i64 0, .int .i64 0, .int .i64 0, .slice none 0 0, .int .u64 0]
/-- A step's answer. -/
def told (kind num : Int) (msg st : List Value) : List Value := [.int .i64 kind, .bool false, .int .u64 num, .int .u64 0] ++ msg ++ [.slice none 0 0, .slice none 0 0] ++ st ++ [.string (str [])]
theorem told_length (k n : Int) (ms st : List Value) (h1 : ms.length = 5) (h2 : st.length = 10) : (told k n ms st).length = 22 := by simp [told, h1, h2]
theorem told_one {k n : Int} {ms st : List Value} (h1 : ∀ u, u ∈ ms → u.oneCell' = true) (h2 : ∀ u, u ∈ st → u.oneCell' = true) : ∀ u, u ∈ told k n ms st → u.oneCell' = true := by
  intro u hu
  simp only [told, List.mem_append, List.mem_cons, List.not_mem_nil, or_false] at hu
  rcases hu with (((((rfl | rfl | rfl | rfl) | hu) | (rfl | rfl)) | hu) | rfl)
  all_goals first | rfl | exact h1 u hu | exact h2 u hu
theorem zMsg_one : ∀ u, u ∈ zMsg → u.oneCell' = true := by decide
theorem zSt_one : ∀ u, u ∈ zSt → u.oneCell' = true := by decide
end Go.Proofs.YtbehafhkgbjgmaaGreatDoor

/-
  A step that stores, as the script plays it. No condition beyond the store and the step.
-/
namespace Go.Proofs.YtbehafhkgbjgmaaGreatDoor
open Go Go.RowKit
set_option maxRecDepth 100000

theorem stop_here3 {p : Prop} (h : Hid p) : p := h.out
/-- A copy of bytes: new memory; nil only with no room. -/
def CopiedN (l : List UInt8) (w : World) (e : Ending) (w' : World) : Prop :=
  ∃ ao cap, e = .returned (.slice ao l.length cap) ∧ Sl w' ao cap l ∧ (ao = none → cap = 0) ∧ (∀ b off s, ao = some ⟨b, off, s⟩ → w.heap.size ≤ b ∧ b < w'.heap.size) ∧ Ext w w'
set_option maxHeartbeats 1000000 in
theorem copied30n (l : List UInt8) (ao : Option Addr) (cap : Nat) (w : World) (hB : Bs w ao cap l) (hl : l.length ≤ 1099511627776) :
    Calls Tryz.prog 30 #[.slice ao l.length cap] w (CopiedN l w) := by
  obtain ⟨i0, hi, hz0, hz1, hz2⟩ := inf5
  have HB := Lib.hid hB
  clear hB
  have hul := u8s_length l
  generalize hn : l.length = n at hul
  rw [hn] at hl
  cases ao with
  | none =>
    have h0 := HB.out.2.2.2 rfl
    obtain rfl := h0.2
    obtain rfl : n = 0 := by rw [← hn, h0.1]; rfl
    go_enter Tryz.func30, Tryz.ntmps30
    go_wp2
    go_ret
    obtain rfl : l = [] := h0.1
    exact ⟨_, _, rfl, ⟨BytesAt.nil _ _, ⟨fun e => by simp at e, fun a e => by simp at e; simp [← e]⟩, Nat.le_refl _, by simp⟩, fun e => by simp at e, fun b off s e => by simp at e; simp [← e.1], (Kp.refl _ _).alloc _⟩
  | some a =>
    have hnews := bytes_news (HB.out.1.alloc (.cells #[] 5))
    have hml : 0 + n ≤ maxLen := by unfold maxLen; omega
    go_enter Tryz.func30, Tryz.ntmps30
    go_wp2_with (at_builtin; refine wpList_append_own _ rfl (.tmp 3) (.tmp 4) 36 rfl w.heap.size 5 i0 (.int .u8 0) 1 1 Tryz.underlying36 hi hz0 hz1 hz2 rfl (by decide) _ 0 [] rfl (World.ownsRow_made w #[] 0 (Nat.le_refl _) (by decide) rfl) a n cap (u8s l) rfl (by omega) hnews (u8s_one l) hml (by omega) (by simp) ?_; intro v1 w1 hown hgrow _)
    simp only [Nat.zero_add, List.nil_append] at hown
    rw [← hn] at hown
    obtain ⟨ao', cap', rfl, hS, _, h0n, hb⟩ := own_sl hown (by omega)
    have H0n := Lib.hid h0n
    clear h0n
    rw [hn]
    have HS := Lib.hid hS
    have HG := Lib.hid hgrow
    go_wp2_with fail
    go_ret
    rw [← hn]
    exact ⟨ao', cap', rfl, HS.out, H0n.out, fun b off s e => ⟨(hb b off s e).1, (hb b off s e).2.1⟩, Kp.grown ((Kp.refl _ _).alloc _) HG.out fun k hk => .inr (by have : w.heap.size = k := Option.some.inj hk; omega)⟩
def StepV.rc (v : StepV) : Rec := ⟨v.subj, v.hdr, v.data, v.time⟩
theorem inf47 : (Tryz.prog.info? 47).map (·.size) = some 22 := by kernel_rfl
theorem Blk.keepD {w1 w2 : World} {b : Nat} {cs : Array Value} {T : TypeId} {ms m n f la : Nat} {K : List (List UInt8)} {q : List Rec} {O : Nat → Prop} (h : Blk w1 b cs T) (hD : Done ms K m n O q f la w1 w2) (hb : ¬ O b) : Blk w2 b cs T := by
  obtain ⟨O', _, h2, _⟩ := hD
  exact h.keep h2 hb
set_option maxHeartbeats 8000000 in
theorem deed25 (ms m n : Nat) (K : List (List UInt8)) (q : List Rec) (f la : Nat) (O : Nat → Prop) (v : StepV) (w : World) (hH : Holds w ms K m n q f la O) (hop : v.op = 0) (hmb : m ≤ 1048576) (hnb : n ≤ 1048576) (hla : la < 59) (hk : v.subj ∈ K) (hsz : v.rc.size ≤ 65536)
    (hHB : Bs w v.ha v.hc v.hdr) (hDB : Bs w v.da v.dc v.data) :
    Calls Tryz.prog 25 #[.pointer (some ⟨ms, 0, none⟩), v.agg] w fun e w' => (∃ num, e = .returned (.agg (told 0 num zMsg zSt).toArray)) ∧ Done ms K m n O (put m n q v.rc) (firstOf (la + 1) (put m n q v.rc)) (la + 1) w w' := by
  have hszs : v.hdr.length ≤ 65536 ∧ v.data.length ≤ 65536 := by unfold StepV.rc Rec.size at hsz; simp only at hsz; omega
  have H30h : Hid (∀ W, Ext w W → Calls Tryz.prog 30 #[.slice v.ha v.hdr.length v.hc] W (CopiedN v.hdr W)) := Lib.hid fun W hX => copied30n v.hdr v.ha v.hc W ⟨hHB.1.keep hX fun _ _ _ _ => id, hHB.2⟩ (by omega)
  have H30d : Hid (∀ W, Ext w W → Calls Tryz.prog 30 #[.slice v.da v.data.length v.dc] W (CopiedN v.data W)) := Lib.hid fun W hX => copied30n v.data v.da v.dc W ⟨hDB.1.keep hX fun _ _ _ _ => id, hDB.2⟩ (by omega)
  have H29 : Hid (∀ W ha hc da dc, Ext w W → Sl W ha hc v.hdr → Sl W da dc v.data → BytesOff O ha → BytesOff O da → (ha = none → hc = 0) → (da = none → dc = 0) → Calls Tryz.prog 29 #[.pointer (some ⟨ms, 0, none⟩), .string (str v.subj), .slice ha v.hdr.length hc, .slice da v.data.length dc, .int .u64 0, .int .i64 v.time, .int .i64 0, .bool true] W fun e w' =>
      e = .returned .nilIface ∧ Done ms K m n O (put m n q v.rc) (firstOf (la + 1) (put m n q v.rc)) (la + 1) W w') := Lib.hid fun W ha hc da dc hX h1 h2 h3 h4 h5 h6 =>
    (store29 ms m n K q f la O v.rc ha da hc dc 0 W (hH.keep hX fun _ _ => id) hmb hnb hla hk hsz h1 h2 h3 h4 h5 h6)
  have HOl := Lib.hid (fun x (hx : O x) => hH.lt hx)
  have hmsl : ms < w.heap.size := hH.lt hH.ms
  have HH := Lib.hid hH
  clear hH hHB hDB
  unfold StepV.agg
  rw [hop]
  generalize put m n q v.rc = q' at H29 ⊢
  generalize firstOf (la + 1) q' = f' at H29 ⊢
  unfold CopiedN at H30h H30d
  generalize v.hdr.length = n1 at H30h H29
  generalize v.data.length = n2 at H30d H29
  go_enter Tryz.func25, Tryz.ntmps25
  go_wp2_with fail
  obtain ⟨w0, hw0⟩ : ∃ w0, ((w.alloc (.cells #[.int .i64 0, .string (str v.subj), .slice v.ha n1 v.hc, .slice v.da n2 v.dc, .int .i64 v.time, .int .u64 v.seq, .int .u64 v.num, .int .u64 v.keep, .bool v.last, .slice v.sa v.subs.length v.sc, .int .i64 v.c0, .int .i64 v.c1, .int .i64 v.c2, .bool v.c3, .bool v.c4, .int .u64 v.c5] 44)).alloc (.cells #[.int .i64 0, .bool false, .int .u64 0, .int .u64 0, .string ⟨#[]⟩, .slice none 0 0, .slice none 0 0, .int .u64 0, .int .i64 0, .slice none 0 0, .slice none 0 0, .int .u64 0, .int .u64 0, .int .u64 0, .int .u64 0, .int .i64 0, .int .i64 0, .int .i64 0, .int .i64 0, .slice none 0 0, .int .u64 0, .string ⟨#[]⟩] 47)).alloc (.cells #[.int .i64 0, .bool false, .int .u64 0, .int .u64 0, .string ⟨#[]⟩, .slice none 0 0, .slice none 0 0, .int .u64 0, .int .i64 0, .slice none 0 0, .slice none 0 0, .int .u64 0, .int .u64 0, .int .u64 0, .int .u64 0, .int .i64 0, .int .i64 0, .int .i64 0, .int .i64 0, .slice none 0 0, .int .u64 0, .string ⟨#[]⟩] 47) = w0 := ⟨_, rfl⟩
  rw [hw0]
  have HX0 : Hid (Ext w w0) := Lib.hid (by rw [← hw0]; exact (((Kp.refl _ _).alloc _).alloc _).alloc _)
  have HP0 : Hid (Blk w0 w.heap.size #[.int .i64 0, .string (str v.subj), .slice v.ha n1 v.hc, .slice v.da n2 v.dc, .int .i64 v.time, .int .u64 v.seq, .int .u64 v.num, .int .u64 v.keep, .bool v.last, .slice v.sa v.subs.length v.sc, .int .i64 v.c0, .int .i64 v.c1, .int .i64 v.c2, .bool v.c3, .bool v.c4, .int .u64 v.c5] 44) := Lib.hid (by rw [← hw0]; exact ((Blk.new w _ _).alloc _).alloc _)
  have HR0 : Hid (Blk w0 (w.heap.size + 1) (told 0 0 zMsg zSt).toArray 47) := Lib.hid (by rw [← hw0]; exact (Blk.newAt (w := w.alloc _) (cs := #[.int .i64 0, .bool false, .int .u64 0, .int .u64 0, .string ⟨#[]⟩, .slice none 0 0, .slice none 0 0, .int .u64 0, .int .i64 0, .slice none 0 0, .slice none 0 0, .int .u64 0, .int .u64 0, .int .u64 0, .int .u64 0, .int .i64 0, .int .i64 0, .int .i64 0, .int .i64 0, .slice none 0 0, .int .u64 0, .string ⟨#[]⟩]) (T := 47) (by simp)).alloc _)
  have HT0 : Hid (Blk w0 (w.heap.size + 1 + 1) (told 0 0 zMsg zSt).toArray 47) := Lib.hid (by rw [← hw0]; exact Blk.newAt (w := (w.alloc _).alloc _) (cs := #[.int .i64 0, .bool false, .int .u64 0, .int .u64 0, .string ⟨#[]⟩, .slice none 0 0, .slice none 0 0, .int .u64 0, .int .i64 0, .slice none 0 0, .slice none 0 0, .int .u64 0, .int .u64 0, .int .u64 0, .int .u64 0, .int .i64 0, .int .i64 0, .int .i64 0, .int .i64 0, .slice none 0 0, .int .u64 0, .string ⟨#[]⟩]) (T := 47) (by simp))
  have hz0 : w0.heap.size = w.heap.size + 3 := by rw [← hw0]; simp
  clear hw0
  have hbxO : ¬ O w.heap.size := fun e => Nat.lt_irrefl _ (HOl.out _ e)
  have hr1O : ¬ O (w.heap.size + 1) := fun e => by have := HOl.out _ e; omega
  have hr2O : ¬ O (w.heap.size + 1 + 1) := fun e => by have := HOl.out _ e; omega
  have HOff : Hid (∀ ao : Option Addr, (∀ b off s, ao = some ⟨b, off, s⟩ → w.heap.size ≤ b) → BytesOff O ao) := Lib.hid fun ao h b off s e hb => by have h1 := h b off s e; have h2 := HOl.out _ hb; omega
  generalize hbx : w.heap.size = bx at HP0 HR0 HT0 hbxO hr1O hr2O
  have c1 : w0.cell? ⟨bx, 1, none⟩ = some (.string (str v.subj)) := HP0.out.cell 1
  have c2 : w0.cell? ⟨bx, 2, none⟩ = some (.slice v.ha n1 v.hc) := HP0.out.cell 2
  have c3 : w0.cell? ⟨bx, 3, none⟩ = some (.slice v.da n2 v.dc) := HP0.out.cell 3
  have c4 : w0.cell? ⟨bx, 4, none⟩ = some (.int .i64 v.time) := HP0.out.cell 4
  go_region_held3 (fun W => W.cell? ⟨bx, 1, none⟩ = some (.string (str v.subj)) ∧ W.cell? ⟨bx, 2, none⟩ = some (.slice v.ha n1 v.hc) ∧ W.cell? ⟨bx, 3, none⟩ = some (.slice v.da n2 v.dc) ∧ W.cell? ⟨bx, 4, none⟩ = some (.int .i64 v.time)) (refine ⟨?_, ?_, ?_, ?_⟩ <;> simp [*]) (first | (go_at_call 30; (with_reducible refine (H30h.out _ HX0.out.drew).mono ?_); rintro e w1 ⟨ha1, hc1, rfl, hS1, hz1, hb1, hX1⟩; have HS1 := Lib.hid hS1; have Hz1 := Lib.hid hz1; have Hb1 := Lib.hid hb1; have HPP := Lib.hid (HP0.out.drew.keep hX1 id); have HR1 := Lib.hid (HR0.out.drew.keep hX1 id); have HT1 := Lib.hid (HT0.out.drew.keep hX1 id); have HX1 := Lib.hid (HX0.out.drew.trans hX1 fun _ _ h => h); clear hS1 hz1 hb1 hX1; have d1 : w1.cell? ⟨bx, 1, none⟩ = some (.string (str v.subj)) := HPP.out.cell 1; have d2 : w1.cell? ⟨bx, 2, none⟩ = some (.slice v.ha n1 v.hc) := HPP.out.cell 2; have d3 : w1.cell? ⟨bx, 3, none⟩ = some (.slice v.da n2 v.dc) := HPP.out.cell 3; have d4 : w1.cell? ⟨bx, 4, none⟩ = some (.int .i64 v.time) := HPP.out.cell 4) | (go_at_call 30; (with_reducible refine (H30d.out _ HX1.out).mono ?_); rintro e w2 ⟨da1, dc1, rfl, hS2, hz2, hb2, hX2⟩; have HS2 := Lib.hid hS2; have Hz2 := Lib.hid hz2; have Hb2 := Lib.hid hb2; have HPP := Lib.hid (HPP.out.keep hX2 id); have HR2 := Lib.hid (HR1.out.keep hX2 id); have HT2 := Lib.hid (HT1.out.keep hX2 id); have HX2 := Lib.hid (HX1.out.trans hX2 fun _ _ h => h); have HS1 := Lib.hid (HS1.out.ext hX2); clear hS2 hz2 hb2 hX2; have g1 : w2.cell? ⟨bx, 1, none⟩ = some (.string (str v.subj)) := HPP.out.cell 1; have g2 : w2.cell? ⟨bx, 2, none⟩ = some (.slice v.ha n1 v.hc) := HPP.out.cell 2; have g3 : w2.cell? ⟨bx, 3, none⟩ = some (.slice v.da n2 v.dc) := HPP.out.cell 3; have g4 : w2.cell? ⟨bx, 4, none⟩ = some (.int .i64 v.time) := HPP.out.cell 4) | (go_at_call 29; (with_reducible refine (H29.out _ ha1 hc1 da1 dc1 HX2.out HS1.out HS2.out (HOff.out ha1 fun b off s e => Nat.le_trans HX0.out.drew.size (Hb1.out b off s e).1) (HOff.out da1 fun b off s e => Nat.le_trans HX1.out.size (Hb2.out b off s e).1) Hz1.out Hz2.out).mono ?_); rintro e w3 ⟨rfl, hD⟩; have HPP := Lib.hid (HPP.out.keepD hD hbxO); have HR3 := Lib.hid (HR2.out.keepD hD hr1O); have HT3 := Lib.hid (HT2.out.keepD hD hr2O); have HD := Lib.hid hD; clear hD; have k1 : w3.cell? ⟨bx, 1, none⟩ = some (.string (str v.subj)) := HPP.out.cell 1; have k2 : w3.cell? ⟨bx, 2, none⟩ = some (.slice v.ha n1 v.hc) := HPP.out.cell 2; have k3 : w3.cell? ⟨bx, 3, none⟩ = some (.slice v.da n2 v.dc) := HPP.out.cell 3; have k4 : w3.cell? ⟨bx, 4, none⟩ = some (.int .i64 v.time) := HPP.out.cell 4))
  clear c1 c2 c3 c4 d1 d2 d3 d4 g1 g2 g3 g4 k1 k2 k3 k4
  obtain ⟨O', hH', hK', hO'⟩ := HD.out
  have HK' := Lib.hid hK'
  have HO' := Lib.hid hO'
  have HH' := Lib.hid hH'
  have hz2 := HX2.out.size
  have hz3 := hK'.size
  have hrl1 := HR2.out.lt
  have hrl2 := HT2.out.lt
  have hO1 : ¬ O' (bx + 1) := fun e => (hO' _ e).elim hr1O fun h => by omega
  have hO2 : ¬ O' (bx + 1 + 1) := fun e => (hO' _ e).elim hr2O fun h => by omega
  clear hH' hK' hO'
  have HX4 : Hid (Ext w3 (w3.alloc (.cells zState 84))) := Lib.hid ((Kp.refl _ _).alloc _)
  have H31 := Lib.hid (fastH ms w3.heap.size (w3.alloc (.cells zState 84)) (HH'.out.keep HX4.out fun _ _ => id) (Blk.new _ _ _) fun e => Nat.lt_irrefl _ (HH'.out.lt e))
  unfold zState at H31 HX4
  go_wp2_with fail
  refine H31.out.mono ?_
  rintro e w5 ⟨rfl, h1, h2, z, h3⟩
  have HH5 := Lib.hid h1
  have HK5 := Lib.hid h2
  have hrw1 : ¬ (bx + 1 = w3.heap.size) := by have := HR3.out.lt; omega
  have hrw2 : ¬ (bx + 1 + 1 = w3.heap.size) := by have := HT3.out.lt; omega
  have HR5 := Lib.hid ((HR3.out.keep HX4.out id).keep h2 fun e => e.elim hO1 hrw1)
  have HT5 := Lib.hid ((HT3.out.keep HX4.out id).keep h2 fun e => e.elim hO2 hrw2)
  have x4 : w5.cell? ⟨w3.heap.size, 4, none⟩ = some (.int .u64 z) := h3
  have y0 : w5.cell? ⟨bx + 1 + 1, 0, none⟩ = some (.int .i64 0) := HT5.out.cell 0
  have y2 : w5.cell? ⟨bx + 1 + 1, 2, none⟩ = some (.int .u64 0) := HT5.out.cell 2
  have v0 : w5.frozen? ⟨bx + 1 + 1, 0, none⟩ = false := HT5.out.frozen 0
  have v2 : w5.frozen? ⟨bx + 1 + 1, 2, none⟩ = false := HT5.out.frozen 2
  clear h1 h2 h3 H31
  go_wp2_with fail
  refine (one41 .nilIface 0 (.inl ⟨rfl, rfl⟩) _).mono ?_
  rintro e w6 ⟨rfl, rfl⟩
  have hT6 := (HT5.out.set 2 (.int .u64 z)).set 0 (.int .i64 0)
  have HT6 : Hid (Blk ((w5.setCell ⟨bx + 1 + 1, 2, none⟩ (.int .u64 z)).setCell ⟨bx + 1 + 1, 0, none⟩ (.int .i64 0)) (bx + 1 + 1) (told 0 z zMsg zSt).toArray 47) := Lib.hid hT6
  have HR6 : Hid (Blk ((w5.setCell ⟨bx + 1 + 1, 2, none⟩ (.int .u64 z)).setCell ⟨bx + 1 + 1, 0, none⟩ (.int .i64 0)) (bx + 1) (told 0 0 zMsg zSt).toArray 47) := Lib.hid ((HR5.out.setOther (a := ⟨bx + 1 + 1, 2, none⟩) (by simp) _).setOther (a := ⟨bx + 1 + 1, 0, none⟩) (by simp) _)
  clear hT6
  go_wp2_with (first | (refine wpList_load_mid (by with_reducible rfl) 47 (.tmp 5) (by with_reducible rfl) (bx + 1 + 1) 0 (by rfl) (told 0 z zMsg zSt) _ HT6.out.range Tryz.underlying47 (by rfl) inf47 ?_) | (refine wpList_store_mid (by with_reducible rfl) 47 (.tmp 4) (.tmp 137) (by with_reducible rfl) (bx + 1) 0 (told 0 z zMsg zSt).toArray (by rfl) (by rfl) (HR6.out.there (by rfl)) inf47 (all_oneCell_toArray (told_one zMsg_one zSt_one)) ?_))
  have hRF := HR6.out.setAll (told 0 z zMsg zSt) (by simp [told, zMsg, zSt])
  have hKF : Kp (fun i => i = bx + 1 + 1 ∨ i = bx + 1) w5 (((w5.setCell ⟨bx + 1 + 1, 2, none⟩ (.int .u64 z)).setCell ⟨bx + 1 + 1, 0, none⟩ (.int .i64 0)).setCells (bx + 1) 0 (told 0 z zMsg zSt)) :=
    (((Kp.refl _ _).setL _).setL _).trans (Kp.setAll _ _ 0 _ (Kp.refl _ _)) fun _ _ e => .inr e
  refine bodyPost_ret (results_cell_row (P := Tryz.prog) rfl _ _ (bx + 1) 47 _ (0, 0) _ rfl hRF Tryz.underlying47 rfl (by kernel_rfl)) rfl ?_
  have hz0' := HX2.out.size
  refine ⟨⟨z, rfl⟩, ⟨O', HH5.out.keep hKF fun x hx e => e.elim (fun e => hO2 (e ▸ hx)) fun e => hO1 (e ▸ hx), ?_, fun x hx => (HO'.out x hx).imp id fun h => Nat.le_trans HX2.out.size h⟩⟩
  refine ((((HX2.out.mono fun _ _ e => absurd e id).trans HK'.out fun _ _ e => e).trans HX4.out fun _ _ e => absurd e id).trans HK5.out fun i hi e => ?_).trans hKF fun i hi e => ?_
  · rcases e with e | e
    · rcases HO'.out i e with h | h
      · exact h
      · omega
    · omega
  · omega
end Go.Proofs.YtbehafhkgbjgmaaGreatDoor

/-
  What the store is asked: a message, none, the state. No condition beyond the store.
-/
namespace Go.Proofs.YtbehafhkgbjgmaaGreatDoor
open Go Go.RowKit
set_option maxRecDepth 100000

/-- The two errors of a store lie in their variables. -/
def Errs (w : World) : Prop := ∃ t2 v2 t3 v3, w.cell? ⟨2, 0, none⟩ = some (.iface t2 v2) ∧ w.cell? ⟨3, 0, none⟩ = some (.iface t3 v3)
theorem Errs.keep {w w' : World} {F : Nat → Prop} (h : Errs w) (k : Kp F w w') (h2 : ¬ F 2) (h3 : ¬ F 3) : Errs w' := by
  obtain ⟨t2, v2, t3, v3, g2, g3⟩ := h
  exact ⟨t2, v2, t3, v3, (k.cell h2 (World.block_lt_of_cell? w _ g2)).trans g2, (k.cell h3 (World.block_lt_of_cell? w _ g3)).trans g3⟩

theorem loadH (ms i sq : Nat) (r : Rec) (w : World) {O : Nat → Prop} {m n f la : Nat} {K : List (List UInt8)} {q : List Rec} (h : Holds w ms K m n q f la O) (hi : q[i]? = some r) (he : f + i = sq) :
    Calls Tryz.prog 42 #[.pointer (some ⟨ms, 0, none⟩), .int .u64 (sq : Int), .pointer none] w fun e w' => ∃ b, e = .returned (.tuple #[.pointer (some ⟨b, 0, none⟩), .nilIface]) ∧ w.heap.size ≤ b ∧ MsgL w' w.heap.size b sq r ∧ Kp O w w' ∧ Holds w' ms K m n q f la O := by
  subst he
  have hms := h.ms
  obtain ⟨s, l, M, B, U, hA, h0, h4, hm, hn, hf, hl, hO⟩ := h
  obtain ⟨a, b, c, rfl, hne, hM⟩ := hA.msgs.at i r hi
  rw [hf] at hne hM
  have hmap := hA.map
  rw [hf] at hmap
  have hsz := (hA.sml r (List.mem_of_getElem? hi)).2
  refine load42 (f + i) _ w _ ((load88 ms (f + i) s r b a c U w hA.blk h4 hmap hne hA.ums hA.ult hM (by omega)).mono ?_)
  rintro e w' ⟨b', rfl, h1, h2, h3, h5⟩
  exact ⟨_, _, rfl, b', rfl, h1, h2, h3.mono (fun x _ e => e ▸ hms), s, _, M, B, U, hA.re h5 h3 rfl rfl rfl rfl rfl rfl rfl, h0, h4, hm, hn, hf, hl, hO⟩
theorem missH (ms sq : Nat) (w : World) {O : Nat → Prop} {m n f la : Nat} {K : List (List UInt8)} (h : Holds w ms K m n [] f la O) (hsq : sq ≤ la) (hE : Errs w) (h2 : ¬ O 2) (h3 : ¬ O 3) :
    Calls Tryz.prog 42 #[.pointer (some ⟨ms, 0, none⟩), .int .u64 (sq : Int), .pointer none] w fun e w' => (∃ t x, e = .returned (.tuple #[.pointer none, .iface t x])) ∧ Kp O w w' ∧ Holds w' ms K m n [] f la O := by
  have hms := h.ms
  obtain ⟨s, l, M, B, U, hA, h0, h4, hm, hn, hf, hl, hO⟩ := h
  obtain ⟨t2, v2, t3, v3, g2, g3⟩ := hE
  have hlen := hA.msgs.length
  obtain rfl : l = [] := List.eq_nil_of_length_eq_zero (by simpa using hlen)
  refine load42 sq _ w _ ((load88_none ms sq s [] t2 t3 v2 v3 w hA.blk h4 hA.map (by simp) (by rw [hl]; exact hsq) g2 g3 (fun e => h2 (e ▸ hms)) (fun e => h3 (e ▸ hms))).mono ?_)
  rintro e w' ⟨rfl, h3, h5⟩
  exact ⟨_, _, rfl, ⟨t3, v3, rfl⟩, h3.mono (fun x _ e => e ▸ hms), s, _, M, B, U, hA.re h5 h3 rfl rfl rfl rfl rfl rfl rfl, h0, h4, hm, hn, hf, hl, hO⟩
theorem stateH (ms : Nat) (w : World) {O : Nat → Prop} {m n f la : Nat} {K : List (List UInt8)} {q : List Rec} (h : Holds w ms K m n q f la O) :
    Calls Tryz.prog 58 #[.pointer (some ⟨ms, 0, none⟩)] w fun e w' => (∃ t1 t2 sz d cap, e = .returned (.agg #[.int .u64 q.length, .int .u64 (total q), .int .u64 f, .int .i64 t1, .int .u64 la, .int .i64 t2, .int .i64 sz, .map none, .int .i64 0, .slice d 0 cap, .int .i64 0])) ∧ Kp O w w' ∧ Holds w' ms K m n q f la O := by
  have hms := h.ms
  obtain ⟨s, l, M, B, U, hA, h0, h4, hm, hn, hf, hl, hO⟩ := h
  refine (state58 ms s M B w hA.blk h0 h4 hA.tr hA.root hA.bms (hA.num.imp (fun h => by rw [hA.cnt]; exact h) fun h => ⟨by rw [hA.cnt, h.1]; rfl, h.2⟩)).mono ?_
  rintro e w' ⟨⟨sz, d, cap, rfl⟩, h5, h3⟩
  refine ⟨⟨s.t1, s.t2, sz, d, cap, ?_⟩, h3.mono (fun x _ e => e ▸ hms), s, l, M, B, U, hA.re h5 h3 rfl rfl rfl rfl rfl rfl rfl, h0, h4, hm, hn, hf, hl, hO⟩
  rw [← hA.cnt, ← hA.byt, ← hf, ← hl]
  rfl

theorem message61z (w : World) : Calls Tryz.prog 61 #[.pointer none] w fun e w' => e = .returned (.agg zMsg.toArray) ∧ Ext w w' := by
  go_enter Tryz.func61, Tryz.ntmps61
  go_wp2_with fail
  refine bodyPost_ret (results_cell_row (P := Tryz.prog) rfl _ _ w.heap.size 38 _ (0, 0) _ rfl (Blk.new w _ _) Tryz.underlying38 rfl (by kernel_rfl)) rfl ?_
  exact ⟨rfl, (Kp.refl _ _).alloc _⟩

theorem stop_load {ops : Array Oper} {rest : List Oper} {o : Oper} {a : Act} {w : World} {Q : Exit → Act → World → Prop} {t : TypeId} {x : Operand} (_hop : o.op = .load t x) (h : Hid (wpList Tryz.prog ops Q (o :: rest) a w)) : wpList Tryz.prog ops Q (o :: rest) a w := h.out
/-- What a step answers. -/
inductive Ans where
  | deed
  | state (n b f la : Nat)
  | msg (s : Nat) (r : Rec)
  | none
/-- The cells of an answer; its bytes lie in no block of O. -/
def AnsAt (w : World) (O : Nat → Prop) (cs : List Value) : Ans → Prop
  | .deed => ∃ num, cs = told 0 num zMsg zSt
  | .state n b f la => ∃ t1 t2 sz, cs = told 0 0 zMsg [.int .u64 n, .int .u64 b, .int .u64 f, .int .u64 la, .int .i64 t1, .int .i64 t2, .int .i64 sz, .int .i64 0, .slice none 0 0, .int .u64 0]
  | .msg s r => ∃ ha hc da dc, cs = told 0 0 [.string (str r.subj), .slice ha r.hdr.length hc, .slice da r.data.length dc, .int .u64 s, .int .i64 r.time] zSt ∧ Sl w ha hc r.hdr ∧ Sl w da dc r.data ∧ In (fun x => x < w.heap.size ∧ ¬ O x) ha ∧ In (fun x => x < w.heap.size ∧ ¬ O x) da ∧ (ha = none → hc = 0) ∧ (da = none → dc = 0)
  | .none => cs = told 1 0 zMsg zSt
end Go.Proofs.YtbehafhkgbjgmaaGreatDoor
