/-
  A message is stored: the walk where the subject is new and the store is empty. No condition beyond the store's own.
-/
import Derived.Test.YtbehafhkgbjgmaaGreatDoorMb22
namespace Go.Proofs.YtbehafhkgbjgmaaGreatDoor
open Go Go.RowKit
set_option maxRecDepth 100000

set_option maxHeartbeats 16000000 in
theorem store64a (ms m n : Nat) (K : List (List UInt8)) (s : Sto) (q : List Rec) (l : List (Nat × Nat)) (M : List UInt8 → Option (Nat × SS)) (B U : Nat → Prop) (r : Rec) (ha da : Option Addr) (hc dc : Nat) (x6 : Int) (w : World)
    (hA : At w ms K s q l M B U) (hm : s.mm = m) (hmb : m ≤ 1048576) (hn : s.mb = n) (hnb : n ≤ 1048576) (hla : s.la < 59) (hk : r.subj ∈ K) (hsz : r.size ≤ 65536)
    (hH : Sl w ha hc r.hdr) (hD : Sl w da dc r.data) (hHo : BytesOff (Own ms s B U) ha) (hDo : BytesOff (Own ms s B U) da) (hHz : ha = none → hc = 0) (hDz : da = none → dc = 0) (hM : M r.subj = none) (hq : q.length = 0) :
    Calls Tryz.prog 64 #[.pointer (some ⟨ms, 0, none⟩), .string (str r.subj), .slice ha r.hdr.length hc, .slice da r.data.length dc, .int .u64 0, .int .i64 r.time, .int .i64 x6, .bool true] w fun e w' =>
      e = .returned .nilIface ∧ Put1 ms K s q r m n B U w w' := by
  have hkg := hA.kgood.2 r.subj hk
  have hms := hA.blk.lt
  have H99 := Lib.hid (fun W => toB99 r.subj W (by omega))
  unfold NewSl at H99
  have c25 : w.cell? ⟨ms, 25, none⟩ = some (.map (some s.r)) := hA.blk.cell 25
  have c26 : w.cell? ⟨ms, 26, none⟩ = some (.pointer (some ⟨s.tb, 0, none⟩)) := hA.blk.cell 26
  have c11 : w.cell? ⟨ms, 11, none⟩ = some (.int .i64 0) := hA.blk.cell 11
  have hmn := mapnil s.r
  have HA := Lib.hid hA
  have HH := Lib.hid hH
  have HD := Lib.hid hD
  have HHo := Lib.hid hHo
  have HDo := Lib.hid hDo
  have HHz := Lib.hid hHz
  have HDz := Lib.hid hDz
  clear hA hH hD hHo hDo hHz hDz
  have hn0 : 0 < r.subj.length := hkg.2.1
  have hsd : r.subj.length + r.hdr.length + r.data.length + 16 = r.size := rfl
  have H77 := Lib.hid (fun W => size77 r.subj ha da r.hdr.length r.data.length hc dc W (by omega) (by omega) (by omega))
  rw [hsd] at H77
  have H125 := Lib.hid (fun W ao cap (hX : Ext w W) (hS : Sl W ao cap r.subj) => ((HA.out.tr.keep hX id fun _ _ => id).find HA.out.good hS).mono (by rw [hM]; exact fun e w' h => h))
  unfold found at H125
  generalize hrz : r.size = rz at H77 hsz hsd
  generalize hns : r.subj.length = ns at hn0 H99 H125 hsd hkg
  have hstr : (str r.subj).size = ns := by rw [str_size, hns]
  generalize hnh : r.hdr.length = nh at H77 hsd
  generalize hnd : r.data.length = nd at H77 hsd
  go_enter Tryz.func64, Tryz.ntmps64
  go_wp2_with fail
  go_region_held3 (fun w' => w'.cell? ⟨ms, 26, none⟩ = some (.pointer (some ⟨s.tb, 0, none⟩))) (simp [*]) (first | (go_at_call 99; refine (H99.out _).mono ?_; rintro e w1 ⟨b1, cap1, hb1, rfl, hS1, hX1⟩; have HS1 := Lib.hid hS1; have HX1 := Lib.hid (Kp.undrew hX1); clear hS1 hX1 hb1; have c26' : w1.cell? ⟨ms, 26, none⟩ = some (.pointer (some ⟨s.tb, 0, none⟩)) := (HX1.out.cell id hms).trans c26) | (go_at_call 125; refine (H125.out _ _ _ HX1.out HS1.out).mono ?_; rintro e w2 ⟨rfl, hX2⟩; have HX2 := Lib.hid (HX1.out.trans hX2 fun _ _ h => h); clear hX2; have c26'' : w2.cell? ⟨ms, 26, none⟩ = some (.pointer (some ⟨s.tb, 0, none⟩)) := (HX2.out.cell id hms).trans c26))
  clear c25 c11 c26 c26' c26''
  have HB2 := Lib.hid (HA.out.blk.keep HX2.out id)
  have c11 : w2.cell? ⟨ms, 11, none⟩ = some (.int .i64 0) := HB2.out.cell 11
  have c31 : w2.cell? ⟨ms, 31, none⟩ = some (.int .i64 0) := HB2.out.cell 31
  have c18 : w2.cell? ⟨ms, 18, none⟩ = some (.int .u64 s.la) := HB2.out.cell 18
  have c14 : w2.cell? ⟨ms, 14, none⟩ = some (.int .u64 q.length) := by rw [← HA.out.cnt]; exact HB2.out.cell 14
  have c16 : w2.cell? ⟨ms, 16, none⟩ = some (.int .u64 s.f) := HB2.out.cell 16
  have c17 : w2.cell? ⟨ms, 17, none⟩ = some (.int .i64 s.t1) := HB2.out.cell 17
  have f16 : w2.frozen? ⟨ms, 16, none⟩ = false := HB2.out.frozen 16
  have f17 : w2.frozen? ⟨ms, 17, none⟩ = false := HB2.out.frozen 17
  have num := HA.out.num
  generalize hkq : q.length = k at c14 num hq
  generalize hsla : s.la = la at c18 hla num
  have hne1 : ¬ ((0 : Int) = (la : Int) + 1) := by omega
  obtain ⟨n2, hn2⟩ : ∃ n2, nh + nd = n2 := ⟨_, rfl⟩
  have hn2s : n2 ≤ 1099511627776 := by omega
  have hn2c : (nh : Int) + (nd : Int) = (n2 : Int) := by omega
  have hq' : (k : Int) = 0 := by omega
  go_wp2_with (first | (at_make; refine stop_here ?_) | (at_builtin; refine stop_here ?_))
  refine Lib.hid ?_
  obtain ⟨w3, hw3⟩ : ∃ w3, (w2.setCell ⟨ms, 16, none⟩ (.int .u64 ((la : Int) + 1))).setCell ⟨ms, 17, none⟩ (.int .i64 r.time) = w3 := ⟨_, rfl⟩
  rw [hw3]
  have HB3 : Hid (Blk w3 ms { s with f := la + 1, t1 := r.time }.cells 91) := Lib.hid (by rw [← hw3]; exact (HB2.out.set 16 _).set 17 _)
  have HK3 : Hid (Kp (· = ms) w w3) := Lib.hid (by rw [← hw3]; exact ((HX2.out.mono fun _ _ h => absurd h id).set1 _).set1 _)
  have hf3 : la + 1 + k = la + 1 := by omega
  clear hq' c11 c14 c16 c17 f16 f17 c18 hw3 HB2 HX2
  have hg0 := HK3.out.size
  refine wpList_make_bytes rfl (.const (.int .i64 0)) (.tmp 224) rfl _ n2 rfl rfl (by omega) hn2s ?_
  intro w4 hown hK4 hlt4
  have HK4 : Hid (Kp (· = ms) w w4) := Lib.hid (HK3.out.trans hK4 fun _ _ h => absurd h id)
  have HB4 := Lib.hid (HB3.out.keep hK4 id)
  have Hown := Lib.hid hown
  clear hown hK4 HB3 HK3
  generalize hgg : w3.heap.size = g at Hown hlt4 hg0 ⊢
  go_wp2_with (at_builtin; refine stop_here ?_)
  refine Lib.hid ?_
  refine wpList_append_into rfl (.tmp 234) (.tmp 235) rfl g g 0 nh n2 hc [] r.hdr ha rfl rfl (Hown.out.alloc _) hnh ((HH.out.bytes.keep HK4.out fun b off s' e hb => HHo.out b off s' e (Or.inl hb)).alloc _) (fun e => ⟨by have := HH.out.plain.1 e; rw [this] at hnh; exact hnh.symm, HHz.out e⟩) (by omega) ?_
  intro w6 hown6 hK6
  have Hown6 := Lib.hid hown6
  have HM5 := Lib.hid (Blk.new w4 #[.string (str r.subj), .slice none 0 0, .slice none 0 0, .slice (some ⟨g, 0, none⟩) 0 n2, .int .u64 ((la : Int) + 1), .int .i64 r.time] 147)
  have hgs : w.heap.size ≤ w4.heap.size := HK4.out.size
  have HB6 := Lib.hid ((HB4.out.alloc _).keep hK6 (by omega))
  have HK6 : Hid (Kp (· = ms) w w6) := Lib.hid ((HK4.out.alloc _).trans hK6 fun i hi e => by omega)
  generalize hmbb : w4.heap.size = mb at HM5 hlt4 hgs ⊢
  have hmg : ¬ mb = g := by omega
  have HM6 := Lib.hid (HM5.out.keep hK6 hmg)
  clear hown6 hK6 HM5 HB4 HK4
  have m3 : w6.cell? ⟨mb, 3, none⟩ = some (.slice (some ⟨g, 0, none⟩) 0 n2) := HM6.out.cell 3
  have e3 : w6.frozen? ⟨mb, 3, none⟩ = false := HM6.out.frozen 3
  go_wp2_with (at_builtin; refine stop_here ?_)
  refine Lib.hid ?_
  obtain ⟨w7, hw7⟩ : ∃ w7, w6.setCell ⟨mb, 3, none⟩ (.slice (some ⟨g, 0, none⟩) nh n2) = w7 := ⟨_, rfl⟩
  rw [hw7]
  have HM7 := Lib.hid (HM6.out.set 3 (.slice (some ⟨g, 0, none⟩) nh n2))
  have hK67 : Kp (· = mb) w6 w7 := by (rw [← hw7]; exact (Kp.refl _ _).set1 _)
  rw [hw7] at HM7
  have Hown7 := Lib.hid (Hown6.out.kept hK67.grownBy (.inr fun e => hmg (Option.some.inj e).symm))
  have HK7 : Hid (Kp (· = ms) w w7) := Lib.hid (HK6.out.trans hK67 fun i hi e => by omega)
  have HB7 := Lib.hid (HB6.out.keep hK67 (by omega))
  clear hK67 m3 e3 hw7 HM6 Hown6 HK6 HB6
  refine wpList_append_into rfl (.tmp 243) (.tmp 244) rfl g g nh nd n2 dc r.hdr r.data da rfl rfl (by have := Hown7.out; rw [Nat.zero_add, List.nil_append] at this; exact this) hnd (HD.out.bytes.keep HK7.out fun b off s' e hb => HDo.out b off s' e (Or.inl hb)) (fun e => ⟨by have := HD.out.plain.1 e; rw [this] at hnd; exact hnd.symm, HDz.out e⟩) (by omega) ?_
  intro w8 hown8 hK8
  have Hown8 := Lib.hid hown8
  have HM8 := Lib.hid (HM7.out.keep hK8 hmg)
  have HK8 : Hid (Kp (· = ms) w w8) := Lib.hid (HK7.out.trans hK8 fun i hi e => by omega)
  have HB8 := Lib.hid (HB7.out.keep hK8 (by omega))
  clear hown8 hK8 HM7 Hown7 HK7 HB7
  have m1 : w8.cell? ⟨mb, 1, none⟩ = some (.slice none 0 0) := HM8.out.cell 1
  have m2 : w8.cell? ⟨mb, 2, none⟩ = some (.slice none 0 0) := HM8.out.cell 2
  have m3 : w8.cell? ⟨mb, 3, none⟩ = some (.slice (some ⟨g, 0, none⟩) nh n2) := HM8.out.cell 3
  have e1 : w8.frozen? ⟨mb, 1, none⟩ = false := HM8.out.frozen 1
  have e2 : w8.frozen? ⟨mb, 2, none⟩ = false := HM8.out.frozen 2
  have e3 : w8.frozen? ⟨mb, 3, none⟩ = false := HM8.out.frozen 3
  have c25 : w8.cell? ⟨ms, 25, none⟩ = some (.map (some s.r)) := HB8.out.cell 25
  have hmms : ms ≠ mb := by omega
  go_wp2_with (with_reducible refine stop_map rfl ?_)
  all_goals refine Lib.hid ?_
  all_goals first
    | (obtain ⟨w10, hw10⟩ : ∃ w10, ((w8.setCell ⟨mb, 3, none⟩ (.slice (some ⟨g, 0, none⟩) nh nh)).setCell ⟨mb, 1, none⟩ (.slice (some ⟨g, 0, none⟩) nh nh)).setCell ⟨mb, 2, none⟩ (.slice (some ⟨g, 0, none⟩) 0 0) = w10 := ⟨_, rfl⟩
       rw [hw10]
       have hK10 : Kp (· = mb) w8 w10 := by (rw [← hw10]; exact (((Kp.refl _ _).set1 _).set1 _).set1 _)
       have hB10 : Blk w10 mb #[.string (str r.subj), .slice (some ⟨g, 0, none⟩) nh nh, .slice (some ⟨g, 0, none⟩) 0 0, .slice (some ⟨g, 0, none⟩) nh nh, .int .u64 ((la + 1 : Nat) : Int), .int .i64 r.time] 147 := by (rw [← hw10]; exact ((HM8.out.set 3 _).set 1 _).set 2 _)
       have HMsg : Hid (MsgAt w10 (fun x => x = mb ∨ x = g) mb (la + 1) r) := Lib.hid (msg_made Hown8.out hK10 hmg hB10 hnh (by omega) (by omega) (by omega) (by omega) (.inr ⟨rfl, Nat.le_refl _⟩) (.inl ⟨rfl, rfl⟩))
       clear hB10 hw10)
    | (obtain ⟨w10, hw10⟩ : ∃ w10, ((w8.setCell ⟨mb, 3, none⟩ (.slice (some ⟨g, 0, none⟩) n2 n2)).setCell ⟨mb, 1, none⟩ (.slice (some ⟨g, 0, none⟩) nh n2)).setCell ⟨mb, 2, none⟩ (.slice (some ⟨g, nh, none⟩) (n2 - nh) (n2 - nh)) = w10 := ⟨_, rfl⟩
       rw [hw10]
       have hK10 : Kp (· = mb) w8 w10 := by (rw [← hw10]; exact (((Kp.refl _ _).set1 _).set1 _).set1 _)
       have hB10 : Blk w10 mb #[.string (str r.subj), .slice (some ⟨g, 0, none⟩) nh n2, .slice (some ⟨g, nh, none⟩) (n2 - nh) (n2 - nh), .slice (some ⟨g, 0, none⟩) n2 n2, .int .u64 ((la + 1 : Nat) : Int), .int .i64 r.time] 147 := by (rw [← hw10]; exact ((HM8.out.set 3 _).set 1 _).set 2 _)
       have HMsg : Hid (MsgAt w10 (fun x => x = mb ∨ x = g) mb (la + 1) r) := Lib.hid (msg_made Hown8.out hK10 hmg hB10 hnh (by omega) (by omega) (by omega) (by omega) (.inr ⟨rfl, by omega⟩) (.inr ⟨rfl, Nat.le_refl _⟩))
       clear hB10 hw10)
    | (obtain ⟨w10, hw10⟩ : ∃ w10, (w8.setCell ⟨mb, 3, none⟩ (.slice (some ⟨g, 0, none⟩) nh nh)).setCell ⟨mb, 2, none⟩ (.slice (some ⟨g, 0, none⟩) 0 0) = w10 := ⟨_, rfl⟩
       rw [hw10]
       have hK10 : Kp (· = mb) w8 w10 := by (rw [← hw10]; exact ((Kp.refl _ _).set1 _).set1 _)
       have hB10 : Blk w10 mb #[.string (str r.subj), .slice none 0 0, .slice (some ⟨g, 0, none⟩) 0 0, .slice (some ⟨g, 0, none⟩) nh nh, .int .u64 ((la + 1 : Nat) : Int), .int .i64 r.time] 147 := by (rw [← hw10]; exact (HM8.out.set 3 _).set 2 _)
       obtain rfl : nh = 0 := by omega
       have HMsg : Hid (MsgAt w10 (fun x => x = mb ∨ x = g) mb (la + 1) r) := Lib.hid (msg_made Hown8.out hK10 hmg hB10 (by omega) (by omega) (by omega) (by omega) (by omega) (.inl ⟨rfl, rfl⟩) (.inl ⟨rfl, rfl⟩))
       clear hB10 hw10)
    | (obtain ⟨w10, hw10⟩ : ∃ w10, (w8.setCell ⟨mb, 3, none⟩ (.slice (some ⟨g, 0, none⟩) n2 n2)).setCell ⟨mb, 2, none⟩ (.slice (some ⟨g, nh, none⟩) (n2 - nh) (n2 - nh)) = w10 := ⟨_, rfl⟩
       rw [hw10]
       have hK10 : Kp (· = mb) w8 w10 := by (rw [← hw10]; exact ((Kp.refl _ _).set1 _).set1 _)
       have hB10 : Blk w10 mb #[.string (str r.subj), .slice none 0 0, .slice (some ⟨g, nh, none⟩) (n2 - nh) (n2 - nh), .slice (some ⟨g, 0, none⟩) n2 n2, .int .u64 ((la + 1 : Nat) : Int), .int .i64 r.time] 147 := by (rw [← hw10]; exact (HM8.out.set 3 _).set 2 _)
       obtain rfl : nh = 0 := by omega
       have HMsg : Hid (MsgAt w10 (fun x => x = mb ∨ x = g) mb (la + 1) r) := Lib.hid (msg_made Hown8.out hK10 hmg hB10 (by omega) (by omega) (by omega) (by omega) (by omega) (.inl ⟨rfl, rfl⟩) (.inr ⟨rfl, Nat.le_refl _⟩))
       clear hB10 hw10)
  all_goals (
    have hfS : ∃ f3 t1, f3 + k = la + 1 ∧ Hid (Blk w8 ms { s with f := f3, t1 := t1 }.cells 91) ∧ ∀ W, Kp (· = ms) w W → Msgs W U f3 l q := ⟨la + 1, r.time, hf3, HB8, fun W _ => by
      have h1 := HA.out.msgs.length
      have hq0 : q = [] := List.eq_nil_of_length_eq_zero (by omega)
      subst hq0
      obtain rfl : l = [] := List.eq_nil_of_length_eq_zero (by simpa using h1)
      trivial⟩
    clear hf3 hq)
  all_goals (
    obtain ⟨f3, t1, hfk3, HBS, HMs⟩ := hfS
    have HK10 : Hid (Kp (· = ms) w w10) := Lib.hid (HK8.out.trans hK10 fun i hi e => by omega)
    have HMs10 := Lib.hid (HMs w10 HK10.out)
    have HB10 := Lib.hid (HBS.out.keep hK10 (by omega))
    obtain ⟨w11, hup, hmp⟩ := put_map HA.out hkq hsla hla HB10.out hfk3 HK10.out HMsg.out HMs10.out hgs hg0
    have HP := Lib.hid hmp
    clear hmp HMs HBS HB8 HM8 HK8 Hown8 m1 m2 m3 e1 e2 e3 c25 hK10 HMsg HMs10 HB10 HK10
    have hk60 := HP.out.k60
    have htot := HP.out.tot
    have c14 := HP.out.c14
    have c15 := HP.out.c15
    have c18 := HP.out.c18
    have c19 : w11.cell? ⟨ms, 19, none⟩ = some (.int .i64 s.t2) := HP.out.blk.cell 19
    have c26 : w11.cell? ⟨ms, 26, none⟩ = some (.pointer (some ⟨s.tb, 0, none⟩)) := HP.out.blk.cell 26
    have c31 : w11.cell? ⟨ms, 31, none⟩ = some (.int .i64 0) := HP.out.blk.cell 31
    have f14 : w11.frozen? ⟨ms, 14, none⟩ = false := HP.out.blk.frozen 14
    have f15 : w11.frozen? ⟨ms, 15, none⟩ = false := HP.out.blk.frozen 15
    have f18 : w11.frozen? ⟨ms, 18, none⟩ = false := HP.out.blk.frozen 18
    have f19 : w11.frozen? ⟨ms, 19, none⟩ = false := HP.out.blk.frozen 19
    generalize htq : total q = tq at htot c15
    obtain ⟨cv, hcv, hcs⟩ := bytes_fun r.subj ns hns (by omega)
    go_wp2_with fail
    go_region_with (go_at_call 77; refine (H77.out _).mono ?_; rintro e wq ⟨rfl, rfl⟩))
  all_goals go_wp2_with fail
  all_goals (
    obtain ⟨w12, hw12⟩ : ∃ w12, ((((w11.setCell ⟨ms, 14, none⟩ (.int .u64 ((k : Int) + 1))).setCell ⟨ms, 15, none⟩ (.int .u64 ((tq : Int) + (rz : Int)))).setCell ⟨ms, 18, none⟩ (.int .u64 ((la : Int) + 1))).setCell ⟨ms, 19, none⟩ (.int .i64 r.time)).drew = w12 := ⟨_, rfl⟩
    rw [hw12]
    have HB12 : Blk w12 ms { s with n := k + 1, by' := total q + r.size, f := f3, t1 := t1, la := la + 1, t2 := r.time }.cells 91 := by (rw [← hw12, htq, hrz]; exact ((((HP.out.blk.set 14 _).set 15 _).set 18 _).set 19 _).drew)
    have HK12 : Kp (· = ms) w11 w12 := by (rw [← hw12]; exact ((((Kp.refl _ _).set1 _).set1 _).set1 _).set1 _ |>.drew)
    refine (put_new HA.out HP.out hkq hsla hfk3 hla hk (by omega) hgs hg0 hlt4 hM HB12 HK12 (by rw [← hw12]; simp) (ext_bytesWorld _ _ _) (hcs.out w12) hns).mono ?_
    rintro e w13 ⟨rfl, hAd⟩
    have HE := Lib.hid (put_end hAd hm hmb hn hnb hgs hg0)
    clear hAd HB12 HK12 hw12 HP hup c14 c15 c18 c19 c26 c31 f14 f15 f18 f19 hcv hcs
    go_wp2_with fail
    refine HE.out.mono ?_
    rintro e w14 ⟨rfl, h83⟩
    have H83 := Lib.hid h83
    clear h83 HE
    go_wp2_with fail
    refine H83.out.mono ?_
    rintro e w15 ⟨rfl, hput⟩
    have HPut := Lib.hid hput
    clear hput H83
    go_wp2_with fail
    go_ret
    exact ⟨rfl, HPut.out⟩)
end Go.Proofs.YtbehafhkgbjgmaaGreatDoor
