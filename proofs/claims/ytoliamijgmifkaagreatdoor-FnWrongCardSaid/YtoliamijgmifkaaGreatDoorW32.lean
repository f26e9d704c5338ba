/- laws.readable. · laws.FnWrong: the walk. -/
import Derived.Test.YtoliamijgmifkaaGreatDoorW21
import Derived.Test.YtoliamijgmifkaaGreatDoorW15
import Derived.Test.YtoliamijgmifkaaGreatDoorNode
import Derived.Test.YtoliamijgmifkaaGreatDoorFits
import Derived.Test.YtoliamijgmifkaaGreatDoorW30
set_option linter.all false
section
namespace Go.Proofs.YtoliamijgmifkaaGreatDoor
open Go.RowKit LT UC Lib

def rdB (s : ByteArray) : Bool := (dsOf s).all (fun c => rune c != 65533) && decide (s.size ≤ 300)
theorem rune_take {l : List UInt8} (hne : l ≠ []) : rune (l.take (decodeL l).2) = (decodeL l).1 := by
  by_cases hb : (decodeL l).1 = 65533 ∧ (decodeL l).2 = 1
  · rw [hb.1, hb.2]
    cases l with
    | nil => exact absurd rfl hne
    | cons b t =>
      show (decodeL [b]).1 = 65533
      have h := hb.1
      have h2 := hb.2
      rw [decodeL_N] at h h2 ⊢
      simp only [List.getD_cons_zero] at h h2 ⊢
      unfold decodeN
      by_cases c1 : b.toNat < 128
      · unfold decodeN at h
        rw [if_pos c1] at h
        simp only at h
        omega
      · rw [if_neg c1, if_neg (by simp), if_neg (by simp), if_neg (by simp)]
  · exact congrArg Prod.fst (good_take hne hb).2
theorem rd_good {l : List UInt8} : ∀ n, l.length ≤ n → (∀ c ∈ chunk l, rune c ≠ 65533) → ∀ c ∈ chunk l, UC.Good c ∧ rune c ≠ 65533 := by
  intro n
  induction n generalizing l with
  | zero =>
    intro hl _ c hc
    have : l = [] := List.eq_nil_of_length_eq_zero (by omega)
    subst this
    cases hc
  | succ n ih =>
    intro hl h c hc
    by_cases hne : l = []
    · subst hne; cases hc
    · rw [chunk_step l hne] at h hc
      have h0 := h (l.take (decodeL l).2) (by simp)
      rcases List.mem_cons.1 hc with rfl | hc
      · refine ⟨(good_take hne (fun e => ?_)).1, h0⟩
        rw [rune_take hne] at h0
        exact h0 e.1
      · refine ih (l := l.drop (decodeL l).2) ?_ (fun c hc => h c (by simp [hc])) c hc
        rw [List.length_drop]
        have hw : 1 ≤ (decodeL l).2 := by
          rcases Nat.eq_zero_or_pos (decodeL l).2 with e | e
          · exfalso
            have : (l.take (decodeL l).2) = [] := by rw [e]; rfl
            by_cases hb : (decodeL l).1 = 65533 ∧ (decodeL l).2 = 1
            · omega
            · exact (good_take hne hb).1.1 this
          · exact e
        omega
theorem rdB_iff (s : ByteArray) : rdB s = true ↔ Rd s ∧ s.size ≤ 300 := by
  unfold rdB
  rw [Bool.and_eq_true, List.all_eq_true, decide_eq_true_eq]
  constructor
  · rintro ⟨h1, h2⟩
    exact ⟨rd_good _ (Nat.le_refl _) (fun c hc => by simpa using h1 c hc), h2⟩
  · rintro ⟨h1, h2⟩
    exact ⟨fun c hc => by simpa using (h1 c hc).2, h2⟩
set_option maxRecDepth 100000 in
set_option maxHeartbeats 2000000 in
theorem readable_any (s : ByteArray) (w : World) (hs : s.size ≤ 9223372036854775807) : Calls Tryz.prog 22 #[.string s] w fun e w' => e = .returned (.bool (rdB s)) ∧ Ext w w' := by
  obtain ⟨ANS, hANS⟩ : ∃ A, A = (dsOf s).all fun c => rune c != 65533 := ⟨_, rfl⟩
  have hk : rdB s = (ANS && decide (s.size ≤ 300)) := by rw [hANS]; rfl
  have HANS := Lib.hid hANS
  rw [hk]
  clear hANS hk
  go_enter Tryz.func22, Tryz.ntmps22
  go_wp2_with fail
  obtain ⟨b, hb⟩ : ∃ b, b = w.heap.size := ⟨_, rfl⟩
  rw [← hb]
  have HB := Lib.hid hb
  clear hb
  go_loopg [] s.size (fun g1 wr => ∃ pos : Nat, Hid (wr.heap[b]? = some (.stringIter s pos)) ∧ s.size ≤ pos + g1 ∧ Hid (Ext w wr) ∧ Hid ((chunk (s.data.toList.drop pos)).all (fun c => rune c != 65533) = ANS))
  case atStart => exact ⟨0, by rw [HB.out]; exact World.iter_heap w s 0, by omega, (Fr.refl _ _).alloc _, HANS.symm⟩
  case round =>
    obtain ⟨pos, HI, hg, HX, HA⟩ := hrel
    by_cases hp : pos < s.size
    · have hnx := fun ty => next_str (P := Tryz.prog) HI.out ty hp
      have hszl : s.data.toList.length = s.size := by rw [Array.length_toList]; rfl
      have hne : s.data.toList.drop pos ≠ [] := by
        intro e
        have := congrArg List.length e
        rw [List.length_drop, hszl] at this
        simp at this; omega
      have hch := chunk_step _ hne
      have hru := rune_take hne
      rw [decodeL_drop, List.drop_drop] at hch
      rw [decodeL_drop] at hru
      have hA := HA.out
      rw [hch, List.all_cons, hru] at hA
      have hwd := Lib.width_pos s pos
      have hrl := Lib.rune_le s pos
      have XN : Ext w (itSet wr b s (pos + (Utf8.decode s pos).2)) := HX.out.trans (itSet_fr wr b s _) (fun j hj e => by have := HB.out; omega)
      have IN := itSet_at (pos + (Utf8.decode s pos).2) HI.out
      clear hch hru hne hszl
      generalize Utf8.decode s pos = dp at hnx hA hwd hrl XN IN
      obtain ⟨r, wd⟩ := dp
      simp only at hnx hA hwd hrl XN IN
      have HN := Lib.hid (And.intro hA (And.intro XN IN))
      clear hA XN IN
      by_cases hr : r = 65533
      · have hrb : ((r : Int) == 65533) = true := by simp; omega
        have EA : Hid (ANS = false) := by show _ = _; rw [← HN.1, hr]; rfl
        clear hr
        go_wp2_with fail
        exact bodyPost_ret (results_tmp rfl _ _ _) rfl ⟨by rw [EA.out]; rfl, HN.2.1⟩
      · have hrb : ((r : Int) == 65533) = false := by simp; omega
        have hr2 : (r != 65533) = true := by simpa using hr
        have HR2 := Lib.hid hr2
        clear hr hr2
        go_wp2_with fail
        go_roundg (s.size - (pos + wd))
        case measure => omega
        case rel => exact ⟨pos + wd, HN.2.2, by omega, HN.2.1, by
          have := HN.1
          rw [HR2.out, Bool.true_and] at this
          exact this⟩
    · have hnx := fun ty => next_str_end (P := Tryz.prog) HI.out ty hp
      have hszl : s.data.toList.length = s.size := by rw [Array.length_toList]; rfl
      have EA : Hid (ANS = true) := by
        show _ = _
        have := HA.out
        rw [List.drop_eq_nil_of_le (by omega)] at this
        exact this.symm
      clear hszl
      by_cases h3 : s.size ≤ 300
      · go_wp2_with fail
        first | go_ret | go_ret2
        exact ⟨ret_bool (by rw [EA.out]; simp; omega), HX⟩
      · go_wp2_with fail
        first | go_ret | go_ret2
        exact ⟨ret_bool (by rw [EA.out]; simp; omega), HX⟩
end Go.Proofs.YtoliamijgmifkaaGreatDoor
end
section
namespace Go.Proofs.YtoliamijgmifkaaGreatDoor
open Go.RowKit DT SS TR LT

theorem fits_meta {d : GDict} (h : fitsDict d = true) : d.meta0.length ≤ 2147483647 ∧ d.unkMeta.length ≤ 2147483647 := by
  simp only [fitsDict, Bool.and_eq_true, szOk, decide_eq_true_eq] at h
  exact ⟨h.2.2.2.2.2.1.1, h.2.2.2.2.2.2.1.1⟩
set_option maxRecDepth 100000 in
set_option maxHeartbeats 4000000 in
theorem fnWrong_any (d : GDict) (cs : List Value) (O : Nat → Prop) (s : ByteArray) (mode : Int) (w : World) (h : tDict.R w O d cs) (hs : s.size ≤ 9223372036854775807) (hT : U8 w) :
    Calls Tryz.prog 8 #[.agg cs.toArray, .string s, .int .i64 mode] w fun e w' => e = .returned (.bool true) ∧ Ext w w' := by
  have H := Lib.hid (And.intro h hT)
  have CF := Lib.hid (fun W (f : Ext w W) => zzFits13_any W O d cs (tDict.ext h f))
  have CR := Lib.hid (fun W => readable_any s W hs)
  obtain ⟨A1, c1, A2, c2, A3, c3, A4, c4, A5, c5, A6, c6, A7, c7, A8, c8, rfl, _⟩ := tDict_open h
  clear h hT
  have B0 := alloc_at w (.cells #[.slice A1 d.words.length c1, .int .i64 d.rows, .int .i64 d.cols, .slice A2 d.costs.length c2, .slice A3 d.classes.length c3, .slice A4 d.chars.length c4, .slice A5 d.unknown.length c5, .slice A6 d.meta0.length c6, .slice A7 d.unkMeta.length c7, .bool d.hasUser, .slice A8 d.user.length c8] 30)
  have HB := Lib.hid B0
  clear B0
  cases hf : fitsDict d with
  | false =>
    rw [hf] at CF
    clear hf
    go_enter Tryz.func8, Tryz.ntmps8
    go_wp2_with (first
      | (go_at_call 9; refine (CF.out _ ((Fr.refl _ w).alloc _)).mono ?_; rintro e w1 ⟨rfl, hx⟩; have HX := Lib.hid hx; clear hx)
      | fail)
    go_ret
    exact ⟨rfl, ((Fr.refl _ w).alloc _).then HX.out⟩
  | true =>
    have hmt := fits_meta hf
    rw [hf] at CF
    clear hf
    by_cases hl : s.size ≤ 2147483647
    · go_enter Tryz.func8, Tryz.ntmps8
      go_upto_region 3 with (first
        | (go_at_call 9; refine (CF.out _ ((Fr.refl _ w).alloc _)).mono ?_; rintro e w1 ⟨rfl, hx⟩; have HX := Lib.hid hx; clear hx)
        | fail)
      have k0 : ∀ (W : World), Ext w1 W → ∀ j u, (#[Value.slice A1 d.words.length c1, .int .i64 d.rows, .int .i64 d.cols, .slice A2 d.costs.length c2, .slice A3 d.classes.length c3, .slice A4 d.chars.length c4, .slice A5 d.unknown.length c5, .slice A6 d.meta0.length c6, .slice A7 d.unkMeta.length c7, .bool d.hasUser, .slice A8 d.user.length c8])[j]? = some u → W.cell? ⟨w.heap.size, j, none⟩ = some u := fun W f j u hj => sx_one (f.heap (HX.out.heap HB.out id) id) j u hj
      have KC : Hid (∀ (W : World), Ext w1 W → W.cell? ⟨w.heap.size, 0, none⟩ = some (.slice A1 d.words.length c1) ∧ W.cell? ⟨w.heap.size, 1, none⟩ = some (.int .i64 d.rows) ∧ W.cell? ⟨w.heap.size, 2, none⟩ = some (.int .i64 d.cols) ∧ W.cell? ⟨w.heap.size, 3, none⟩ = some (.slice A2 d.costs.length c2) ∧ W.cell? ⟨w.heap.size, 4, none⟩ = some (.slice A3 d.classes.length c3) ∧ W.cell? ⟨w.heap.size, 5, none⟩ = some (.slice A4 d.chars.length c4) ∧ W.cell? ⟨w.heap.size, 6, none⟩ = some (.slice A5 d.unknown.length c5) ∧ W.cell? ⟨w.heap.size, 7, none⟩ = some (.slice A6 d.meta0.length c6) ∧ W.cell? ⟨w.heap.size, 8, none⟩ = some (.slice A7 d.unkMeta.length c7) ∧ W.cell? ⟨w.heap.size, 9, none⟩ = some (.bool d.hasUser) ∧ W.cell? ⟨w.heap.size, 10, none⟩ = some (.slice A8 d.user.length c8) ∧ w.heap.size < W.heap.size) := fun W f =>
        ⟨k0 W f 0 _ rfl, k0 W f 1 _ rfl, k0 W f 2 _ rfl, k0 W f 3 _ rfl, k0 W f 4 _ rfl, k0 W f 5 _ rfl, k0 W f 6 _ rfl, k0 W f 7 _ rfl, k0 W f 8 _ rfl, k0 W f 9 _ rfl, k0 W f 10 _ rfl, lt_of_cell (k0 W f 0 _ rfl)⟩
      have HX1 := Lib.hid (((Fr.refl (fun _ => False) w).alloc _).then HX.out)
      have HY := Lib.hid (Fr.refl (fun _ => False) w1)
      clear k0 HX HB CF
      cases hrd : rdB s with
      | false =>
        rw [hrd] at CR
        clear hrd
        go_wp2_with (first
          | (go_at_call 22; refine (CR.out _).mono ?_; rintro e w2 ⟨rfl, hx⟩; have HY2 := Lib.hid hx; clear hx)
          | (go_at_call 11; refine (knows_any _ (H.out.2.ext (HX1.out.then HY2.out))).mono ?_; rintro e w3 ⟨rfl, hx⟩; have HY3 := Lib.hid hx; clear hx)
          | fail)
        go_ret
        exact ⟨rfl, (HX1.out.then HY2.out).then HY3.out⟩
      | true =>
        rw [hrd] at CR
        clear hrd
        cases hrt : rightP d with
        | true =>
          have CT := Lib.hid (fun W (f : Ext w W) => right_any d _ O W (tDict.ext H.out.1 f) (H.out.2.ext f) hmt)
          rw [hrt] at CT
          clear hrt
          go_wp2_with (first
            | (go_at_call 22; refine (CR.out _).mono ?_; rintro e w2 ⟨rfl, hx⟩; obtain ⟨q0, q1, q2, q3, q4, q5, q6, q7, q8, q9, q10, ql⟩ := KC.out _ hx; have HY2 := Lib.hid hx; clear hx)
            | (go_at_call 23; refine (CT.out _ (HX1.out.then HY2.out)).mono ?_; rintro e w3 ⟨rfl, hx⟩; have HY3 := Lib.hid hx; clear hx)
            | (go_at_call 11; refine (knows_any _ (H.out.2.ext ((HX1.out.then HY2.out).then HY3.out))).mono ?_; rintro e w4 ⟨rfl, hx⟩; have HY4 := Lib.hid hx; clear hx)
            | fail)
          go_ret
          exact ⟨rfl, ((HX1.out.then HY2.out).then HY3.out).then HY4.out⟩
        | false =>
          have CT := Lib.hid (fun W (f : Ext w W) => right_any d _ O W (tDict.ext H.out.1 f) (H.out.2.ext f) hmt)
          rw [hrt] at CT
          have HRT := Lib.hid hrt
          clear hrt
          go_wp2_with (first
            | (go_at_call 22; refine (CR.out _).mono ?_; rintro e w2 ⟨rfl, hx⟩; obtain ⟨q0, q1, q2, q3, q4, q5, q6, q7, q8, q9, q10, ql⟩ := KC.out _ hx; have HY2 := Lib.hid hx; clear hx)
            | (go_at_call 23; refine (CT.out _ (HX1.out.then HY2.out)).mono ?_; rintro e w3 ⟨rfl, hx⟩; clear q0 q1 q2 q3 q4 q5 q6 q7 q8 q9 q10 ql; obtain ⟨q0, q1, q2, q3, q4, q5, q6, q7, q8, q9, q10, ql⟩ := KC.out _ (HY2.out.then hx); have HY3 := Lib.hid (HY2.out.then hx); clear hx)
            | (go_at_call 12; refine (impAnalyze_wrong d _ O s mode true _ (tDict.ext H.out.1 (HX1.out.then HY3.out)) (H.out.2.ext (HX1.out.then HY3.out)) hmt HRT.out).mono ?_; rintro e w4 ⟨⟨v4, rfl⟩, hx⟩; clear q0 q1 q2 q3 q4 q5 q6 q7 q8 q9 q10 ql; obtain ⟨q0, q1, q2, q3, q4, q5, q6, q7, q8, q9, q10, ql⟩ := KC.out _ (HY3.out.then hx); have HY4 := Lib.hid (HY3.out.then hx); clear hx)
            | (go_at_call 24; refine (wakati_wrong d _ O s _ (tDict.ext H.out.1 (HX1.out.then HY4.out)) (H.out.2.ext (HX1.out.then HY4.out)) hmt HRT.out).mono ?_; rintro e w5 ⟨rfl, hx⟩; clear q0 q1 q2 q3 q4 q5 q6 q7 q8 q9 q10 ql; obtain ⟨q0, q1, q2, q3, q4, q5, q6, q7, q8, q9, q10, ql⟩ := KC.out _ (HY4.out.then hx); have HY5 := Lib.hid (HY4.out.then hx); clear hx)
            | (go_at_call 25; refine (lattice_wrong d _ O s mode _ (tDict.ext H.out.1 (HX1.out.then HY5.out)) (H.out.2.ext (HX1.out.then HY5.out)) hmt HRT.out).mono ?_; rintro e w6 ⟨rfl, hx⟩; clear q0 q1 q2 q3 q4 q5 q6 q7 q8 q9 q10 ql; obtain ⟨q0, q1, q2, q3, q4, q5, q6, q7, q8, q9, q10, ql⟩ := KC.out _ (HY5.out.then hx); have HY6 := Lib.hid (HY5.out.then hx); clear hx)
            | (go_at_call 13; refine (details_wrong d _ O s mode _ (tDict.ext H.out.1 (HX1.out.then HY6.out)) (H.out.2.ext (HX1.out.then HY6.out)) hmt HRT.out).mono ?_; rintro e w7 ⟨rfl, hx⟩; have HY7 := Lib.hid (HY6.out.then hx); clear hx)
            | (go_at_call 11; refine (knows_any _ (H.out.2.ext (HX1.out.then HY7.out))).mono ?_; rintro e w8 ⟨rfl, hx⟩; have HY8 := Lib.hid (HY7.out.then hx); clear hx)
            | fail)
          go_ret
          exact ⟨rfl, HX1.out.then HY8.out⟩
    · go_enter Tryz.func8, Tryz.ntmps8
      go_wp2_with (first
        | (go_at_call 9; refine (CF.out _ ((Fr.refl _ w).alloc _)).mono ?_; rintro e w1 ⟨rfl, hx⟩; have HX := Lib.hid hx; clear hx)
        | fail)
      go_ret
      exact ⟨rfl, ((Fr.refl _ w).alloc _).then HX.out⟩
end Go.Proofs.YtoliamijgmifkaaGreatDoor
end
