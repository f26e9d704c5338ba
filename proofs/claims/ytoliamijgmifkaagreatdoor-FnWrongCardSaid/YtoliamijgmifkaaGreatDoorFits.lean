/- The guards on sizes: what they answer. (Printed by wip/gen_fits.py.) -/
import Derived.Test.YtoliamijgmifkaaGreatDoorW1
import Derived.Deep.LoopGhost
import Derived.Handy
set_option linter.all false
namespace Go.Proofs.YtoliamijgmifkaaGreatDoor
open Go.RowKit DT

theorem ret_bool {a b : Bool} (h : a = b) : Ending.returned (.bool a) = .returned (.bool b) := by rw [h]
/-- The first k of a list are all good, the next one is bad. -/
theorem all_bad {α : Type} (p : α → Bool) (xs : List α) (k : Nat) (hk : k < xs.length) (h : p xs[k] = false) : xs.all p = false := by
  rw [List.all_eq_false]
  exact ⟨xs[k], List.getElem_mem hk, by simp [h]⟩
theorem all_step {α : Type} (p : α → Bool) (xs : List α) (k : Nat) (hk : k < xs.length) (h : (xs.take k).all p = true) (h1 : p xs[k] = true) : (xs.take (k + 1)).all p = true := by
  rw [List.take_succ_eq_append_getElem hk, List.all_append, h]
  simp [h1]
theorem cellAt {w : World} {b : Nat} {cs : Array Value} {T : TypeId} (h : w.heap[b]? = some (.cells cs T (0, 0))) (j : Nat) (u : Value) (hj : cs[j]? = some u) : w.cell? ⟨b, j, none⟩ = some u := by
  simp only [World.cell?, h]; exact hj
def szOk (n : Nat) : Bool := decide (n ≤ 2147483647)
theorem szOk_t {n : Nat} (h : n ≤ 2147483647) : szOk n = true := by simpa [szOk] using h
theorem szOk_f {n : Nat} (h : ¬ n ≤ 2147483647) : szOk n = false := by simpa [szOk] using h
def fits3 (xs : List ByteArray) : Bool := szOk xs.length && xs.all fun s => szOk s.size
def fitsWord (x : GWord) : Bool := szOk x.surface.size && (fits3 x.pos && fits3 x.contents)
def fitsClass (x : GClass) : Bool := szOk x.name.size
def fitsUnk (x : GUnk) : Bool := fits3 x.contents
def fitsMark (x : GMark) : Bool := szOk x.name.size
def fitsRec (x : GRec) : Bool := szOk x.text.size && (fits3 x.tokens && (fits3 x.yomi && szOk x.pos.size))
def fitsDict (d : GDict) : Bool := (szOk d.words.length && d.words.all fitsWord) && (szOk d.costs.length && ((szOk d.classes.length && d.classes.all fitsClass) && (szOk d.chars.length && ((szOk d.unknown.length && d.unknown.all fitsUnk) && ((szOk d.meta0.length && d.meta0.all fitsMark) && ((szOk d.unkMeta.length && d.unkMeta.all fitsMark) && (szOk d.user.length && d.user.all fitsRec)))))))
set_option maxHeartbeats 400000 in
theorem zzFits3_any (w : World) (O : Nat → Prop) (A : Option Addr) (c : Nat) (xs : List ByteArray) (h : Ty.str.At w O A xs) :
    Calls Tryz.prog 114 #[.slice A xs.length c] w fun e w' => e = .returned (.bool (fits3 xs)) ∧ w = w' := by
  have hm := h.1
  have HN := Lib.hid h
  clear h
  by_cases hl : xs.length ≤ 2147483647
  · go_enter Tryz.func114, Tryz.ntmps114
    go_wp2_with fail
    go_loop [10] (fun i => ∃ k : Nat, k ≤ xs.length ∧ i = .int .i64 k ∧ Hid ((xs.take k).all (fun s => szOk s.size) = true)) (fun i => xs.length - (intOf i).toNat)
    case atStart => exact ⟨0, Nat.zero_le _, rfl, rfl⟩
    case round =>
      obtain ⟨k, hk, rfl, HA⟩ := hrel
      by_cases hlt : k < xs.length
      · obtain ⟨b, o, rfl, _, hbl, c0, _⟩ := str_at HN.out k hlt
        by_cases hs : xs[k].size ≤ 2147483647
        · go_wp2_with fail
          go_round
          case rel => exact ⟨k + 1, by omega, by go_num, all_step _ _ _ hlt HA (szOk_t hs)⟩
          case measure => simp [intOf]; omega
        · go_wp2_with fail
          go_ret
          exact ⟨ret_bool (by unfold fits3; rw [all_bad (fun s : ByteArray => szOk s.size) _ _ hlt (szOk_f hs)]; simp), rfl⟩
      · go_wp2_with fail
        go_ret
        exact ⟨ret_bool (by unfold fits3; rw [List.take_of_length_le (by omega)] at HA; rw [HA.out, szOk_t hl]; rfl), rfl⟩
  · go_enter Tryz.func114, Tryz.ntmps114
    go_wp2_with fail
    go_ret
    exact ⟨ret_bool (by unfold fits3; rw [szOk_f hl]; rfl), rfl⟩

set_option maxHeartbeats 1000000 in
theorem zzFits8_any (w : World) (O : Nat → Prop) (x : GWord) (cs : List Value) (h : tWord.R w O x cs) : Calls Tryz.prog 69 #[.agg cs.toArray] w fun e w' => e = .returned (.bool (fitsWord x)) ∧ Ext w w' := by
  obtain ⟨p, q, rfl, h1, h2, hsz⟩ := tWord_open h
  obtain ⟨A0, c0, e0, _, _, a0⟩ := h1
  cases e0
  have C0 : Hid (∀ W, Ext w W → Calls Tryz.prog 114 #[.slice A0 x.pos.length c0] W fun e w' => e = .returned (.bool (fits3 x.pos)) ∧ W = w') := fun W f => zzFits3_any W O A0 c0 _ (at_ext a0 f)
  clear a0
  obtain ⟨A1, c1, e1, _, _, a1⟩ := h2
  cases e1
  have C1 : Hid (∀ W, Ext w W → Calls Tryz.prog 114 #[.slice A1 x.contents.length c1] W fun e w' => e = .returned (.bool (fits3 x.contents)) ∧ W = w') := fun W f => zzFits3_any W O A1 c1 _ (at_ext a1 f)
  clear a1
  clear h
  unfold fitsWord
  generalize fits3 x.pos = b0 at C0 ⊢
  generalize fits3 x.contents = b1 at C1 ⊢
  by_cases hs0 : x.surface.size ≤ 2147483647
  · rw [szOk_t hs0]
    cases b0
    · skip
      go_enter Tryz.func69, Tryz.ntmps69
      go_wp2_with (first | (go_at_call 114; ((with_reducible refine (C0.out _ ((Fr.refl _ w).alloc _)).mono ?_); rintro e w' ⟨rfl, rfl⟩)) | (go_at_call 114; ((with_reducible refine (C1.out _ ((Fr.refl _ w).alloc _)).mono ?_); rintro e w' ⟨rfl, rfl⟩)) | fail)
      go_ret
      exact ⟨ret_bool (by simp), (Fr.refl _ w).alloc _⟩
    · skip
      cases b1
      · skip
        go_enter Tryz.func69, Tryz.ntmps69
        go_wp2_with (first | (go_at_call 114; ((with_reducible refine (C0.out _ ((Fr.refl _ w).alloc _)).mono ?_); rintro e w' ⟨rfl, rfl⟩)) | (go_at_call 114; ((with_reducible refine (C1.out _ ((Fr.refl _ w).alloc _)).mono ?_); rintro e w' ⟨rfl, rfl⟩)) | fail)
        go_ret
        exact ⟨ret_bool (by simp), (Fr.refl _ w).alloc _⟩
      · skip
        go_enter Tryz.func69, Tryz.ntmps69
        go_wp2_with (first | (go_at_call 114; ((with_reducible refine (C0.out _ ((Fr.refl _ w).alloc _)).mono ?_); rintro e w' ⟨rfl, rfl⟩)) | (go_at_call 114; ((with_reducible refine (C1.out _ ((Fr.refl _ w).alloc _)).mono ?_); rintro e w' ⟨rfl, rfl⟩)) | fail)
        go_ret
        exact ⟨ret_bool (by simp), (Fr.refl _ w).alloc _⟩
  · rw [szOk_f hs0]
    go_enter Tryz.func69, Tryz.ntmps69
    go_wp2_with (first | (go_at_call 114; ((with_reducible refine (C0.out _ ((Fr.refl _ w).alloc _)).mono ?_); rintro e w' ⟨rfl, rfl⟩)) | (go_at_call 114; ((with_reducible refine (C1.out _ ((Fr.refl _ w).alloc _)).mono ?_); rintro e w' ⟨rfl, rfl⟩)) | fail)
    go_ret
    exact ⟨ret_bool (by simp), (Fr.refl _ w).alloc _⟩
set_option maxHeartbeats 1000000 in
theorem zzFits5_any (w : World) (O : Nat → Prop) (x : GClass) (cs : List Value) (h : tClass.R w O x cs) : Calls Tryz.prog 70 #[.agg cs.toArray] w fun e w' => e = .returned (.bool (fitsClass x)) ∧ Ext w w' := by
  cases tClass_open h
  clear h
  unfold fitsClass
  by_cases hs0 : x.name.size ≤ 2147483647
  · rw [szOk_t hs0]
    go_enter Tryz.func70, Tryz.ntmps70
    go_wp2_with (first | fail)
    go_ret
    exact ⟨ret_bool (by simp), (Fr.refl _ w).alloc _⟩
  · rw [szOk_f hs0]
    go_enter Tryz.func70, Tryz.ntmps70
    go_wp2_with (first | fail)
    go_ret
    exact ⟨ret_bool (by simp), (Fr.refl _ w).alloc _⟩
set_option maxHeartbeats 1000000 in
theorem zzFits2_any (w : World) (O : Nat → Prop) (x : GUnk) (cs : List Value) (h : tUnk.R w O x cs) : Calls Tryz.prog 71 #[.agg cs.toArray] w fun e w' => e = .returned (.bool (fitsUnk x)) ∧ Ext w w' := by
  obtain ⟨q, rfl, h1⟩ := tUnk_open h
  obtain ⟨A0, c0, e0, _, _, a0⟩ := h1
  cases e0
  have C0 : Hid (∀ W, Ext w W → Calls Tryz.prog 114 #[.slice A0 x.contents.length c0] W fun e w' => e = .returned (.bool (fits3 x.contents)) ∧ W = w') := fun W f => zzFits3_any W O A0 c0 _ (at_ext a0 f)
  clear a0
  clear h
  unfold fitsUnk
  generalize fits3 x.contents = b0 at C0 ⊢
  cases b0
  · skip
    go_enter Tryz.func71, Tryz.ntmps71
    go_wp2_with (first | (go_at_call 114; ((with_reducible refine (C0.out _ ((Fr.refl _ w).alloc _)).mono ?_); rintro e w' ⟨rfl, rfl⟩)) | fail)
    go_ret
    exact ⟨ret_bool (by simp), (Fr.refl _ w).alloc _⟩
  · skip
    go_enter Tryz.func71, Tryz.ntmps71
    go_wp2_with (first | (go_at_call 114; ((with_reducible refine (C0.out _ ((Fr.refl _ w).alloc _)).mono ?_); rintro e w' ⟨rfl, rfl⟩)) | fail)
    go_ret
    exact ⟨ret_bool (by simp), (Fr.refl _ w).alloc _⟩
set_option maxHeartbeats 1000000 in
theorem zzFits12_any (w : World) (O : Nat → Prop) (x : GMark) (cs : List Value) (h : tMark.R w O x cs) : Calls Tryz.prog 72 #[.agg cs.toArray] w fun e w' => e = .returned (.bool (fitsMark x)) ∧ Ext w w' := by
  obtain ⟨rfl, hsz, _, _⟩ := tMark_open h
  clear h
  unfold fitsMark
  by_cases hs0 : x.name.size ≤ 2147483647
  · rw [szOk_t hs0]
    go_enter Tryz.func72, Tryz.ntmps72
    go_wp2_with (first | fail)
    go_ret
    exact ⟨ret_bool (by simp), (Fr.refl _ w).alloc _⟩
  · rw [szOk_f hs0]
    go_enter Tryz.func72, Tryz.ntmps72
    go_wp2_with (first | fail)
    go_ret
    exact ⟨ret_bool (by simp), (Fr.refl _ w).alloc _⟩
set_option maxHeartbeats 1000000 in
theorem zzFits15_any (w : World) (O : Nat → Prop) (x : GRec) (cs : List Value) (h : tRec.R w O x cs) : Calls Tryz.prog 73 #[.agg cs.toArray] w fun e w' => e = .returned (.bool (fitsRec x)) ∧ Ext w w' := by
  obtain ⟨p, q, rfl, h1, h2, hsz, hsz2⟩ := tRec_open h
  obtain ⟨A0, c0, e0, _, _, a0⟩ := h1
  cases e0
  have C0 : Hid (∀ W, Ext w W → Calls Tryz.prog 114 #[.slice A0 x.tokens.length c0] W fun e w' => e = .returned (.bool (fits3 x.tokens)) ∧ W = w') := fun W f => zzFits3_any W O A0 c0 _ (at_ext a0 f)
  clear a0
  obtain ⟨A1, c1, e1, _, _, a1⟩ := h2
  cases e1
  have C1 : Hid (∀ W, Ext w W → Calls Tryz.prog 114 #[.slice A1 x.yomi.length c1] W fun e w' => e = .returned (.bool (fits3 x.yomi)) ∧ W = w') := fun W f => zzFits3_any W O A1 c1 _ (at_ext a1 f)
  clear a1
  clear h
  unfold fitsRec
  generalize fits3 x.tokens = b0 at C0 ⊢
  generalize fits3 x.yomi = b1 at C1 ⊢
  by_cases hs0 : x.text.size ≤ 2147483647
  · rw [szOk_t hs0]
    cases b0
    · skip
      go_enter Tryz.func73, Tryz.ntmps73
      go_wp2_with (first | (go_at_call 114; ((with_reducible refine (C0.out _ ((Fr.refl _ w).alloc _)).mono ?_); rintro e w' ⟨rfl, rfl⟩)) | (go_at_call 114; ((with_reducible refine (C1.out _ ((Fr.refl _ w).alloc _)).mono ?_); rintro e w' ⟨rfl, rfl⟩)) | fail)
      go_ret
      exact ⟨ret_bool (by simp), (Fr.refl _ w).alloc _⟩
    · skip
      cases b1
      · skip
        go_enter Tryz.func73, Tryz.ntmps73
        go_wp2_with (first | (go_at_call 114; ((with_reducible refine (C0.out _ ((Fr.refl _ w).alloc _)).mono ?_); rintro e w' ⟨rfl, rfl⟩)) | (go_at_call 114; ((with_reducible refine (C1.out _ ((Fr.refl _ w).alloc _)).mono ?_); rintro e w' ⟨rfl, rfl⟩)) | fail)
        go_ret
        exact ⟨ret_bool (by simp), (Fr.refl _ w).alloc _⟩
      · skip
        by_cases hs3 : x.pos.size ≤ 2147483647
        · rw [szOk_t hs3]
          go_enter Tryz.func73, Tryz.ntmps73
          go_wp2_with (first | (go_at_call 114; ((with_reducible refine (C0.out _ ((Fr.refl _ w).alloc _)).mono ?_); rintro e w' ⟨rfl, rfl⟩)) | (go_at_call 114; ((with_reducible refine (C1.out _ ((Fr.refl _ w).alloc _)).mono ?_); rintro e w' ⟨rfl, rfl⟩)) | fail)
          go_ret
          exact ⟨ret_bool (by simp), (Fr.refl _ w).alloc _⟩
        · rw [szOk_f hs3]
          go_enter Tryz.func73, Tryz.ntmps73
          go_wp2_with (first | (go_at_call 114; ((with_reducible refine (C0.out _ ((Fr.refl _ w).alloc _)).mono ?_); rintro e w' ⟨rfl, rfl⟩)) | (go_at_call 114; ((with_reducible refine (C1.out _ ((Fr.refl _ w).alloc _)).mono ?_); rintro e w' ⟨rfl, rfl⟩)) | fail)
          go_ret
          exact ⟨ret_bool (by simp), (Fr.refl _ w).alloc _⟩
  · rw [szOk_f hs0]
    go_enter Tryz.func73, Tryz.ntmps73
    go_wp2_with (first | (go_at_call 114; ((with_reducible refine (C0.out _ ((Fr.refl _ w).alloc _)).mono ?_); rintro e w' ⟨rfl, rfl⟩)) | (go_at_call 114; ((with_reducible refine (C1.out _ ((Fr.refl _ w).alloc _)).mono ?_); rintro e w' ⟨rfl, rfl⟩)) | fail)
    go_ret
    exact ⟨ret_bool (by simp), (Fr.refl _ w).alloc _⟩
set_option maxHeartbeats 1000000 in
theorem zzFits7_any (w : World) (O : Nat → Prop) (A : Option Addr) (c : Nat) (xs : List GWord) (h : tWord.At w O A xs) : Calls Tryz.prog 26 #[.slice A xs.length c] w fun e w' => e = .returned (.bool (szOk xs.length && xs.all fitsWord)) ∧ Ext w w' := by
  have hm := h.1
  have HN := Lib.hid h
  clear h
  by_cases hl : xs.length ≤ 2147483647
  · go_enter Tryz.func26, Tryz.ntmps26
    go_wp2_with fail
    go_loopg [10] xs.length (fun g1 i wr => ∃ k : Nat, i = .int .i64 k ∧ k ≤ xs.length ∧ xs.length ≤ k + g1 ∧ Hid ((xs.take k).all fitsWord = true ∧ Ext w wr))
    case atStart => exact ⟨0, rfl, Nat.zero_le _, by omega, rfl, Fr.refl _ _⟩
    case round =>
      obtain ⟨k, rfl, hk, hg, HA⟩ := hrel
      by_cases hlt : k < xs.length
      · rcases HN.out.2 with e | ⟨b, o, rfl, _, hbl, hc⟩
        · subst e; simp at hlt
        obtain ⟨cs, hr, hcs⟩ := hc k hlt
        obtain ⟨x, hx⟩ : ∃ x, x = xs[k] := ⟨_, rfl⟩
        rw [← hx] at hr
        obtain ⟨p, q, rfl, h1, h2, _⟩ := tWord_open hr; obtain ⟨A1, c1, e1, _⟩ := h1; cases e1; obtain ⟨A2, c2, e2, _⟩ := h2; cases e2
        have q0 : wr.cell? ⟨b, o + k * 6, none⟩ = some _ := HA.out.2.cell (hcs 0 (by simp)) id
        have q1 : wr.cell? ⟨b, o + k * 6 + 1, none⟩ = some _ := HA.out.2.cell (hcs 1 (by simp)) id
        have q2 : wr.cell? ⟨b, o + k * 6 + 2, none⟩ = some _ := HA.out.2.cell (hcs 2 (by simp)) id
        have q3 : wr.cell? ⟨b, o + k * 6 + 3, none⟩ = some _ := HA.out.2.cell (hcs 3 (by simp)) id
        have q4 : wr.cell? ⟨b, o + k * 6 + 4, none⟩ = some _ := HA.out.2.cell (hcs 4 (by simp)) id
        have q5 : wr.cell? ⟨b, o + k * 6 + 5, none⟩ = some _ := HA.out.2.cell (hcs 5 (by simp)) id
        have hbl2 : b < wr.heap.size := Nat.lt_of_lt_of_le hbl HA.out.2.size
        have HS : Hid (∀ W, Ext wr W → Calls Tryz.prog 69 #[.agg _] W fun e w' => e = .returned (.bool (fitsWord x)) ∧ Ext W w') := fun W f => zzFits8_any W O x _ (tWord.ext hr (HA.out.2.then f))
        have HP : Hid (fitsWord xs[k] = fitsWord x) := by rw [hx]; rfl
        clear hc hcs hr hx
        cases hv : fitsWord x
        · rw [hv] at HS HP
          clear hv
          go_wp2_with (first | (go_at_call 69; refine (HS.out _ ((Fr.refl _ wr).alloc _)).mono ?_; rintro e w1 ⟨rfl, hx1⟩; have HX1 := Lib.hid hx1; clear hx1) | fail)
          go_ret
          exact ⟨ret_bool (by rw [all_bad _ _ _ hlt HP.out]; simp), (HA.out.2.alloc _).then HX1.out⟩
        · rw [hv] at HS HP
          clear hv
          go_wp2_with (first | (go_at_call 69; refine (HS.out _ ((Fr.refl _ wr).alloc _)).mono ?_; rintro e w1 ⟨rfl, hx1⟩; have HX1 := Lib.hid hx1; clear hx1) | fail)
          go_roundg (xs.length - (k + 1))
          case measure => omega
          case rel => exact ⟨k + 1, by go_num, by omega, by omega, all_step _ _ _ hlt HA.out.1 HP.out, (HA.out.2.alloc _).then HX1.out⟩
      · go_wp2_with fail
        go_ret
        have e := HA.out.1
        rw [List.take_of_length_le (by omega)] at e
        exact ⟨ret_bool (by rw [e, szOk_t hl]; rfl), HA.out.2⟩
  · go_enter Tryz.func26, Tryz.ntmps26
    go_wp2_with fail
    go_ret
    exact ⟨ret_bool (by rw [szOk_f hl]; rfl), Fr.refl _ _⟩
set_option maxHeartbeats 1000000 in
theorem zzFits4_any (w : World) (O : Nat → Prop) (A : Option Addr) (c : Nat) (xs : List GClass) (h : tClass.At w O A xs) : Calls Tryz.prog 27 #[.slice A xs.length c] w fun e w' => e = .returned (.bool (szOk xs.length && xs.all fitsClass)) ∧ Ext w w' := by
  have hm := h.1
  have HN := Lib.hid h
  clear h
  by_cases hl : xs.length ≤ 2147483647
  · go_enter Tryz.func27, Tryz.ntmps27
    go_wp2_with fail
    go_loopg [10] xs.length (fun g1 i wr => ∃ k : Nat, i = .int .i64 k ∧ k ≤ xs.length ∧ xs.length ≤ k + g1 ∧ Hid ((xs.take k).all fitsClass = true ∧ Ext w wr))
    case atStart => exact ⟨0, rfl, Nat.zero_le _, by omega, rfl, Fr.refl _ _⟩
    case round =>
      obtain ⟨k, rfl, hk, hg, HA⟩ := hrel
      by_cases hlt : k < xs.length
      · rcases HN.out.2 with e | ⟨b, o, rfl, _, hbl, hc⟩
        · subst e; simp at hlt
        obtain ⟨cs, hr, hcs⟩ := hc k hlt
        obtain ⟨x, hx⟩ : ∃ x, x = xs[k] := ⟨_, rfl⟩
        rw [← hx] at hr
        obtain rfl := tClass_open hr
        have q0 : wr.cell? ⟨b, o + k * 3, none⟩ = some _ := HA.out.2.cell (hcs 0 (by simp)) id
        have q1 : wr.cell? ⟨b, o + k * 3 + 1, none⟩ = some _ := HA.out.2.cell (hcs 1 (by simp)) id
        have q2 : wr.cell? ⟨b, o + k * 3 + 2, none⟩ = some _ := HA.out.2.cell (hcs 2 (by simp)) id
        have hbl2 : b < wr.heap.size := Nat.lt_of_lt_of_le hbl HA.out.2.size
        have HS : Hid (∀ W, Ext wr W → Calls Tryz.prog 70 #[.agg _] W fun e w' => e = .returned (.bool (fitsClass x)) ∧ Ext W w') := fun W f => zzFits5_any W O x _ (tClass.ext hr (HA.out.2.then f))
        have HP : Hid (fitsClass xs[k] = fitsClass x) := by rw [hx]; rfl
        clear hc hcs hr hx
        cases hv : fitsClass x
        · rw [hv] at HS HP
          clear hv
          go_wp2_with (first | (go_at_call 70; refine (HS.out _ ((Fr.refl _ wr).alloc _)).mono ?_; rintro e w1 ⟨rfl, hx1⟩; have HX1 := Lib.hid hx1; clear hx1) | fail)
          go_ret
          exact ⟨ret_bool (by rw [all_bad _ _ _ hlt HP.out]; simp), (HA.out.2.alloc _).then HX1.out⟩
        · rw [hv] at HS HP
          clear hv
          go_wp2_with (first | (go_at_call 70; refine (HS.out _ ((Fr.refl _ wr).alloc _)).mono ?_; rintro e w1 ⟨rfl, hx1⟩; have HX1 := Lib.hid hx1; clear hx1) | fail)
          go_roundg (xs.length - (k + 1))
          case measure => omega
          case rel => exact ⟨k + 1, by go_num, by omega, by omega, all_step _ _ _ hlt HA.out.1 HP.out, (HA.out.2.alloc _).then HX1.out⟩
      · go_wp2_with fail
        go_ret
        have e := HA.out.1
        rw [List.take_of_length_le (by omega)] at e
        exact ⟨ret_bool (by rw [e, szOk_t hl]; rfl), HA.out.2⟩
  · go_enter Tryz.func27, Tryz.ntmps27
    go_wp2_with fail
    go_ret
    exact ⟨ret_bool (by rw [szOk_f hl]; rfl), Fr.refl _ _⟩
set_option maxHeartbeats 1000000 in
theorem zzFits1_any (w : World) (O : Nat → Prop) (A : Option Addr) (c : Nat) (xs : List GUnk) (h : tUnk.At w O A xs) : Calls Tryz.prog 28 #[.slice A xs.length c] w fun e w' => e = .returned (.bool (szOk xs.length && xs.all fitsUnk)) ∧ Ext w w' := by
  have hm := h.1
  have HN := Lib.hid h
  clear h
  by_cases hl : xs.length ≤ 2147483647
  · go_enter Tryz.func28, Tryz.ntmps28
    go_wp2_with fail
    go_loopg [10] xs.length (fun g1 i wr => ∃ k : Nat, i = .int .i64 k ∧ k ≤ xs.length ∧ xs.length ≤ k + g1 ∧ Hid ((xs.take k).all fitsUnk = true ∧ Ext w wr))
    case atStart => exact ⟨0, rfl, Nat.zero_le _, by omega, rfl, Fr.refl _ _⟩
    case round =>
      obtain ⟨k, rfl, hk, hg, HA⟩ := hrel
      by_cases hlt : k < xs.length
      · rcases HN.out.2 with e | ⟨b, o, rfl, _, hbl, hc⟩
        · subst e; simp at hlt
        obtain ⟨cs, hr, hcs⟩ := hc k hlt
        obtain ⟨x, hx⟩ : ∃ x, x = xs[k] := ⟨_, rfl⟩
        rw [← hx] at hr
        obtain ⟨q, rfl, h1⟩ := tUnk_open hr; obtain ⟨A1, c1, e1, _⟩ := h1; cases e1
        have q0 : wr.cell? ⟨b, o + k * 5, none⟩ = some _ := HA.out.2.cell (hcs 0 (by simp)) id
        have q1 : wr.cell? ⟨b, o + k * 5 + 1, none⟩ = some _ := HA.out.2.cell (hcs 1 (by simp)) id
        have q2 : wr.cell? ⟨b, o + k * 5 + 2, none⟩ = some _ := HA.out.2.cell (hcs 2 (by simp)) id
        have q3 : wr.cell? ⟨b, o + k * 5 + 3, none⟩ = some _ := HA.out.2.cell (hcs 3 (by simp)) id
        have q4 : wr.cell? ⟨b, o + k * 5 + 4, none⟩ = some _ := HA.out.2.cell (hcs 4 (by simp)) id
        have hbl2 : b < wr.heap.size := Nat.lt_of_lt_of_le hbl HA.out.2.size
        have HS : Hid (∀ W, Ext wr W → Calls Tryz.prog 71 #[.agg _] W fun e w' => e = .returned (.bool (fitsUnk x)) ∧ Ext W w') := fun W f => zzFits2_any W O x _ (tUnk.ext hr (HA.out.2.then f))
        have HP : Hid (fitsUnk xs[k] = fitsUnk x) := by rw [hx]; rfl
        clear hc hcs hr hx
        cases hv : fitsUnk x
        · rw [hv] at HS HP
          clear hv
          go_wp2_with (first | (go_at_call 71; refine (HS.out _ ((Fr.refl _ wr).alloc _)).mono ?_; rintro e w1 ⟨rfl, hx1⟩; have HX1 := Lib.hid hx1; clear hx1) | fail)
          go_ret
          exact ⟨ret_bool (by rw [all_bad _ _ _ hlt HP.out]; simp), (HA.out.2.alloc _).then HX1.out⟩
        · rw [hv] at HS HP
          clear hv
          go_wp2_with (first | (go_at_call 71; refine (HS.out _ ((Fr.refl _ wr).alloc _)).mono ?_; rintro e w1 ⟨rfl, hx1⟩; have HX1 := Lib.hid hx1; clear hx1) | fail)
          go_roundg (xs.length - (k + 1))
          case measure => omega
          case rel => exact ⟨k + 1, by go_num, by omega, by omega, all_step _ _ _ hlt HA.out.1 HP.out, (HA.out.2.alloc _).then HX1.out⟩
      · go_wp2_with fail
        go_ret
        have e := HA.out.1
        rw [List.take_of_length_le (by omega)] at e
        exact ⟨ret_bool (by rw [e, szOk_t hl]; rfl), HA.out.2⟩
  · go_enter Tryz.func28, Tryz.ntmps28
    go_wp2_with fail
    go_ret
    exact ⟨ret_bool (by rw [szOk_f hl]; rfl), Fr.refl _ _⟩
set_option maxHeartbeats 1000000 in
theorem zzFits11_any (w : World) (O : Nat → Prop) (A : Option Addr) (c : Nat) (xs : List GMark) (h : tMark.At w O A xs) : Calls Tryz.prog 29 #[.slice A xs.length c] w fun e w' => e = .returned (.bool (szOk xs.length && xs.all fitsMark)) ∧ Ext w w' := by
  have hm := h.1
  have HN := Lib.hid h
  clear h
  by_cases hl : xs.length ≤ 2147483647
  · go_enter Tryz.func29, Tryz.ntmps29
    go_wp2_with fail
    go_loopg [10] xs.length (fun g1 i wr => ∃ k : Nat, i = .int .i64 k ∧ k ≤ xs.length ∧ xs.length ≤ k + g1 ∧ Hid ((xs.take k).all fitsMark = true ∧ Ext w wr))
    case atStart => exact ⟨0, rfl, Nat.zero_le _, by omega, rfl, Fr.refl _ _⟩
    case round =>
      obtain ⟨k, rfl, hk, hg, HA⟩ := hrel
      by_cases hlt : k < xs.length
      · rcases HN.out.2 with e | ⟨b, o, rfl, _, hbl, hc⟩
        · subst e; simp at hlt
        obtain ⟨cs, hr, hcs⟩ := hc k hlt
        obtain ⟨x, hx⟩ : ∃ x, x = xs[k] := ⟨_, rfl⟩
        rw [← hx] at hr
        obtain ⟨rfl, _⟩ := tMark_open hr
        have q0 : wr.cell? ⟨b, o + k * 2, none⟩ = some _ := HA.out.2.cell (hcs 0 (by simp)) id
        have q1 : wr.cell? ⟨b, o + k * 2 + 1, none⟩ = some _ := HA.out.2.cell (hcs 1 (by simp)) id
        have hbl2 : b < wr.heap.size := Nat.lt_of_lt_of_le hbl HA.out.2.size
        have HS : Hid (∀ W, Ext wr W → Calls Tryz.prog 72 #[.agg _] W fun e w' => e = .returned (.bool (fitsMark x)) ∧ Ext W w') := fun W f => zzFits12_any W O x _ (tMark.ext hr (HA.out.2.then f))
        have HP : Hid (fitsMark xs[k] = fitsMark x) := by rw [hx]; rfl
        clear hc hcs hr hx
        cases hv : fitsMark x
        · rw [hv] at HS HP
          clear hv
          go_wp2_with (first | (go_at_call 72; refine (HS.out _ ((Fr.refl _ wr).alloc _)).mono ?_; rintro e w1 ⟨rfl, hx1⟩; have HX1 := Lib.hid hx1; clear hx1) | fail)
          go_ret
          exact ⟨ret_bool (by rw [all_bad _ _ _ hlt HP.out]; simp), (HA.out.2.alloc _).then HX1.out⟩
        · rw [hv] at HS HP
          clear hv
          go_wp2_with (first | (go_at_call 72; refine (HS.out _ ((Fr.refl _ wr).alloc _)).mono ?_; rintro e w1 ⟨rfl, hx1⟩; have HX1 := Lib.hid hx1; clear hx1) | fail)
          go_roundg (xs.length - (k + 1))
          case measure => omega
          case rel => exact ⟨k + 1, by go_num, by omega, by omega, all_step _ _ _ hlt HA.out.1 HP.out, (HA.out.2.alloc _).then HX1.out⟩
      · go_wp2_with fail
        go_ret
        have e := HA.out.1
        rw [List.take_of_length_le (by omega)] at e
        exact ⟨ret_bool (by rw [e, szOk_t hl]; rfl), HA.out.2⟩
  · go_enter Tryz.func29, Tryz.ntmps29
    go_wp2_with fail
    go_ret
    exact ⟨ret_bool (by rw [szOk_f hl]; rfl), Fr.refl _ _⟩
set_option maxHeartbeats 1000000 in
theorem zzFits14_any (w : World) (O : Nat → Prop) (A : Option Addr) (c : Nat) (xs : List GRec) (h : tRec.At w O A xs) : Calls Tryz.prog 30 #[.slice A xs.length c] w fun e w' => e = .returned (.bool (szOk xs.length && xs.all fitsRec)) ∧ Ext w w' := by
  have hm := h.1
  have HN := Lib.hid h
  clear h
  by_cases hl : xs.length ≤ 2147483647
  · go_enter Tryz.func30, Tryz.ntmps30
    go_wp2_with fail
    go_loopg [10] xs.length (fun g1 i wr => ∃ k : Nat, i = .int .i64 k ∧ k ≤ xs.length ∧ xs.length ≤ k + g1 ∧ Hid ((xs.take k).all fitsRec = true ∧ Ext w wr))
    case atStart => exact ⟨0, rfl, Nat.zero_le _, by omega, rfl, Fr.refl _ _⟩
    case round =>
      obtain ⟨k, rfl, hk, hg, HA⟩ := hrel
      by_cases hlt : k < xs.length
      · rcases HN.out.2 with e | ⟨b, o, rfl, _, hbl, hc⟩
        · subst e; simp at hlt
        obtain ⟨cs, hr, hcs⟩ := hc k hlt
        obtain ⟨x, hx⟩ : ∃ x, x = xs[k] := ⟨_, rfl⟩
        rw [← hx] at hr
        obtain ⟨p, q, rfl, h1, h2, _⟩ := tRec_open hr; obtain ⟨A1, c1, e1, _⟩ := h1; cases e1; obtain ⟨A2, c2, e2, _⟩ := h2; cases e2
        have q0 : wr.cell? ⟨b, o + k * 4, none⟩ = some _ := HA.out.2.cell (hcs 0 (by simp)) id
        have q1 : wr.cell? ⟨b, o + k * 4 + 1, none⟩ = some _ := HA.out.2.cell (hcs 1 (by simp)) id
        have q2 : wr.cell? ⟨b, o + k * 4 + 2, none⟩ = some _ := HA.out.2.cell (hcs 2 (by simp)) id
        have q3 : wr.cell? ⟨b, o + k * 4 + 3, none⟩ = some _ := HA.out.2.cell (hcs 3 (by simp)) id
        have hbl2 : b < wr.heap.size := Nat.lt_of_lt_of_le hbl HA.out.2.size
        have HS : Hid (∀ W, Ext wr W → Calls Tryz.prog 73 #[.agg _] W fun e w' => e = .returned (.bool (fitsRec x)) ∧ Ext W w') := fun W f => zzFits15_any W O x _ (tRec.ext hr (HA.out.2.then f))
        have HP : Hid (fitsRec xs[k] = fitsRec x) := by rw [hx]; rfl
        clear hc hcs hr hx
        cases hv : fitsRec x
        · rw [hv] at HS HP
          clear hv
          go_wp2_with (first | (go_at_call 73; refine (HS.out _ ((Fr.refl _ wr).alloc _)).mono ?_; rintro e w1 ⟨rfl, hx1⟩; have HX1 := Lib.hid hx1; clear hx1) | fail)
          go_ret
          exact ⟨ret_bool (by rw [all_bad _ _ _ hlt HP.out]; simp), (HA.out.2.alloc _).then HX1.out⟩
        · rw [hv] at HS HP
          clear hv
          go_wp2_with (first | (go_at_call 73; refine (HS.out _ ((Fr.refl _ wr).alloc _)).mono ?_; rintro e w1 ⟨rfl, hx1⟩; have HX1 := Lib.hid hx1; clear hx1) | fail)
          go_roundg (xs.length - (k + 1))
          case measure => omega
          case rel => exact ⟨k + 1, by go_num, by omega, by omega, all_step _ _ _ hlt HA.out.1 HP.out, (HA.out.2.alloc _).then HX1.out⟩
      · go_wp2_with fail
        go_ret
        have e := HA.out.1
        rw [List.take_of_length_le (by omega)] at e
        exact ⟨ret_bool (by rw [e, szOk_t hl]; rfl), HA.out.2⟩
  · go_enter Tryz.func30, Tryz.ntmps30
    go_wp2_with fail
    go_ret
    exact ⟨ret_bool (by rw [szOk_f hl]; rfl), Fr.refl _ _⟩
set_option maxRecDepth 100000 in
set_option maxHeartbeats 2000000 in
theorem zzFits13_any (w : World) (O : Nat → Prop) (d : GDict) (cs : List Value) (h : tDict.R w O d cs) : Calls Tryz.prog 9 #[.agg cs.toArray] w fun e w' => e = .returned (.bool (fitsDict d)) ∧ Ext w w' := by
  obtain ⟨A1, c1, A2, c2, A3, c3, A4, c4, A5, c5, A6, c6, A7, c7, A8, c8, rfl, h1, h2, h3, h4, h5, h6, h7, h8, _⟩ := tDict_open h
  have C1 : Hid (∀ W, Ext w W → Calls Tryz.prog 26 #[.slice A1 d.words.length c1] W fun e w' => e = .returned (.bool (szOk d.words.length && d.words.all fitsWord)) ∧ Ext W w') := fun W f => zzFits7_any W O A1 c1 _ (at_ext h1.2.2 f)
  have C3 : Hid (∀ W, Ext w W → Calls Tryz.prog 27 #[.slice A3 d.classes.length c3] W fun e w' => e = .returned (.bool (szOk d.classes.length && d.classes.all fitsClass)) ∧ Ext W w') := fun W f => zzFits4_any W O A3 c3 _ (at_ext h3.2.2 f)
  have C5 : Hid (∀ W, Ext w W → Calls Tryz.prog 28 #[.slice A5 d.unknown.length c5] W fun e w' => e = .returned (.bool (szOk d.unknown.length && d.unknown.all fitsUnk)) ∧ Ext W w') := fun W f => zzFits1_any W O A5 c5 _ (at_ext h5.2.2 f)
  have C6 : Hid (∀ W, Ext w W → Calls Tryz.prog 29 #[.slice A6 d.meta0.length c6] W fun e w' => e = .returned (.bool (szOk d.meta0.length && d.meta0.all fitsMark)) ∧ Ext W w') := fun W f => zzFits11_any W O A6 c6 _ (at_ext h6.2.2 f)
  have C7 : Hid (∀ W, Ext w W → Calls Tryz.prog 29 #[.slice A7 d.unkMeta.length c7] W fun e w' => e = .returned (.bool (szOk d.unkMeta.length && d.unkMeta.all fitsMark)) ∧ Ext W w') := fun W f => zzFits11_any W O A7 c7 _ (at_ext h7.2.2 f)
  have C8 : Hid (∀ W, Ext w W → Calls Tryz.prog 30 #[.slice A8 d.user.length c8] W fun e w' => e = .returned (.bool (szOk d.user.length && d.user.all fitsRec)) ∧ Ext W w') := fun W f => zzFits14_any W O A8 c8 _ (at_ext h8.2.2 f)
  have l2 := h2.2.2.1
  have l4 := h4.2.2.1
  clear h h1 h2 h3 h4 h5 h6 h7 h8
  unfold fitsDict
  generalize (szOk d.words.length && d.words.all fitsWord) = b1 at C1 ⊢
  generalize (szOk d.classes.length && d.classes.all fitsClass) = b3 at C3 ⊢
  generalize (szOk d.unknown.length && d.unknown.all fitsUnk) = b5 at C5 ⊢
  generalize (szOk d.meta0.length && d.meta0.all fitsMark) = b6 at C6 ⊢
  generalize (szOk d.unkMeta.length && d.unkMeta.all fitsMark) = b7 at C7 ⊢
  generalize (szOk d.user.length && d.user.all fitsRec) = b8 at C8 ⊢
  have X0 := (Fr.refl (fun _ => False) w).alloc (.cells #[.slice A1 d.words.length c1, .int .i64 d.rows, .int .i64 d.cols, .slice A2 d.costs.length c2, .slice A3 d.classes.length c3, .slice A4 d.chars.length c4, .slice A5 d.unknown.length c5, .slice A6 d.meta0.length c6, .slice A7 d.unkMeta.length c7, .bool d.hasUser, .slice A8 d.user.length c8] 30)
  have B0 := alloc_at w (.cells #[.slice A1 d.words.length c1, .int .i64 d.rows, .int .i64 d.cols, .slice A2 d.costs.length c2, .slice A3 d.classes.length c3, .slice A4 d.chars.length c4, .slice A5 d.unknown.length c5, .slice A6 d.meta0.length c6, .slice A7 d.unkMeta.length c7, .bool d.hasUser, .slice A8 d.user.length c8] 30)
  have HX := Lib.hid (And.intro X0 B0)
  clear X0 B0
  cases b1
  · skip
    go_enter Tryz.func9, Tryz.ntmps9
    go_wp2_with (first | (go_at_call 26; ((with_reducible refine (C1.out _ HX.out.1).mono ?_); rintro e w1 ⟨rfl, hx⟩; have hb := hx.heap HX.out.2 id; have k0 := cellAt hb 0 (.slice A1 d.words.length c1) rfl; have k3 := cellAt hb 3 (.slice A2 d.costs.length c2) rfl; have k4 := cellAt hb 4 (.slice A3 d.classes.length c3) rfl; have k5 := cellAt hb 5 (.slice A4 d.chars.length c4) rfl; have k6 := cellAt hb 6 (.slice A5 d.unknown.length c5) rfl; have k7 := cellAt hb 7 (.slice A6 d.meta0.length c6) rfl; have k8 := cellAt hb 8 (.slice A7 d.unkMeta.length c7) rfl; have k10 := cellAt hb 10 (.slice A8 d.user.length c8) rfl; have lb := lt_of_cell k0; have HY := Lib.hid (And.intro (HX.out.1.then hx) hb); clear hx hb)) | (go_at_call 27; ((with_reducible refine (C3.out _ HY.out.1).mono ?_); rintro e w1 ⟨rfl, hx⟩; have hb := hx.heap HY.out.2 id; have k0 := cellAt hb 0 (.slice A1 d.words.length c1) rfl; have k3 := cellAt hb 3 (.slice A2 d.costs.length c2) rfl; have k4 := cellAt hb 4 (.slice A3 d.classes.length c3) rfl; have k5 := cellAt hb 5 (.slice A4 d.chars.length c4) rfl; have k6 := cellAt hb 6 (.slice A5 d.unknown.length c5) rfl; have k7 := cellAt hb 7 (.slice A6 d.meta0.length c6) rfl; have k8 := cellAt hb 8 (.slice A7 d.unkMeta.length c7) rfl; have k10 := cellAt hb 10 (.slice A8 d.user.length c8) rfl; have lb := lt_of_cell k0; have HY := Lib.hid (And.intro (HY.out.1.then hx) hb); clear hx hb)) | (go_at_call 28; ((with_reducible refine (C5.out _ HY.out.1).mono ?_); rintro e w1 ⟨rfl, hx⟩; have hb := hx.heap HY.out.2 id; have k0 := cellAt hb 0 (.slice A1 d.words.length c1) rfl; have k3 := cellAt hb 3 (.slice A2 d.costs.length c2) rfl; have k4 := cellAt hb 4 (.slice A3 d.classes.length c3) rfl; have k5 := cellAt hb 5 (.slice A4 d.chars.length c4) rfl; have k6 := cellAt hb 6 (.slice A5 d.unknown.length c5) rfl; have k7 := cellAt hb 7 (.slice A6 d.meta0.length c6) rfl; have k8 := cellAt hb 8 (.slice A7 d.unkMeta.length c7) rfl; have k10 := cellAt hb 10 (.slice A8 d.user.length c8) rfl; have lb := lt_of_cell k0; have HY := Lib.hid (And.intro (HY.out.1.then hx) hb); clear hx hb)) | (go_at_call 29; ((with_reducible refine (C6.out _ HY.out.1).mono ?_); rintro e w1 ⟨rfl, hx⟩; have hb := hx.heap HY.out.2 id; have k0 := cellAt hb 0 (.slice A1 d.words.length c1) rfl; have k3 := cellAt hb 3 (.slice A2 d.costs.length c2) rfl; have k4 := cellAt hb 4 (.slice A3 d.classes.length c3) rfl; have k5 := cellAt hb 5 (.slice A4 d.chars.length c4) rfl; have k6 := cellAt hb 6 (.slice A5 d.unknown.length c5) rfl; have k7 := cellAt hb 7 (.slice A6 d.meta0.length c6) rfl; have k8 := cellAt hb 8 (.slice A7 d.unkMeta.length c7) rfl; have k10 := cellAt hb 10 (.slice A8 d.user.length c8) rfl; have lb := lt_of_cell k0; have HY := Lib.hid (And.intro (HY.out.1.then hx) hb); clear hx hb)) | (go_at_call 29; ((with_reducible refine (C7.out _ HY.out.1).mono ?_); rintro e w1 ⟨rfl, hx⟩; have hb := hx.heap HY.out.2 id; have k0 := cellAt hb 0 (.slice A1 d.words.length c1) rfl; have k3 := cellAt hb 3 (.slice A2 d.costs.length c2) rfl; have k4 := cellAt hb 4 (.slice A3 d.classes.length c3) rfl; have k5 := cellAt hb 5 (.slice A4 d.chars.length c4) rfl; have k6 := cellAt hb 6 (.slice A5 d.unknown.length c5) rfl; have k7 := cellAt hb 7 (.slice A6 d.meta0.length c6) rfl; have k8 := cellAt hb 8 (.slice A7 d.unkMeta.length c7) rfl; have k10 := cellAt hb 10 (.slice A8 d.user.length c8) rfl; have lb := lt_of_cell k0; have HY := Lib.hid (And.intro (HY.out.1.then hx) hb); clear hx hb)) | (go_at_call 30; ((with_reducible refine (C8.out _ HY.out.1).mono ?_); rintro e w1 ⟨rfl, hx⟩; have hb := hx.heap HY.out.2 id; have k0 := cellAt hb 0 (.slice A1 d.words.length c1) rfl; have k3 := cellAt hb 3 (.slice A2 d.costs.length c2) rfl; have k4 := cellAt hb 4 (.slice A3 d.classes.length c3) rfl; have k5 := cellAt hb 5 (.slice A4 d.chars.length c4) rfl; have k6 := cellAt hb 6 (.slice A5 d.unknown.length c5) rfl; have k7 := cellAt hb 7 (.slice A6 d.meta0.length c6) rfl; have k8 := cellAt hb 8 (.slice A7 d.unkMeta.length c7) rfl; have k10 := cellAt hb 10 (.slice A8 d.user.length c8) rfl; have lb := lt_of_cell k0; have HY := Lib.hid (And.intro (HY.out.1.then hx) hb); clear hx hb)) | fail)
    go_ret
    exact ⟨ret_bool (by simp), HY.out.1⟩
  · skip
    by_cases hs2 : d.costs.length ≤ 2147483647
    · rw [szOk_t hs2]
      cases b3
      · skip
        go_enter Tryz.func9, Tryz.ntmps9
        go_wp2_with (first | (go_at_call 26; ((with_reducible refine (C1.out _ HX.out.1).mono ?_); rintro e w1 ⟨rfl, hx⟩; have hb := hx.heap HX.out.2 id; have k0 := cellAt hb 0 (.slice A1 d.words.length c1) rfl; have k3 := cellAt hb 3 (.slice A2 d.costs.length c2) rfl; have k4 := cellAt hb 4 (.slice A3 d.classes.length c3) rfl; have k5 := cellAt hb 5 (.slice A4 d.chars.length c4) rfl; have k6 := cellAt hb 6 (.slice A5 d.unknown.length c5) rfl; have k7 := cellAt hb 7 (.slice A6 d.meta0.length c6) rfl; have k8 := cellAt hb 8 (.slice A7 d.unkMeta.length c7) rfl; have k10 := cellAt hb 10 (.slice A8 d.user.length c8) rfl; have lb := lt_of_cell k0; have HY := Lib.hid (And.intro (HX.out.1.then hx) hb); clear hx hb)) | (go_at_call 27; ((with_reducible refine (C3.out _ HY.out.1).mono ?_); rintro e w1 ⟨rfl, hx⟩; have hb := hx.heap HY.out.2 id; have k0 := cellAt hb 0 (.slice A1 d.words.length c1) rfl; have k3 := cellAt hb 3 (.slice A2 d.costs.length c2) rfl; have k4 := cellAt hb 4 (.slice A3 d.classes.length c3) rfl; have k5 := cellAt hb 5 (.slice A4 d.chars.length c4) rfl; have k6 := cellAt hb 6 (.slice A5 d.unknown.length c5) rfl; have k7 := cellAt hb 7 (.slice A6 d.meta0.length c6) rfl; have k8 := cellAt hb 8 (.slice A7 d.unkMeta.length c7) rfl; have k10 := cellAt hb 10 (.slice A8 d.user.length c8) rfl; have lb := lt_of_cell k0; have HY := Lib.hid (And.intro (HY.out.1.then hx) hb); clear hx hb)) | (go_at_call 28; ((with_reducible refine (C5.out _ HY.out.1).mono ?_); rintro e w1 ⟨rfl, hx⟩; have hb := hx.heap HY.out.2 id; have k0 := cellAt hb 0 (.slice A1 d.words.length c1) rfl; have k3 := cellAt hb 3 (.slice A2 d.costs.length c2) rfl; have k4 := cellAt hb 4 (.slice A3 d.classes.length c3) rfl; have k5 := cellAt hb 5 (.slice A4 d.chars.length c4) rfl; have k6 := cellAt hb 6 (.slice A5 d.unknown.length c5) rfl; have k7 := cellAt hb 7 (.slice A6 d.meta0.length c6) rfl; have k8 := cellAt hb 8 (.slice A7 d.unkMeta.length c7) rfl; have k10 := cellAt hb 10 (.slice A8 d.user.length c8) rfl; have lb := lt_of_cell k0; have HY := Lib.hid (And.intro (HY.out.1.then hx) hb); clear hx hb)) | (go_at_call 29; ((with_reducible refine (C6.out _ HY.out.1).mono ?_); rintro e w1 ⟨rfl, hx⟩; have hb := hx.heap HY.out.2 id; have k0 := cellAt hb 0 (.slice A1 d.words.length c1) rfl; have k3 := cellAt hb 3 (.slice A2 d.costs.length c2) rfl; have k4 := cellAt hb 4 (.slice A3 d.classes.length c3) rfl; have k5 := cellAt hb 5 (.slice A4 d.chars.length c4) rfl; have k6 := cellAt hb 6 (.slice A5 d.unknown.length c5) rfl; have k7 := cellAt hb 7 (.slice A6 d.meta0.length c6) rfl; have k8 := cellAt hb 8 (.slice A7 d.unkMeta.length c7) rfl; have k10 := cellAt hb 10 (.slice A8 d.user.length c8) rfl; have lb := lt_of_cell k0; have HY := Lib.hid (And.intro (HY.out.1.then hx) hb); clear hx hb)) | (go_at_call 29; ((with_reducible refine (C7.out _ HY.out.1).mono ?_); rintro e w1 ⟨rfl, hx⟩; have hb := hx.heap HY.out.2 id; have k0 := cellAt hb 0 (.slice A1 d.words.length c1) rfl; have k3 := cellAt hb 3 (.slice A2 d.costs.length c2) rfl; have k4 := cellAt hb 4 (.slice A3 d.classes.length c3) rfl; have k5 := cellAt hb 5 (.slice A4 d.chars.length c4) rfl; have k6 := cellAt hb 6 (.slice A5 d.unknown.length c5) rfl; have k7 := cellAt hb 7 (.slice A6 d.meta0.length c6) rfl; have k8 := cellAt hb 8 (.slice A7 d.unkMeta.length c7) rfl; have k10 := cellAt hb 10 (.slice A8 d.user.length c8) rfl; have lb := lt_of_cell k0; have HY := Lib.hid (And.intro (HY.out.1.then hx) hb); clear hx hb)) | (go_at_call 30; ((with_reducible refine (C8.out _ HY.out.1).mono ?_); rintro e w1 ⟨rfl, hx⟩; have hb := hx.heap HY.out.2 id; have k0 := cellAt hb 0 (.slice A1 d.words.length c1) rfl; have k3 := cellAt hb 3 (.slice A2 d.costs.length c2) rfl; have k4 := cellAt hb 4 (.slice A3 d.classes.length c3) rfl; have k5 := cellAt hb 5 (.slice A4 d.chars.length c4) rfl; have k6 := cellAt hb 6 (.slice A5 d.unknown.length c5) rfl; have k7 := cellAt hb 7 (.slice A6 d.meta0.length c6) rfl; have k8 := cellAt hb 8 (.slice A7 d.unkMeta.length c7) rfl; have k10 := cellAt hb 10 (.slice A8 d.user.length c8) rfl; have lb := lt_of_cell k0; have HY := Lib.hid (And.intro (HY.out.1.then hx) hb); clear hx hb)) | fail)
        go_ret
        exact ⟨ret_bool (by simp), HY.out.1⟩
      · skip
        by_cases hs4 : d.chars.length ≤ 2147483647
        · rw [szOk_t hs4]
          cases b5
          · skip
            go_enter Tryz.func9, Tryz.ntmps9
            go_wp2_with (first | (go_at_call 26; ((with_reducible refine (C1.out _ HX.out.1).mono ?_); rintro e w1 ⟨rfl, hx⟩; have hb := hx.heap HX.out.2 id; have k0 := cellAt hb 0 (.slice A1 d.words.length c1) rfl; have k3 := cellAt hb 3 (.slice A2 d.costs.length c2) rfl; have k4 := cellAt hb 4 (.slice A3 d.classes.length c3) rfl; have k5 := cellAt hb 5 (.slice A4 d.chars.length c4) rfl; have k6 := cellAt hb 6 (.slice A5 d.unknown.length c5) rfl; have k7 := cellAt hb 7 (.slice A6 d.meta0.length c6) rfl; have k8 := cellAt hb 8 (.slice A7 d.unkMeta.length c7) rfl; have k10 := cellAt hb 10 (.slice A8 d.user.length c8) rfl; have lb := lt_of_cell k0; have HY := Lib.hid (And.intro (HX.out.1.then hx) hb); clear hx hb)) | (go_at_call 27; ((with_reducible refine (C3.out _ HY.out.1).mono ?_); rintro e w1 ⟨rfl, hx⟩; have hb := hx.heap HY.out.2 id; have k0 := cellAt hb 0 (.slice A1 d.words.length c1) rfl; have k3 := cellAt hb 3 (.slice A2 d.costs.length c2) rfl; have k4 := cellAt hb 4 (.slice A3 d.classes.length c3) rfl; have k5 := cellAt hb 5 (.slice A4 d.chars.length c4) rfl; have k6 := cellAt hb 6 (.slice A5 d.unknown.length c5) rfl; have k7 := cellAt hb 7 (.slice A6 d.meta0.length c6) rfl; have k8 := cellAt hb 8 (.slice A7 d.unkMeta.length c7) rfl; have k10 := cellAt hb 10 (.slice A8 d.user.length c8) rfl; have lb := lt_of_cell k0; have HY := Lib.hid (And.intro (HY.out.1.then hx) hb); clear hx hb)) | (go_at_call 28; ((with_reducible refine (C5.out _ HY.out.1).mono ?_); rintro e w1 ⟨rfl, hx⟩; have hb := hx.heap HY.out.2 id; have k0 := cellAt hb 0 (.slice A1 d.words.length c1) rfl; have k3 := cellAt hb 3 (.slice A2 d.costs.length c2) rfl; have k4 := cellAt hb 4 (.slice A3 d.classes.length c3) rfl; have k5 := cellAt hb 5 (.slice A4 d.chars.length c4) rfl; have k6 := cellAt hb 6 (.slice A5 d.unknown.length c5) rfl; have k7 := cellAt hb 7 (.slice A6 d.meta0.length c6) rfl; have k8 := cellAt hb 8 (.slice A7 d.unkMeta.length c7) rfl; have k10 := cellAt hb 10 (.slice A8 d.user.length c8) rfl; have lb := lt_of_cell k0; have HY := Lib.hid (And.intro (HY.out.1.then hx) hb); clear hx hb)) | (go_at_call 29; ((with_reducible refine (C6.out _ HY.out.1).mono ?_); rintro e w1 ⟨rfl, hx⟩; have hb := hx.heap HY.out.2 id; have k0 := cellAt hb 0 (.slice A1 d.words.length c1) rfl; have k3 := cellAt hb 3 (.slice A2 d.costs.length c2) rfl; have k4 := cellAt hb 4 (.slice A3 d.classes.length c3) rfl; have k5 := cellAt hb 5 (.slice A4 d.chars.length c4) rfl; have k6 := cellAt hb 6 (.slice A5 d.unknown.length c5) rfl; have k7 := cellAt hb 7 (.slice A6 d.meta0.length c6) rfl; have k8 := cellAt hb 8 (.slice A7 d.unkMeta.length c7) rfl; have k10 := cellAt hb 10 (.slice A8 d.user.length c8) rfl; have lb := lt_of_cell k0; have HY := Lib.hid (And.intro (HY.out.1.then hx) hb); clear hx hb)) | (go_at_call 29; ((with_reducible refine (C7.out _ HY.out.1).mono ?_); rintro e w1 ⟨rfl, hx⟩; have hb := hx.heap HY.out.2 id; have k0 := cellAt hb 0 (.slice A1 d.words.length c1) rfl; have k3 := cellAt hb 3 (.slice A2 d.costs.length c2) rfl; have k4 := cellAt hb 4 (.slice A3 d.classes.length c3) rfl; have k5 := cellAt hb 5 (.slice A4 d.chars.length c4) rfl; have k6 := cellAt hb 6 (.slice A5 d.unknown.length c5) rfl; have k7 := cellAt hb 7 (.slice A6 d.meta0.length c6) rfl; have k8 := cellAt hb 8 (.slice A7 d.unkMeta.length c7) rfl; have k10 := cellAt hb 10 (.slice A8 d.user.length c8) rfl; have lb := lt_of_cell k0; have HY := Lib.hid (And.intro (HY.out.1.then hx) hb); clear hx hb)) | (go_at_call 30; ((with_reducible refine (C8.out _ HY.out.1).mono ?_); rintro e w1 ⟨rfl, hx⟩; have hb := hx.heap HY.out.2 id; have k0 := cellAt hb 0 (.slice A1 d.words.length c1) rfl; have k3 := cellAt hb 3 (.slice A2 d.costs.length c2) rfl; have k4 := cellAt hb 4 (.slice A3 d.classes.length c3) rfl; have k5 := cellAt hb 5 (.slice A4 d.chars.length c4) rfl; have k6 := cellAt hb 6 (.slice A5 d.unknown.length c5) rfl; have k7 := cellAt hb 7 (.slice A6 d.meta0.length c6) rfl; have k8 := cellAt hb 8 (.slice A7 d.unkMeta.length c7) rfl; have k10 := cellAt hb 10 (.slice A8 d.user.length c8) rfl; have lb := lt_of_cell k0; have HY := Lib.hid (And.intro (HY.out.1.then hx) hb); clear hx hb)) | fail)
            go_ret
            exact ⟨ret_bool (by simp), HY.out.1⟩
          · skip
            cases b6
            · skip
              go_enter Tryz.func9, Tryz.ntmps9
              go_wp2_with (first | (go_at_call 26; ((with_reducible refine (C1.out _ HX.out.1).mono ?_); rintro e w1 ⟨rfl, hx⟩; have hb := hx.heap HX.out.2 id; have k0 := cellAt hb 0 (.slice A1 d.words.length c1) rfl; have k3 := cellAt hb 3 (.slice A2 d.costs.length c2) rfl; have k4 := cellAt hb 4 (.slice A3 d.classes.length c3) rfl; have k5 := cellAt hb 5 (.slice A4 d.chars.length c4) rfl; have k6 := cellAt hb 6 (.slice A5 d.unknown.length c5) rfl; have k7 := cellAt hb 7 (.slice A6 d.meta0.length c6) rfl; have k8 := cellAt hb 8 (.slice A7 d.unkMeta.length c7) rfl; have k10 := cellAt hb 10 (.slice A8 d.user.length c8) rfl; have lb := lt_of_cell k0; have HY := Lib.hid (And.intro (HX.out.1.then hx) hb); clear hx hb)) | (go_at_call 27; ((with_reducible refine (C3.out _ HY.out.1).mono ?_); rintro e w1 ⟨rfl, hx⟩; have hb := hx.heap HY.out.2 id; have k0 := cellAt hb 0 (.slice A1 d.words.length c1) rfl; have k3 := cellAt hb 3 (.slice A2 d.costs.length c2) rfl; have k4 := cellAt hb 4 (.slice A3 d.classes.length c3) rfl; have k5 := cellAt hb 5 (.slice A4 d.chars.length c4) rfl; have k6 := cellAt hb 6 (.slice A5 d.unknown.length c5) rfl; have k7 := cellAt hb 7 (.slice A6 d.meta0.length c6) rfl; have k8 := cellAt hb 8 (.slice A7 d.unkMeta.length c7) rfl; have k10 := cellAt hb 10 (.slice A8 d.user.length c8) rfl; have lb := lt_of_cell k0; have HY := Lib.hid (And.intro (HY.out.1.then hx) hb); clear hx hb)) | (go_at_call 28; ((with_reducible refine (C5.out _ HY.out.1).mono ?_); rintro e w1 ⟨rfl, hx⟩; have hb := hx.heap HY.out.2 id; have k0 := cellAt hb 0 (.slice A1 d.words.length c1) rfl; have k3 := cellAt hb 3 (.slice A2 d.costs.length c2) rfl; have k4 := cellAt hb 4 (.slice A3 d.classes.length c3) rfl; have k5 := cellAt hb 5 (.slice A4 d.chars.length c4) rfl; have k6 := cellAt hb 6 (.slice A5 d.unknown.length c5) rfl; have k7 := cellAt hb 7 (.slice A6 d.meta0.length c6) rfl; have k8 := cellAt hb 8 (.slice A7 d.unkMeta.length c7) rfl; have k10 := cellAt hb 10 (.slice A8 d.user.length c8) rfl; have lb := lt_of_cell k0; have HY := Lib.hid (And.intro (HY.out.1.then hx) hb); clear hx hb)) | (go_at_call 29; ((with_reducible refine (C6.out _ HY.out.1).mono ?_); rintro e w1 ⟨rfl, hx⟩; have hb := hx.heap HY.out.2 id; have k0 := cellAt hb 0 (.slice A1 d.words.length c1) rfl; have k3 := cellAt hb 3 (.slice A2 d.costs.length c2) rfl; have k4 := cellAt hb 4 (.slice A3 d.classes.length c3) rfl; have k5 := cellAt hb 5 (.slice A4 d.chars.length c4) rfl; have k6 := cellAt hb 6 (.slice A5 d.unknown.length c5) rfl; have k7 := cellAt hb 7 (.slice A6 d.meta0.length c6) rfl; have k8 := cellAt hb 8 (.slice A7 d.unkMeta.length c7) rfl; have k10 := cellAt hb 10 (.slice A8 d.user.length c8) rfl; have lb := lt_of_cell k0; have HY := Lib.hid (And.intro (HY.out.1.then hx) hb); clear hx hb)) | (go_at_call 29; ((with_reducible refine (C7.out _ HY.out.1).mono ?_); rintro e w1 ⟨rfl, hx⟩; have hb := hx.heap HY.out.2 id; have k0 := cellAt hb 0 (.slice A1 d.words.length c1) rfl; have k3 := cellAt hb 3 (.slice A2 d.costs.length c2) rfl; have k4 := cellAt hb 4 (.slice A3 d.classes.length c3) rfl; have k5 := cellAt hb 5 (.slice A4 d.chars.length c4) rfl; have k6 := cellAt hb 6 (.slice A5 d.unknown.length c5) rfl; have k7 := cellAt hb 7 (.slice A6 d.meta0.length c6) rfl; have k8 := cellAt hb 8 (.slice A7 d.unkMeta.length c7) rfl; have k10 := cellAt hb 10 (.slice A8 d.user.length c8) rfl; have lb := lt_of_cell k0; have HY := Lib.hid (And.intro (HY.out.1.then hx) hb); clear hx hb)) | (go_at_call 30; ((with_reducible refine (C8.out _ HY.out.1).mono ?_); rintro e w1 ⟨rfl, hx⟩; have hb := hx.heap HY.out.2 id; have k0 := cellAt hb 0 (.slice A1 d.words.length c1) rfl; have k3 := cellAt hb 3 (.slice A2 d.costs.length c2) rfl; have k4 := cellAt hb 4 (.slice A3 d.classes.length c3) rfl; have k5 := cellAt hb 5 (.slice A4 d.chars.length c4) rfl; have k6 := cellAt hb 6 (.slice A5 d.unknown.length c5) rfl; have k7 := cellAt hb 7 (.slice A6 d.meta0.length c6) rfl; have k8 := cellAt hb 8 (.slice A7 d.unkMeta.length c7) rfl; have k10 := cellAt hb 10 (.slice A8 d.user.length c8) rfl; have lb := lt_of_cell k0; have HY := Lib.hid (And.intro (HY.out.1.then hx) hb); clear hx hb)) | fail)
              go_ret
              exact ⟨ret_bool (by simp), HY.out.1⟩
            · skip
              cases b7
              · skip
                go_enter Tryz.func9, Tryz.ntmps9
                go_wp2_with (first | (go_at_call 26; ((with_reducible refine (C1.out _ HX.out.1).mono ?_); rintro e w1 ⟨rfl, hx⟩; have hb := hx.heap HX.out.2 id; have k0 := cellAt hb 0 (.slice A1 d.words.length c1) rfl; have k3 := cellAt hb 3 (.slice A2 d.costs.length c2) rfl; have k4 := cellAt hb 4 (.slice A3 d.classes.length c3) rfl; have k5 := cellAt hb 5 (.slice A4 d.chars.length c4) rfl; have k6 := cellAt hb 6 (.slice A5 d.unknown.length c5) rfl; have k7 := cellAt hb 7 (.slice A6 d.meta0.length c6) rfl; have k8 := cellAt hb 8 (.slice A7 d.unkMeta.length c7) rfl; have k10 := cellAt hb 10 (.slice A8 d.user.length c8) rfl; have lb := lt_of_cell k0; have HY := Lib.hid (And.intro (HX.out.1.then hx) hb); clear hx hb)) | (go_at_call 27; ((with_reducible refine (C3.out _ HY.out.1).mono ?_); rintro e w1 ⟨rfl, hx⟩; have hb := hx.heap HY.out.2 id; have k0 := cellAt hb 0 (.slice A1 d.words.length c1) rfl; have k3 := cellAt hb 3 (.slice A2 d.costs.length c2) rfl; have k4 := cellAt hb 4 (.slice A3 d.classes.length c3) rfl; have k5 := cellAt hb 5 (.slice A4 d.chars.length c4) rfl; have k6 := cellAt hb 6 (.slice A5 d.unknown.length c5) rfl; have k7 := cellAt hb 7 (.slice A6 d.meta0.length c6) rfl; have k8 := cellAt hb 8 (.slice A7 d.unkMeta.length c7) rfl; have k10 := cellAt hb 10 (.slice A8 d.user.length c8) rfl; have lb := lt_of_cell k0; have HY := Lib.hid (And.intro (HY.out.1.then hx) hb); clear hx hb)) | (go_at_call 28; ((with_reducible refine (C5.out _ HY.out.1).mono ?_); rintro e w1 ⟨rfl, hx⟩; have hb := hx.heap HY.out.2 id; have k0 := cellAt hb 0 (.slice A1 d.words.length c1) rfl; have k3 := cellAt hb 3 (.slice A2 d.costs.length c2) rfl; have k4 := cellAt hb 4 (.slice A3 d.classes.length c3) rfl; have k5 := cellAt hb 5 (.slice A4 d.chars.length c4) rfl; have k6 := cellAt hb 6 (.slice A5 d.unknown.length c5) rfl; have k7 := cellAt hb 7 (.slice A6 d.meta0.length c6) rfl; have k8 := cellAt hb 8 (.slice A7 d.unkMeta.length c7) rfl; have k10 := cellAt hb 10 (.slice A8 d.user.length c8) rfl; have lb := lt_of_cell k0; have HY := Lib.hid (And.intro (HY.out.1.then hx) hb); clear hx hb)) | (go_at_call 29; ((with_reducible refine (C6.out _ HY.out.1).mono ?_); rintro e w1 ⟨rfl, hx⟩; have hb := hx.heap HY.out.2 id; have k0 := cellAt hb 0 (.slice A1 d.words.length c1) rfl; have k3 := cellAt hb 3 (.slice A2 d.costs.length c2) rfl; have k4 := cellAt hb 4 (.slice A3 d.classes.length c3) rfl; have k5 := cellAt hb 5 (.slice A4 d.chars.length c4) rfl; have k6 := cellAt hb 6 (.slice A5 d.unknown.length c5) rfl; have k7 := cellAt hb 7 (.slice A6 d.meta0.length c6) rfl; have k8 := cellAt hb 8 (.slice A7 d.unkMeta.length c7) rfl; have k10 := cellAt hb 10 (.slice A8 d.user.length c8) rfl; have lb := lt_of_cell k0; have HY := Lib.hid (And.intro (HY.out.1.then hx) hb); clear hx hb)) | (go_at_call 29; ((with_reducible refine (C7.out _ HY.out.1).mono ?_); rintro e w1 ⟨rfl, hx⟩; have hb := hx.heap HY.out.2 id; have k0 := cellAt hb 0 (.slice A1 d.words.length c1) rfl; have k3 := cellAt hb 3 (.slice A2 d.costs.length c2) rfl; have k4 := cellAt hb 4 (.slice A3 d.classes.length c3) rfl; have k5 := cellAt hb 5 (.slice A4 d.chars.length c4) rfl; have k6 := cellAt hb 6 (.slice A5 d.unknown.length c5) rfl; have k7 := cellAt hb 7 (.slice A6 d.meta0.length c6) rfl; have k8 := cellAt hb 8 (.slice A7 d.unkMeta.length c7) rfl; have k10 := cellAt hb 10 (.slice A8 d.user.length c8) rfl; have lb := lt_of_cell k0; have HY := Lib.hid (And.intro (HY.out.1.then hx) hb); clear hx hb)) | (go_at_call 30; ((with_reducible refine (C8.out _ HY.out.1).mono ?_); rintro e w1 ⟨rfl, hx⟩; have hb := hx.heap HY.out.2 id; have k0 := cellAt hb 0 (.slice A1 d.words.length c1) rfl; have k3 := cellAt hb 3 (.slice A2 d.costs.length c2) rfl; have k4 := cellAt hb 4 (.slice A3 d.classes.length c3) rfl; have k5 := cellAt hb 5 (.slice A4 d.chars.length c4) rfl; have k6 := cellAt hb 6 (.slice A5 d.unknown.length c5) rfl; have k7 := cellAt hb 7 (.slice A6 d.meta0.length c6) rfl; have k8 := cellAt hb 8 (.slice A7 d.unkMeta.length c7) rfl; have k10 := cellAt hb 10 (.slice A8 d.user.length c8) rfl; have lb := lt_of_cell k0; have HY := Lib.hid (And.intro (HY.out.1.then hx) hb); clear hx hb)) | fail)
                go_ret
                exact ⟨ret_bool (by simp), HY.out.1⟩
              · skip
                cases b8
                · skip
                  go_enter Tryz.func9, Tryz.ntmps9
                  go_wp2_with (first | (go_at_call 26; ((with_reducible refine (C1.out _ HX.out.1).mono ?_); rintro e w1 ⟨rfl, hx⟩; have hb := hx.heap HX.out.2 id; have k0 := cellAt hb 0 (.slice A1 d.words.length c1) rfl; have k3 := cellAt hb 3 (.slice A2 d.costs.length c2) rfl; have k4 := cellAt hb 4 (.slice A3 d.classes.length c3) rfl; have k5 := cellAt hb 5 (.slice A4 d.chars.length c4) rfl; have k6 := cellAt hb 6 (.slice A5 d.unknown.length c5) rfl; have k7 := cellAt hb 7 (.slice A6 d.meta0.length c6) rfl; have k8 := cellAt hb 8 (.slice A7 d.unkMeta.length c7) rfl; have k10 := cellAt hb 10 (.slice A8 d.user.length c8) rfl; have lb := lt_of_cell k0; have HY := Lib.hid (And.intro (HX.out.1.then hx) hb); clear hx hb)) | (go_at_call 27; ((with_reducible refine (C3.out _ HY.out.1).mono ?_); rintro e w1 ⟨rfl, hx⟩; have hb := hx.heap HY.out.2 id; have k0 := cellAt hb 0 (.slice A1 d.words.length c1) rfl; have k3 := cellAt hb 3 (.slice A2 d.costs.length c2) rfl; have k4 := cellAt hb 4 (.slice A3 d.classes.length c3) rfl; have k5 := cellAt hb 5 (.slice A4 d.chars.length c4) rfl; have k6 := cellAt hb 6 (.slice A5 d.unknown.length c5) rfl; have k7 := cellAt hb 7 (.slice A6 d.meta0.length c6) rfl; have k8 := cellAt hb 8 (.slice A7 d.unkMeta.length c7) rfl; have k10 := cellAt hb 10 (.slice A8 d.user.length c8) rfl; have lb := lt_of_cell k0; have HY := Lib.hid (And.intro (HY.out.1.then hx) hb); clear hx hb)) | (go_at_call 28; ((with_reducible refine (C5.out _ HY.out.1).mono ?_); rintro e w1 ⟨rfl, hx⟩; have hb := hx.heap HY.out.2 id; have k0 := cellAt hb 0 (.slice A1 d.words.length c1) rfl; have k3 := cellAt hb 3 (.slice A2 d.costs.length c2) rfl; have k4 := cellAt hb 4 (.slice A3 d.classes.length c3) rfl; have k5 := cellAt hb 5 (.slice A4 d.chars.length c4) rfl; have k6 := cellAt hb 6 (.slice A5 d.unknown.length c5) rfl; have k7 := cellAt hb 7 (.slice A6 d.meta0.length c6) rfl; have k8 := cellAt hb 8 (.slice A7 d.unkMeta.length c7) rfl; have k10 := cellAt hb 10 (.slice A8 d.user.length c8) rfl; have lb := lt_of_cell k0; have HY := Lib.hid (And.intro (HY.out.1.then hx) hb); clear hx hb)) | (go_at_call 29; ((with_reducible refine (C6.out _ HY.out.1).mono ?_); rintro e w1 ⟨rfl, hx⟩; have hb := hx.heap HY.out.2 id; have k0 := cellAt hb 0 (.slice A1 d.words.length c1) rfl; have k3 := cellAt hb 3 (.slice A2 d.costs.length c2) rfl; have k4 := cellAt hb 4 (.slice A3 d.classes.length c3) rfl; have k5 := cellAt hb 5 (.slice A4 d.chars.length c4) rfl; have k6 := cellAt hb 6 (.slice A5 d.unknown.length c5) rfl; have k7 := cellAt hb 7 (.slice A6 d.meta0.length c6) rfl; have k8 := cellAt hb 8 (.slice A7 d.unkMeta.length c7) rfl; have k10 := cellAt hb 10 (.slice A8 d.user.length c8) rfl; have lb := lt_of_cell k0; have HY := Lib.hid (And.intro (HY.out.1.then hx) hb); clear hx hb)) | (go_at_call 29; ((with_reducible refine (C7.out _ HY.out.1).mono ?_); rintro e w1 ⟨rfl, hx⟩; have hb := hx.heap HY.out.2 id; have k0 := cellAt hb 0 (.slice A1 d.words.length c1) rfl; have k3 := cellAt hb 3 (.slice A2 d.costs.length c2) rfl; have k4 := cellAt hb 4 (.slice A3 d.classes.length c3) rfl; have k5 := cellAt hb 5 (.slice A4 d.chars.length c4) rfl; have k6 := cellAt hb 6 (.slice A5 d.unknown.length c5) rfl; have k7 := cellAt hb 7 (.slice A6 d.meta0.length c6) rfl; have k8 := cellAt hb 8 (.slice A7 d.unkMeta.length c7) rfl; have k10 := cellAt hb 10 (.slice A8 d.user.length c8) rfl; have lb := lt_of_cell k0; have HY := Lib.hid (And.intro (HY.out.1.then hx) hb); clear hx hb)) | (go_at_call 30; ((with_reducible refine (C8.out _ HY.out.1).mono ?_); rintro e w1 ⟨rfl, hx⟩; have hb := hx.heap HY.out.2 id; have k0 := cellAt hb 0 (.slice A1 d.words.length c1) rfl; have k3 := cellAt hb 3 (.slice A2 d.costs.length c2) rfl; have k4 := cellAt hb 4 (.slice A3 d.classes.length c3) rfl; have k5 := cellAt hb 5 (.slice A4 d.chars.length c4) rfl; have k6 := cellAt hb 6 (.slice A5 d.unknown.length c5) rfl; have k7 := cellAt hb 7 (.slice A6 d.meta0.length c6) rfl; have k8 := cellAt hb 8 (.slice A7 d.unkMeta.length c7) rfl; have k10 := cellAt hb 10 (.slice A8 d.user.length c8) rfl; have lb := lt_of_cell k0; have HY := Lib.hid (And.intro (HY.out.1.then hx) hb); clear hx hb)) | fail)
                  go_ret
                  exact ⟨ret_bool (by simp), HY.out.1⟩
                · skip
                  go_enter Tryz.func9, Tryz.ntmps9
                  go_wp2_with (first | (go_at_call 26; ((with_reducible refine (C1.out _ HX.out.1).mono ?_); rintro e w1 ⟨rfl, hx⟩; have hb := hx.heap HX.out.2 id; have k0 := cellAt hb 0 (.slice A1 d.words.length c1) rfl; have k3 := cellAt hb 3 (.slice A2 d.costs.length c2) rfl; have k4 := cellAt hb 4 (.slice A3 d.classes.length c3) rfl; have k5 := cellAt hb 5 (.slice A4 d.chars.length c4) rfl; have k6 := cellAt hb 6 (.slice A5 d.unknown.length c5) rfl; have k7 := cellAt hb 7 (.slice A6 d.meta0.length c6) rfl; have k8 := cellAt hb 8 (.slice A7 d.unkMeta.length c7) rfl; have k10 := cellAt hb 10 (.slice A8 d.user.length c8) rfl; have lb := lt_of_cell k0; have HY := Lib.hid (And.intro (HX.out.1.then hx) hb); clear hx hb)) | (go_at_call 27; ((with_reducible refine (C3.out _ HY.out.1).mono ?_); rintro e w1 ⟨rfl, hx⟩; have hb := hx.heap HY.out.2 id; have k0 := cellAt hb 0 (.slice A1 d.words.length c1) rfl; have k3 := cellAt hb 3 (.slice A2 d.costs.length c2) rfl; have k4 := cellAt hb 4 (.slice A3 d.classes.length c3) rfl; have k5 := cellAt hb 5 (.slice A4 d.chars.length c4) rfl; have k6 := cellAt hb 6 (.slice A5 d.unknown.length c5) rfl; have k7 := cellAt hb 7 (.slice A6 d.meta0.length c6) rfl; have k8 := cellAt hb 8 (.slice A7 d.unkMeta.length c7) rfl; have k10 := cellAt hb 10 (.slice A8 d.user.length c8) rfl; have lb := lt_of_cell k0; have HY := Lib.hid (And.intro (HY.out.1.then hx) hb); clear hx hb)) | (go_at_call 28; ((with_reducible refine (C5.out _ HY.out.1).mono ?_); rintro e w1 ⟨rfl, hx⟩; have hb := hx.heap HY.out.2 id; have k0 := cellAt hb 0 (.slice A1 d.words.length c1) rfl; have k3 := cellAt hb 3 (.slice A2 d.costs.length c2) rfl; have k4 := cellAt hb 4 (.slice A3 d.classes.length c3) rfl; have k5 := cellAt hb 5 (.slice A4 d.chars.length c4) rfl; have k6 := cellAt hb 6 (.slice A5 d.unknown.length c5) rfl; have k7 := cellAt hb 7 (.slice A6 d.meta0.length c6) rfl; have k8 := cellAt hb 8 (.slice A7 d.unkMeta.length c7) rfl; have k10 := cellAt hb 10 (.slice A8 d.user.length c8) rfl; have lb := lt_of_cell k0; have HY := Lib.hid (And.intro (HY.out.1.then hx) hb); clear hx hb)) | (go_at_call 29; ((with_reducible refine (C6.out _ HY.out.1).mono ?_); rintro e w1 ⟨rfl, hx⟩; have hb := hx.heap HY.out.2 id; have k0 := cellAt hb 0 (.slice A1 d.words.length c1) rfl; have k3 := cellAt hb 3 (.slice A2 d.costs.length c2) rfl; have k4 := cellAt hb 4 (.slice A3 d.classes.length c3) rfl; have k5 := cellAt hb 5 (.slice A4 d.chars.length c4) rfl; have k6 := cellAt hb 6 (.slice A5 d.unknown.length c5) rfl; have k7 := cellAt hb 7 (.slice A6 d.meta0.length c6) rfl; have k8 := cellAt hb 8 (.slice A7 d.unkMeta.length c7) rfl; have k10 := cellAt hb 10 (.slice A8 d.user.length c8) rfl; have lb := lt_of_cell k0; have HY := Lib.hid (And.intro (HY.out.1.then hx) hb); clear hx hb)) | (go_at_call 29; ((with_reducible refine (C7.out _ HY.out.1).mono ?_); rintro e w1 ⟨rfl, hx⟩; have hb := hx.heap HY.out.2 id; have k0 := cellAt hb 0 (.slice A1 d.words.length c1) rfl; have k3 := cellAt hb 3 (.slice A2 d.costs.length c2) rfl; have k4 := cellAt hb 4 (.slice A3 d.classes.length c3) rfl; have k5 := cellAt hb 5 (.slice A4 d.chars.length c4) rfl; have k6 := cellAt hb 6 (.slice A5 d.unknown.length c5) rfl; have k7 := cellAt hb 7 (.slice A6 d.meta0.length c6) rfl; have k8 := cellAt hb 8 (.slice A7 d.unkMeta.length c7) rfl; have k10 := cellAt hb 10 (.slice A8 d.user.length c8) rfl; have lb := lt_of_cell k0; have HY := Lib.hid (And.intro (HY.out.1.then hx) hb); clear hx hb)) | (go_at_call 30; ((with_reducible refine (C8.out _ HY.out.1).mono ?_); rintro e w1 ⟨rfl, hx⟩; have hb := hx.heap HY.out.2 id; have k0 := cellAt hb 0 (.slice A1 d.words.length c1) rfl; have k3 := cellAt hb 3 (.slice A2 d.costs.length c2) rfl; have k4 := cellAt hb 4 (.slice A3 d.classes.length c3) rfl; have k5 := cellAt hb 5 (.slice A4 d.chars.length c4) rfl; have k6 := cellAt hb 6 (.slice A5 d.unknown.length c5) rfl; have k7 := cellAt hb 7 (.slice A6 d.meta0.length c6) rfl; have k8 := cellAt hb 8 (.slice A7 d.unkMeta.length c7) rfl; have k10 := cellAt hb 10 (.slice A8 d.user.length c8) rfl; have lb := lt_of_cell k0; have HY := Lib.hid (And.intro (HY.out.1.then hx) hb); clear hx hb)) | fail)
                  go_ret
                  exact ⟨ret_bool (by simp), HY.out.1⟩
        · rw [szOk_f hs4]
          go_enter Tryz.func9, Tryz.ntmps9
          go_wp2_with (first | (go_at_call 26; ((with_reducible refine (C1.out _ HX.out.1).mono ?_); rintro e w1 ⟨rfl, hx⟩; have hb := hx.heap HX.out.2 id; have k0 := cellAt hb 0 (.slice A1 d.words.length c1) rfl; have k3 := cellAt hb 3 (.slice A2 d.costs.length c2) rfl; have k4 := cellAt hb 4 (.slice A3 d.classes.length c3) rfl; have k5 := cellAt hb 5 (.slice A4 d.chars.length c4) rfl; have k6 := cellAt hb 6 (.slice A5 d.unknown.length c5) rfl; have k7 := cellAt hb 7 (.slice A6 d.meta0.length c6) rfl; have k8 := cellAt hb 8 (.slice A7 d.unkMeta.length c7) rfl; have k10 := cellAt hb 10 (.slice A8 d.user.length c8) rfl; have lb := lt_of_cell k0; have HY := Lib.hid (And.intro (HX.out.1.then hx) hb); clear hx hb)) | (go_at_call 27; ((with_reducible refine (C3.out _ HY.out.1).mono ?_); rintro e w1 ⟨rfl, hx⟩; have hb := hx.heap HY.out.2 id; have k0 := cellAt hb 0 (.slice A1 d.words.length c1) rfl; have k3 := cellAt hb 3 (.slice A2 d.costs.length c2) rfl; have k4 := cellAt hb 4 (.slice A3 d.classes.length c3) rfl; have k5 := cellAt hb 5 (.slice A4 d.chars.length c4) rfl; have k6 := cellAt hb 6 (.slice A5 d.unknown.length c5) rfl; have k7 := cellAt hb 7 (.slice A6 d.meta0.length c6) rfl; have k8 := cellAt hb 8 (.slice A7 d.unkMeta.length c7) rfl; have k10 := cellAt hb 10 (.slice A8 d.user.length c8) rfl; have lb := lt_of_cell k0; have HY := Lib.hid (And.intro (HY.out.1.then hx) hb); clear hx hb)) | (go_at_call 28; ((with_reducible refine (C5.out _ HY.out.1).mono ?_); rintro e w1 ⟨rfl, hx⟩; have hb := hx.heap HY.out.2 id; have k0 := cellAt hb 0 (.slice A1 d.words.length c1) rfl; have k3 := cellAt hb 3 (.slice A2 d.costs.length c2) rfl; have k4 := cellAt hb 4 (.slice A3 d.classes.length c3) rfl; have k5 := cellAt hb 5 (.slice A4 d.chars.length c4) rfl; have k6 := cellAt hb 6 (.slice A5 d.unknown.length c5) rfl; have k7 := cellAt hb 7 (.slice A6 d.meta0.length c6) rfl; have k8 := cellAt hb 8 (.slice A7 d.unkMeta.length c7) rfl; have k10 := cellAt hb 10 (.slice A8 d.user.length c8) rfl; have lb := lt_of_cell k0; have HY := Lib.hid (And.intro (HY.out.1.then hx) hb); clear hx hb)) | (go_at_call 29; ((with_reducible refine (C6.out _ HY.out.1).mono ?_); rintro e w1 ⟨rfl, hx⟩; have hb := hx.heap HY.out.2 id; have k0 := cellAt hb 0 (.slice A1 d.words.length c1) rfl; have k3 := cellAt hb 3 (.slice A2 d.costs.length c2) rfl; have k4 := cellAt hb 4 (.slice A3 d.classes.length c3) rfl; have k5 := cellAt hb 5 (.slice A4 d.chars.length c4) rfl; have k6 := cellAt hb 6 (.slice A5 d.unknown.length c5) rfl; have k7 := cellAt hb 7 (.slice A6 d.meta0.length c6) rfl; have k8 := cellAt hb 8 (.slice A7 d.unkMeta.length c7) rfl; have k10 := cellAt hb 10 (.slice A8 d.user.length c8) rfl; have lb := lt_of_cell k0; have HY := Lib.hid (And.intro (HY.out.1.then hx) hb); clear hx hb)) | (go_at_call 29; ((with_reducible refine (C7.out _ HY.out.1).mono ?_); rintro e w1 ⟨rfl, hx⟩; have hb := hx.heap HY.out.2 id; have k0 := cellAt hb 0 (.slice A1 d.words.length c1) rfl; have k3 := cellAt hb 3 (.slice A2 d.costs.length c2) rfl; have k4 := cellAt hb 4 (.slice A3 d.classes.length c3) rfl; have k5 := cellAt hb 5 (.slice A4 d.chars.length c4) rfl; have k6 := cellAt hb 6 (.slice A5 d.unknown.length c5) rfl; have k7 := cellAt hb 7 (.slice A6 d.meta0.length c6) rfl; have k8 := cellAt hb 8 (.slice A7 d.unkMeta.length c7) rfl; have k10 := cellAt hb 10 (.slice A8 d.user.length c8) rfl; have lb := lt_of_cell k0; have HY := Lib.hid (And.intro (HY.out.1.then hx) hb); clear hx hb)) | (go_at_call 30; ((with_reducible refine (C8.out _ HY.out.1).mono ?_); rintro e w1 ⟨rfl, hx⟩; have hb := hx.heap HY.out.2 id; have k0 := cellAt hb 0 (.slice A1 d.words.length c1) rfl; have k3 := cellAt hb 3 (.slice A2 d.costs.length c2) rfl; have k4 := cellAt hb 4 (.slice A3 d.classes.length c3) rfl; have k5 := cellAt hb 5 (.slice A4 d.chars.length c4) rfl; have k6 := cellAt hb 6 (.slice A5 d.unknown.length c5) rfl; have k7 := cellAt hb 7 (.slice A6 d.meta0.length c6) rfl; have k8 := cellAt hb 8 (.slice A7 d.unkMeta.length c7) rfl; have k10 := cellAt hb 10 (.slice A8 d.user.length c8) rfl; have lb := lt_of_cell k0; have HY := Lib.hid (And.intro (HY.out.1.then hx) hb); clear hx hb)) | fail)
          go_ret
          exact ⟨ret_bool (by simp), HY.out.1⟩
    · rw [szOk_f hs2]
      go_enter Tryz.func9, Tryz.ntmps9
      go_wp2_with (first | (go_at_call 26; ((with_reducible refine (C1.out _ HX.out.1).mono ?_); rintro e w1 ⟨rfl, hx⟩; have hb := hx.heap HX.out.2 id; have k0 := cellAt hb 0 (.slice A1 d.words.length c1) rfl; have k3 := cellAt hb 3 (.slice A2 d.costs.length c2) rfl; have k4 := cellAt hb 4 (.slice A3 d.classes.length c3) rfl; have k5 := cellAt hb 5 (.slice A4 d.chars.length c4) rfl; have k6 := cellAt hb 6 (.slice A5 d.unknown.length c5) rfl; have k7 := cellAt hb 7 (.slice A6 d.meta0.length c6) rfl; have k8 := cellAt hb 8 (.slice A7 d.unkMeta.length c7) rfl; have k10 := cellAt hb 10 (.slice A8 d.user.length c8) rfl; have lb := lt_of_cell k0; have HY := Lib.hid (And.intro (HX.out.1.then hx) hb); clear hx hb)) | (go_at_call 27; ((with_reducible refine (C3.out _ HY.out.1).mono ?_); rintro e w1 ⟨rfl, hx⟩; have hb := hx.heap HY.out.2 id; have k0 := cellAt hb 0 (.slice A1 d.words.length c1) rfl; have k3 := cellAt hb 3 (.slice A2 d.costs.length c2) rfl; have k4 := cellAt hb 4 (.slice A3 d.classes.length c3) rfl; have k5 := cellAt hb 5 (.slice A4 d.chars.length c4) rfl; have k6 := cellAt hb 6 (.slice A5 d.unknown.length c5) rfl; have k7 := cellAt hb 7 (.slice A6 d.meta0.length c6) rfl; have k8 := cellAt hb 8 (.slice A7 d.unkMeta.length c7) rfl; have k10 := cellAt hb 10 (.slice A8 d.user.length c8) rfl; have lb := lt_of_cell k0; have HY := Lib.hid (And.intro (HY.out.1.then hx) hb); clear hx hb)) | (go_at_call 28; ((with_reducible refine (C5.out _ HY.out.1).mono ?_); rintro e w1 ⟨rfl, hx⟩; have hb := hx.heap HY.out.2 id; have k0 := cellAt hb 0 (.slice A1 d.words.length c1) rfl; have k3 := cellAt hb 3 (.slice A2 d.costs.length c2) rfl; have k4 := cellAt hb 4 (.slice A3 d.classes.length c3) rfl; have k5 := cellAt hb 5 (.slice A4 d.chars.length c4) rfl; have k6 := cellAt hb 6 (.slice A5 d.unknown.length c5) rfl; have k7 := cellAt hb 7 (.slice A6 d.meta0.length c6) rfl; have k8 := cellAt hb 8 (.slice A7 d.unkMeta.length c7) rfl; have k10 := cellAt hb 10 (.slice A8 d.user.length c8) rfl; have lb := lt_of_cell k0; have HY := Lib.hid (And.intro (HY.out.1.then hx) hb); clear hx hb)) | (go_at_call 29; ((with_reducible refine (C6.out _ HY.out.1).mono ?_); rintro e w1 ⟨rfl, hx⟩; have hb := hx.heap HY.out.2 id; have k0 := cellAt hb 0 (.slice A1 d.words.length c1) rfl; have k3 := cellAt hb 3 (.slice A2 d.costs.length c2) rfl; have k4 := cellAt hb 4 (.slice A3 d.classes.length c3) rfl; have k5 := cellAt hb 5 (.slice A4 d.chars.length c4) rfl; have k6 := cellAt hb 6 (.slice A5 d.unknown.length c5) rfl; have k7 := cellAt hb 7 (.slice A6 d.meta0.length c6) rfl; have k8 := cellAt hb 8 (.slice A7 d.unkMeta.length c7) rfl; have k10 := cellAt hb 10 (.slice A8 d.user.length c8) rfl; have lb := lt_of_cell k0; have HY := Lib.hid (And.intro (HY.out.1.then hx) hb); clear hx hb)) | (go_at_call 29; ((with_reducible refine (C7.out _ HY.out.1).mono ?_); rintro e w1 ⟨rfl, hx⟩; have hb := hx.heap HY.out.2 id; have k0 := cellAt hb 0 (.slice A1 d.words.length c1) rfl; have k3 := cellAt hb 3 (.slice A2 d.costs.length c2) rfl; have k4 := cellAt hb 4 (.slice A3 d.classes.length c3) rfl; have k5 := cellAt hb 5 (.slice A4 d.chars.length c4) rfl; have k6 := cellAt hb 6 (.slice A5 d.unknown.length c5) rfl; have k7 := cellAt hb 7 (.slice A6 d.meta0.length c6) rfl; have k8 := cellAt hb 8 (.slice A7 d.unkMeta.length c7) rfl; have k10 := cellAt hb 10 (.slice A8 d.user.length c8) rfl; have lb := lt_of_cell k0; have HY := Lib.hid (And.intro (HY.out.1.then hx) hb); clear hx hb)) | (go_at_call 30; ((with_reducible refine (C8.out _ HY.out.1).mono ?_); rintro e w1 ⟨rfl, hx⟩; have hb := hx.heap HY.out.2 id; have k0 := cellAt hb 0 (.slice A1 d.words.length c1) rfl; have k3 := cellAt hb 3 (.slice A2 d.costs.length c2) rfl; have k4 := cellAt hb 4 (.slice A3 d.classes.length c3) rfl; have k5 := cellAt hb 5 (.slice A4 d.chars.length c4) rfl; have k6 := cellAt hb 6 (.slice A5 d.unknown.length c5) rfl; have k7 := cellAt hb 7 (.slice A6 d.meta0.length c6) rfl; have k8 := cellAt hb 8 (.slice A7 d.unkMeta.length c7) rfl; have k10 := cellAt hb 10 (.slice A8 d.user.length c8) rfl; have lb := lt_of_cell k0; have HY := Lib.hid (And.intro (HY.out.1.then hx) hb); clear hx hb)) | fail)
      go_ret
      exact ⟨ret_bool (by simp), HY.out.1⟩
end Go.Proofs.YtoliamijgmifkaaGreatDoor
