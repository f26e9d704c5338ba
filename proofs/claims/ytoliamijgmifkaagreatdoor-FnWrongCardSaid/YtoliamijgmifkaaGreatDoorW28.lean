/- The nodes of a lattice are such as Forward asks. · The tokens of a text in plain Lean; the nodes of a lattice are such as Backward asks. · lattice.New. -/
import Derived.Test.YtoliamijgmifkaaGreatDoorFwd
import Derived.Test.YtoliamijgmifkaaGreatDoorFree
import Derived.Test.YtoliamijgmifkaaGreatDoorNode
import Derived.Handy
set_option linter.all false
section
namespace Go.Proofs.YtoliamijgmifkaaGreatDoor
open Go.RowKit DT SS TR LT

theorem zero_ok {d : GDict} (hr : rightP d = true) (cls : Nat) : (cls ≠ 3 → (0 ≤ zeroM.rt ∧ zeroM.rt < d.rows) ∧ (0 ≤ zeroM.lf ∧ zeroM.lf < d.cols)) ∧ (-32768 ≤ zeroM.wt ∧ zeroM.wt ≤ 32767) := by
  have h := right_dim hr
  refine ⟨fun _ => ⟨⟨by show (0 : Int) ≤ 0; omega, by show (0 : Int) < d.rows; omega⟩, by show (0 : Int) ≤ 0; omega, by show (0 : Int) < d.cols; omega⟩, by show (-32768 : Int) ≤ 0; omega, by show (0 : Int) ≤ 32767; omega⟩
theorem mor_ok {d : GDict} (hr : rightP d = true) {cls id : Nat} {m : Morph} (h : MorOf d cls id m) : (cls ≠ 3 → (0 ≤ m.rt ∧ m.rt < d.rows) ∧ (0 ≤ m.lf ∧ m.lf < d.cols)) ∧ (-32768 ≤ m.wt ∧ m.wt ≤ 32767) := by
  rcases h with ⟨rfl, rfl⟩ | ⟨rfl, hi, rfl⟩ | ⟨rfl, hi, rfl⟩
  · exact zero_ok hr 3
  · have := right_word hr (wsOf d)[id] ((sortL_perm _ _).mem_iff.1 (List.getElem_mem hi))
    exact ⟨fun _ => ⟨this.2.1, this.1⟩, this.2.2.1⟩
  · have := right_unk hr (unkSorted d)[id] ((sortL_perm _ _).mem_iff.1 (List.getElem_mem hi))
    exact ⟨fun _ => ⟨this.2.2.1, this.2.1⟩, this.2.2.2⟩
theorem told_nd {d : GDict} (hr : rightP d = true) {s : ByteArray} {ws : List ByteArray} (hw : KeysOk ws) (hs : Rd s) (hsz : s.size ≤ 300) (k : Nat) (hk : k < (dsOf s).length) (cls : Nat) (mo : Nat → Morph) (hmo : ∀ i, i < ws.length → MorOf d cls i (mo i)) :
    ∀ x ∈ toldNds s k (bp (dsOf s) k) cls mo (told ws (s.extract (bp (dsOf s) k) s.size)), NdOk d (Lib.runeCount s + 2) x := by
  intro x hx
  obtain ⟨y, hy, rfl⟩ := List.mem_map.1 hx
  obtain ⟨hi, h1, h2⟩ := told_mem hw hy
  have hp := plain_parts (hw.plain _ (List.getElem_mem hi))
  obtain ⟨a1, a2, a3⟩ := word_end hs k (by omega) hp.2.2 h2
  rw [h1] at a1 a3
  have hm := mor_ok hr (hmo y.1 hi)
  refine ⟨?_, ?_, ?_, hm.1, hm.2⟩
  · show k < Lib.runeCount s + 2
    rw [rc_ds]; omega
  · show Lib.validD (s.extract (bp (dsOf s) k) (bp (dsOf s) k + y.2)).data.toList = true
    rw [a3]; exact hp.2.2
  · show (s.extract (bp (dsOf s) k) (bp (dsOf s) k + y.2)).size ≤ 1000
    rw [ByteArray.size_extract]; omega
theorem unk_nd {d : GDict} (hr : rightP d = true) {s : ByteArray} (hs : Rd s) (hsz : s.size ≤ 300) (k e : Nat) (hk : k < (dsOf s).length) (he : k ≤ e) (he2 : e ≤ (dsOf s).length) (id : Nat) (hid : id < (unkSorted d).length) :
    NdOk d (Lib.runeCount s + 2) (wordNd s k (bp (dsOf s) k) 2 (((unkSorted d).map morU).getD id default) id (bp (dsOf s) e - bp (dsOf s) k)) := by
  have hm := mor_ok hr (unk_mor (d := d) id hid)
  have hb := bp_mono (dsOf s) he
  refine ⟨?_, ?_, ?_, hm.1, hm.2⟩
  · show k < Lib.runeCount s + 2
    rw [rc_ds]; omega
  · show Lib.validD (s.extract (bp (dsOf s) k) (bp (dsOf s) k + (bp (dsOf s) e - bp (dsOf s) k))).data.toList = true
    rw [show bp (dsOf s) k + (bp (dsOf s) e - bp (dsOf s) k) = bp (dsOf s) e by omega, ext_bp s k e he]
    exact UC.good_valid _ (fun c hc => (hs c (List.mem_of_mem_drop (List.mem_of_mem_take hc))).1)
  · show (s.extract (bp (dsOf s) k) (bp (dsOf s) k + (bp (dsOf s) e - bp (dsOf s) k))).size ≤ 1000
    rw [ByteArray.size_extract]; omega
theorem lat_ok {d : GDict} (hr : rightP d = true) (hd : DOk d) (uk : Option (List ByteArray)) (hu : ∀ ks, uk = some ks → KeysOk ks) {s : ByteArray} (hs : Rd s) (hsz : s.size ≤ 300) : ∀ x ∈ lat (dkOf d uk) s, NdOk d (Lib.runeCount s + 2) x := by
  intro x hx
  have hz := zero_ok hr 0
  unfold lat upTo at hx
  rcases List.mem_cons.1 hx with rfl | hx
  · exact ⟨by show 0 < Lib.runeCount s + 2; omega, rfl, by show ByteArray.empty.size ≤ 1000; decide, hz.1, hz.2⟩
  rcases List.mem_cons.1 hx with rfl | hx
  · exact ⟨by show Lib.runeCount s < Lib.runeCount s + 2; omega, rfl, by show ByteArray.empty.size ≤ 1000; decide, hz.1, hz.2⟩
  obtain ⟨k, hk, hx⟩ := List.mem_flatMap.1 hx
  have hk : k < (dsOf s).length := by rw [← rc_ds]; exact List.mem_range.1 hk
  have known : ∀ x ∈ knownNds (dkOf d uk) s k (bp (dsOf s) k), NdOk d (Lib.runeCount s + 2) x := fun x hx => by
    rw [← known_nds] at hx
    exact told_nd hr (keys_of hr hd) hs hsz k hk 1 _ (fun i hi => known_mor i hi) x hx
  have user : ∀ x ∈ userNds (dkOf d uk) s k (bp (dsOf s) k), NdOk d (Lib.runeCount s + 2) x := fun x hx => by
    cases uk with
    | none => cases hx
    | some ks =>
      rw [← user_nds] at hx
      exact told_nd hr (hu ks rfl) hs hsz k hk 3 _ (fun i _ => .inl ⟨rfl, rfl⟩) x hx
  have unk : ∀ x ∈ unkNds (dkOf d uk) s (dsOf s) k, NdOk d (Lib.runeCount s + 2) x := fun x hx => by
    have hm := (maps_at hr uk _ (cat_lt hr uk (rune ((dsOf s).getD k [])))).2.2
    have he : k + 1 ≤ grpEnd (dkOf d uk) (dsOf s) k ∧ grpEnd (dkOf d uk) (dsOf s) k ≤ (dsOf s).length := by
      unfold grpEnd
      simp only
      have := grpLen_le (dkOf d uk).cat ((dkOf d uk).cat (rune ((dsOf s).getD k []))) 1023 ((dsOf s).drop (k + 1))
      rw [List.length_drop] at this
      split <;> omega
    obtain ⟨i, hi, hx⟩ := List.mem_flatMap.1 hx
    have hi := List.mem_range.1 hi
    rcases List.mem_append.1 hx with hx | hx
    · split at hx
      · rw [List.mem_singleton.1 hx]
        exact unk_nd hr hs hsz k (grpEnd (dkOf d uk) (dsOf s) k - 1) hk (by omega) (by omega) _ (by omega)
      · cases hx
    · rw [List.mem_singleton.1 hx]
      exact unk_nd hr hs hsz k (grpEnd (dkOf d uk) (dsOf s) k) hk (by omega) (by omega) _ (by omega)
  unfold nodesAt at hx
  split at hx
  · rcases List.mem_append.1 hx with hx | hx
    · exact known x hx
    · split at hx
      · exact unk x hx
      · cases hx
  · exact user x hx
end Go.Proofs.YtoliamijgmifkaaGreatDoor
end
section
namespace LT
open Go Go.Lib UC
/-- A token. -/
structure GTok where
  index : Nat
  id : Int
  cls : Nat
  pos : Nat
  start : Nat
  fin : Nat
  surf : ByteArray
deriving Inhabited
def bosS : ByteArray := ⟨#[66, 79, 83]⟩
def eosS : ByteArray := ⟨#[69, 79, 83]⟩
/-- The i-th node, from the beginning on, as a token; om: beginning and end are left out. -/
def anaStep (om : Bool) (i : Nat) (acc : List GTok) (x : Nd) : List GTok :=
  if om = true ∧ x.id = -1 then acc else acc ++ [⟨acc.length, x.id, x.cls, x.pos, x.start, x.start + runeCount x.surf, if x.id = -1 then (if i = 0 then bosS else eosS) else x.surf⟩]
def anaTo (om : Bool) (l : List Nd) : Nat → List GTok
  | 0 => []
  | i + 1 => anaStep om i (anaTo om l i) (l.getD i default)
theorem anaTo_len (om : Bool) (l : List Nd) : ∀ i, (anaTo om l i).length ≤ i
  | 0 => by simp [anaTo]
  | i + 1 => by
    have := anaTo_len om l i
    unfold anaTo anaStep
    split
    · omega
    · rw [List.length_append, List.length_singleton]; omega
/-- The mode that is run. -/
def mdOf (mode : Int) : Int := if mode = 2 then 2 else if mode = 3 then 3 else 1
/-- The nodes of the best way, the end first. -/
def outsOf (D : Dk) (mode : Int) (s : ByteArray) : List Nd := (wayO (lat D s) (fwdTo D mode (lat D s) (runeCount s + 2)).prev (some 1)).flatMap fun m => outNds mode ((lat D s).getD m default)
def toksOf (D : Dk) (om : Bool) (mode : Int) (s : ByteArray) : List GTok := anaTo om (outsOf D mode s).reverse (outsOf D mode s).length
theorem CostOk.all {D : Dk} {mode : Int} {ns : List Nd} {t : Nat} : ∀ (l : List Nat) (st : St) (f : Bool), CostOk st → CostOk (relaxAll D mode ns t st f l)
  | [], _, _, h => h
  | _ :: l, _, _, h => CostOk.all l _ false h.relax
theorem CostOk.node {D : Dk} {mode : Int} {ns : List Nd} {st : St} (h : CostOk st) (t : Nat) : CostOk (fwdNode D mode ns st t) := by
  unfold fwdNode
  split
  · exact h.up t _ _ (by unfold maxCost; omega)
  · exact CostOk.all _ _ _ h
theorem CostOk.row {D : Dk} {mode : Int} {ns : List Nd} : ∀ (l : List Nat) (st : St), CostOk st → CostOk (l.foldl (fwdNode D mode ns) st)
  | [], _, h => h
  | a :: l, _, h => CostOk.row l _ (h.node a)
theorem costOk_to (D : Dk) (mode : Int) (ns : List Nd) : ∀ p, CostOk (fwdTo D mode ns p)
  | 0 => fun t => ⟨by show (-2147483648 : Int) ≤ 0; omega, by show (0 : Int) ≤ 2147483647; omega⟩
  | p + 1 => by
    show CostOk (if p = 0 then _ else _)
    split
    · exact fun t => ⟨by show (-2147483648 : Int) ≤ 0; omega, by show (0 : Int) ≤ 2147483647; omega⟩
    · exact CostOk.row _ _ (costOk_to D mode ns p)
/-- The end is the first node that ends behind all characters. -/
theorem row_eos (D : Dk) (s : ByteArray) : (row (lat D s) (runeCount s + 2 - 1))[0]? = some 1 := by
  have e : lat D s = bosNd :: eosNd s :: (List.range (runeCount s)).flatMap (nodesAt D s (dsOf s)) := rfl
  unfold row
  rw [e]
  generalize (List.range (runeCount s)).flatMap (nodesAt D s (dsOf s)) = l
  have r : List.range (bosNd :: eosNd s :: l).length = 0 :: 1 :: (List.range l.length).map (· + 2) := by
    rw [List.length_cons, List.length_cons, List.range_succ_eq_map, List.range_succ_eq_map]
    simp
  rw [r, List.filter_cons, List.filter_cons]
  have h0 : (((bosNd :: eosNd s :: l).getD 0 default).fin == runeCount s + 2 - 1) = false := by
    show ((0 : Nat) == runeCount s + 2 - 1) = false
    simp
  have h1 : (((bosNd :: eosNd s :: l).getD 1 default).fin == runeCount s + 2 - 1) = true := by
    show (runeCount s + 1 == runeCount s + 2 - 1) = true
    simp
  rw [h0, h1]
  rfl
end LT
namespace Go.Proofs.YtoliamijgmifkaaGreatDoor
open Go.RowKit DT SS TR LT
theorem rc_pos {s : ByteArray} (hv : Lib.validD s.data.toList = true) (hne : s ≠ ByteArray.empty) : 1 ≤ Lib.runeCount s := by
  rw [UC.count_chunk]
  have hn : s.data.toList ≠ [] := fun e => hne (ByteArray.ext (Array.toList_inj.1 e))
  rw [UC.chunk_step _ hn]
  simp
/-- What is held of a node but the beginning. -/
structure NdPos (s : ByteArray) (x : Nd) : Prop where
  up : x.start < x.fin
  pos : x.pos ≤ s.size
  start : x.start ≤ s.size
  id : -1 ≤ x.id ∧ x.id ≤ 1000000
theorem told_np {s : ByteArray} {ws : List ByteArray} (hw : KeysOk ws) (hs : Rd s) (k : Nat) (hk : k < (dsOf s).length) (cls : Nat) (mo : Nat → Morph) :
    ∀ x ∈ toldNds s k (bp (dsOf s) k) cls mo (told ws (s.extract (bp (dsOf s) k) s.size)), NdPos s x := by
  intro x hx
  obtain ⟨y, hy, rfl⟩ := List.mem_map.1 hx
  obtain ⟨hi, h1, h2⟩ := told_mem hw hy
  have hp := plain_parts (hw.plain _ (List.getElem_mem hi))
  obtain ⟨a1, a2, a3⟩ := word_end hs k (by omega) hp.2.2 h2
  rw [h1] at a1 a3
  have hr := Lib.runeCount_le s
  rw [rc_ds] at hr
  have hl := hw.len
  refine ⟨?_, bp_le s k, by show k ≤ s.size; omega, by show -1 ≤ (y.1 : Int) ∧ (y.1 : Int) ≤ 1000000; omega⟩
  show k < k + Lib.runeCount (s.extract (bp (dsOf s) k) (bp (dsOf s) k + y.2))
  rw [a3]
  have := rc_pos hp.2.2 hp.2.1
  omega
theorem unk_np {s : ByteArray} (hs : Rd s) (k e : Nat) (hk : k < (dsOf s).length) (he : k < e) (he2 : e ≤ (dsOf s).length) (m : Morph) (id : Nat) (hid : id ≤ 1000000) :
    NdPos s (wordNd s k (bp (dsOf s) k) 2 m id (bp (dsOf s) e - bp (dsOf s) k)) := by
  have hr := Lib.runeCount_le s
  rw [rc_ds] at hr
  have hb := bp_mono (dsOf s) (show k ≤ e by omega)
  refine ⟨?_, bp_le s k, by show k ≤ s.size; omega, by show -1 ≤ (id : Int) ∧ (id : Int) ≤ 1000000; omega⟩
  show k < k + Lib.runeCount (s.extract (bp (dsOf s) k) (bp (dsOf s) k + (bp (dsOf s) e - bp (dsOf s) k)))
  rw [show bp (dsOf s) k + (bp (dsOf s) e - bp (dsOf s) k) = bp (dsOf s) e by omega, count_bp hs k e (by omega) he2]
  omega
theorem lat_np {d : GDict} (hr : rightP d = true) (hd : DOk d) (uk : Option (List ByteArray)) (hu : ∀ ks, uk = some ks → KeysOk ks) {s : ByteArray} (hs : Rd s) : ∀ x ∈ lat (dkOf d uk) s, x = bosNd ∨ NdPos s x := by
  intro x hx
  have hrc := Lib.runeCount_le s
  unfold lat upTo at hx
  rcases List.mem_cons.1 hx with rfl | hx
  · exact .inl rfl
  right
  rcases List.mem_cons.1 hx with rfl | hx
  · exact ⟨by show Lib.runeCount s < Lib.runeCount s + 1; omega, by show s.size ≤ s.size; omega, hrc, by show (-1 : Int) ≤ -1 ∧ (-1 : Int) ≤ 1000000; omega⟩
  obtain ⟨k, hk, hx⟩ := List.mem_flatMap.1 hx
  have hk : k < (dsOf s).length := by rw [← rc_ds]; exact List.mem_range.1 hk
  have known : ∀ x ∈ knownNds (dkOf d uk) s k (bp (dsOf s) k), NdPos s x := fun x hx => by
    rw [← known_nds] at hx
    exact told_np (keys_of hr hd) hs k hk 1 _ x hx
  have user : ∀ x ∈ userNds (dkOf d uk) s k (bp (dsOf s) k), NdPos s x := fun x hx => by
    cases uk with
    | none => cases hx
    | some ks =>
      rw [← user_nds] at hx
      exact told_np (hu ks rfl) hs k hk 3 _ x hx
  have unk : ∀ x ∈ unkNds (dkOf d uk) s (dsOf s) k, NdPos s x := fun x hx => by
    have hm := (maps_at hr uk _ (cat_lt hr uk (rune ((dsOf s).getD k [])))).2.2
    have hul := hd.unk
    rw [unkSorted_len] at hm
    have he : k + 1 ≤ grpEnd (dkOf d uk) (dsOf s) k ∧ grpEnd (dkOf d uk) (dsOf s) k ≤ (dsOf s).length := by
      unfold grpEnd
      simp only
      have := grpLen_le (dkOf d uk).cat ((dkOf d uk).cat (rune ((dsOf s).getD k []))) 1023 ((dsOf s).drop (k + 1))
      rw [List.length_drop] at this
      split <;> omega
    obtain ⟨i, hi, hx⟩ := List.mem_flatMap.1 hx
    have hi := List.mem_range.1 hi
    rcases List.mem_append.1 hx with hx | hx
    · split at hx
      · rw [List.mem_singleton.1 hx]
        exact unk_np hs k (grpEnd (dkOf d uk) (dsOf s) k - 1) hk (by omega) (by omega) _ _ (by omega)
      · cases hx
    · rw [List.mem_singleton.1 hx]
      exact unk_np hs k (grpEnd (dkOf d uk) (dsOf s) k) hk (by omega) (by omega) _ _ (by omega)
  unfold nodesAt at hx
  split at hx
  · rcases List.mem_append.1 hx with hx | hx
    · exact known x hx
    · split at hx
      · exact unk x hx
      · cases hx
  · exact user x hx
/-- All that Backward asks of a lattice. -/
theorem lat_out {d : GDict} (hr : rightP d = true) (hd : DOk d) (uk : Option (List ByteArray)) (hu : ∀ ks, uk = some ks → KeysOk ks) {s : ByteArray} (hs : Rd s) (hsz : s.size ≤ 300) : (∀ x ∈ lat (dkOf d uk) s, NdOut x) ∧ (∀ x ∈ lat (dkOf d uk) s, 1 ≤ x.fin → x.start < x.fin) := by
  refine ⟨fun x hx => ?_, fun x hx h1 => ?_⟩
  · have h := lat_ok hr hd uk hu hs hsz x hx
    rcases lat_np hr hd uk hu hs x hx with rfl | h2
    · exact ⟨h.valid, h.size, by show 0 ≤ 1000000; omega, by show 0 ≤ 1000000; omega, by show (-1 : Int) ≤ -1 ∧ (-1 : Int) ≤ 1000000; omega⟩
    · exact ⟨h.valid, h.size, by have := h2.pos; omega, by have := h2.start; omega, h2.id⟩
  · rcases lat_np hr hd uk hu hs x hx with rfl | h2
    · exact absurd h1 (by show ¬ 1 ≤ 0; omega)
    · exact h2.up
theorem outNds_ok {mode : Int} {x : Nd} (h : NdOut x) : ∀ y ∈ outNds mode x, y.start ≤ 2000000 ∧ y.surf.size ≤ 1000 := by
  intro y hy
  have hs := h.size
  have h1 := h.start
  unfold outNds at hy
  split at hy
  · rw [List.mem_singleton.1 hy]; omega
  · rw [List.mem_reverse] at hy
    obtain ⟨i, hi, rfl⟩ := List.mem_map.1 hy
    have hi := List.mem_range.1 hi
    have hr := Lib.runeCount_le x.surf
    rw [rc_ds] at hr
    refine ⟨by show x.start + i ≤ 2000000; omega, ?_⟩
    show ((dsOf x.surf).getD i []).toArray.size ≤ 1000
    rw [List.getD_eq_getElem?_getD, List.getElem?_eq_getElem hi]
    have h2 : ((dsOf x.surf)[i]).length ≤ x.surf.data.size := by
      rw [← Array.length_toList, ← flat_ds]
      exact (List.sublist_flatten_of_mem (List.getElem_mem hi)).length_le
    have : x.surf.data.size = x.surf.size := rfl
    show ((dsOf x.surf)[i]).length ≤ 1000
    omega
theorem outs_ok {d : GDict} (hr : rightP d = true) (hd : DOk d) (uk : Option (List ByteArray)) (hu : ∀ ks, uk = some ks → KeysOk ks) {s : ByteArray} (hs : Rd s) (hsz : s.size ≤ 300) (mode : Int) : ∀ y ∈ outsOf (dkOf d uk) mode s, y.start ≤ 2000000 ∧ y.surf.size ≤ 1000 := by
  intro y hy
  obtain ⟨m, hm, hy⟩ := List.mem_flatMap.1 hy
  have hlo := lat_out hr hd uk hu hs hsz
  have t1 : 1 < (lat (dkOf d uk) s).length := by
    have : lat (dkOf d uk) s = bosNd :: eosNd s :: (List.range (Lib.runeCount s)).flatMap (nodesAt (dkOf d uk) s (dsOf s)) := rfl
    rw [this, List.length_cons, List.length_cons]; omega
  have hml := way_mem (desc_to (dkOf d uk) mode _ hlo.2 _) _ _ t1 m hm
  have e : (lat (dkOf d uk) s).getD m default = (lat (dkOf d uk) s)[m] := by rw [List.getD_eq_getElem?_getD, List.getElem?_eq_getElem hml]; rfl
  rw [e] at hy
  exact outNds_ok (hlo.1 _ (List.getElem_mem hml)) y hy
end Go.Proofs.YtoliamijgmifkaaGreatDoor
end
section
namespace Go.Proofs.YtoliamijgmifkaaGreatDoor
open Go.RowKit

set_option maxRecDepth 100000 in
theorem latNew_any (a b : Option Addr) (w : World) : Calls Tryz.prog 63 #[.pointer a, .pointer b] w fun e w' => e = .returned (.pointer (some ⟨w.heap.size, 0, none⟩)) ∧ w'.heap[w.heap.size]? = some (.cells #[.string .empty, .slice none 0 0, .slice none 0 0, .pointer a, .pointer b] 136 (0, 0)) ∧ Ext w w' := by
  go_enter Tryz.func63, Tryz.ntmps63
  go_wp2_with fail
  first | go_ret | go_ret2
  exact ⟨rfl, alloc_at _ _, (Fr.refl _ _).alloc _⟩
end Go.Proofs.YtoliamijgmifkaaGreatDoor
end
