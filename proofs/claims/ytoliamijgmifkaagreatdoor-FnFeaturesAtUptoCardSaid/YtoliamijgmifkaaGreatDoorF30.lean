/- impl.tokenizerOf, of a dictionary that is wrong, or right and without a user's. -/
import Derived.Test.YtoliamijgmifkaaGreatDoorF25
import Derived.Test.YtoliamijgmifkaaGreatDoorF28
import Derived.Test.YtoliamijgmifkaaGreatDoorF29
set_option linter.all false
set_option maxRecDepth 100000
set_option maxHeartbeats 1000000
namespace Go.Proofs.YtoliamijgmifkaaGreatDoor
open Go.RowKit DT SS TR LT
structure Zca(d:Zf)(uk:Option (Nat × List ByteArray))(om:Bool)(tk kd H U:Nat)(w:World):Prop where
 cells:w.heap[tk]? = some (.cells (Yy kd (uk.map fun x=>⟨x.1,0,none⟩) om) 199 (0,0))
 dict:Zv d kd H U w
 user:∀ x,uk=some x->Vw x.1 x.2 H U w/\Yt x.2
theorem Zfs:∃ i,Tryz.prog.info? 193=some i/\∃ z:Value,i.zero=some z/\i.size=1/\i.bytes=8/\z.cells.size=1:=by
 have h:(Tryz.prog.info? 193).map (fun i=>(i.zero.map (fun z=>z.cells.size),i.size,i.bytes))=some (some 1,1,8):=by kernel_rfl
 cases hi:Tryz.prog.info? 193 with
 | none=>rw[hi]at h;cases h
 | some i =>
  rw[hi]at h;simp only[Option.map_some,Option.some.injEq,Prod.mk.injEq]at h;obtain⟨h1,h2,h3⟩:=h
  cases hz:i.zero with
  | none=>rw[hz]at h1;cases h1
  | some z =>
   rw[hz]at h1;exact⟨i,rfl,z,hz,h2,h3,by simpa using h1⟩
theorem Eg(d:Zf)(cs:List Value)(O:Nat->Prop)(om:Bool)(w:World)(h:tDict.R w O d cs)(hT:U8 w)(hd:DOk d)(hr:Zk d=true)(hu:d.hasUser=false) :
  Calls Tryz.prog 57 #[.agg cs.toArray,.bool om] w fun e w'=>∃ tk kd H U,e = .returned (.tuple #[.pointer (some ⟨tk,0,none⟩),.int .i64 0])/\Zca d none om tk kd H U w'/\w.heap.size<=H/\Ext w w':=by
 have H:=Lib.hid (And.intro h hT);obtain⟨A1,c1,A2,c2,A3,c3,A4,c4,A5,c5,A6,c6,A7,c7,A8,c8,rfl,_⟩:=Yh h;clear h hT;rw[hu]at H⊢;have HD:=Lib.hid (And.intro hd (And.intro hr hu));clear hd hr hu
 cases om with
 | false =>
  go_enter Tryz.func57,Tryz.ntmps57
  go_wp2_with (first
   | (go_at_call 60;refine (P4 d _ O _ (tDict.ext H.out.1 ((Fr.refl _ w).alloc _)) (H.out.2.ext ((Fr.refl _ w).alloc _)) HD.out.1 HD.out.2.1).mono ?_;rintro e w1 ⟨kd,U,rfl,hx,hy⟩;have b9:w1.cell? ⟨w.heap.size,9,none⟩=some (.bool false):=hy.cell (Zb (alloc_at _ _) 9 _ rfl) id;have lb9:=lt_of_cell b9;have HX:=Lib.hid (And.intro hx hy);clear hx hy)
   | (go_at_call 88;refine (Rc kd 0 0 none [] (fun _=>Yy kd none false) _ rfl (by omega) (fun j h=>by simp at h) rfl (fun j h=>by simp at h)).mono ?_;rintro e w2 ⟨rfl,hx,hy⟩;have HY:=Lib.hid (And.intro hx hy);clear hx hy)
   | fail)
  first|go_ret|go_ret2
  exact⟨_,kd,_,U,rfl,⟨HY.out.1,HX.out.1.keep HY.out.2 (fun _ _ _=>id),fun x e=>by cases e⟩,by rw[Za];omega,(((Fr.refl _ w).alloc _).then HX.out.2).then HY.out.2⟩
 | true =>
  obtain⟨zi,hzi,z,hz,hz2,hz3,hz4⟩:=Zfs;have HZ:=Lib.hid (And.intro hz hz4);clear hz hz4;go_enter Tryz.func57,Tryz.ntmps57
  go_upto_region 12 with (first
   | (go_at_call 60;refine (P4 d _ O _ (tDict.ext H.out.1 ((Fr.refl _ w).alloc _)) (H.out.2.ext ((Fr.refl _ w).alloc _)) HD.out.1 HD.out.2.1).mono ?_;rintro e w1 ⟨kd,U,rfl,hx,hy⟩;have b9:w1.cell? ⟨w.heap.size,9,none⟩=some (.bool false):=hy.cell (Zb (alloc_at _ _) 9 _ rfl) id;have lb9:=lt_of_cell b9;have HX:=Lib.hid (And.intro hx hy);clear hx hy)
   | (go_at_call 87;refine (Di _).mono ?_;rintro e w2 ⟨rfl,rfl⟩)
   | (at_builtin;(refine wpList_append_own_at _ rfl _ _ 191 rfl w2.heap.size 193 zi z 1 8 Tryz.underlying191 hzi HZ.out.1 hz2 hz3 HZ.out.2 (by decide) (.slice none 0 0) 0 [] rfl (World.ownsRow_nil _ _ _ _) ⟨w2.heap.size,0,none⟩ 1 1 [.func (.func 123) #[] #[]] rfl rfl (cell_one_new _ _ _) (by intro x hx;rw[List.mem_singleton.1 hx];rfl) (by unfold maxLen;omega) (by omega) (by simp) ?_;intro v' w3 hown' hgrow hnil' hat;obtain⟨Ao,co,hv⟩:=Zl hown';subst hv;have HE:=Lib.hid (And.intro hown' hgrow);clear hown' hgrow hnil' hat))
   | fail)
  have hcell:∀ j (h:j<[Value.func (.func 123) #[] #[]].length),∃ b o,Ao=some ⟨b,o,none⟩/\b<w3.heap.size/\w3.cell? ⟨b,o+j,none⟩=some ([Value.func (.func 123) #[] #[]][j]):=fun j h=>by
   obtain rfl:j=0:=by simp at h;omega
   obtain⟨g,c,e,ec,_⟩:=Vn HE.out.1 0 (by omega);simp only[Value.slice.injEq]at e;obtain⟨rfl,_,rfl⟩:=e;exact⟨g,0,rfl,(lt_of_cell ec),ec⟩
  have CN:=Lib.hid (Rc kd 1 co Ao [.func (.func 123) #[] #[]] (fun j=>if j=0 then Yy kd none false else Yy kd none true) w3 rfl (by omega) hcell rfl (fun j h=>by
   obtain rfl:j=0:=by simp at h;omega
   exact Zbm _ _ _ _ _))
  clear hcell
  go_wp2_with (first
   | (go_at_call 88;refine CN.out.mono ?_;rintro e w4 ⟨rfl,hx,hy⟩;have HY:=Lib.hid (And.intro hx hy);clear hx hy)
   | fail)
  first|go_ret|go_ret2
  have X3:Ext w2 w3:=((Fr.refl (fun _=>False) w2).alloc _).trans ((Fr.refl (fun j=>(Value.slice none 0 0).ownBlock=some j) _).grown HE.out.2 (fun k e _=>e)) (fun j _ e=>by cases e);have X4:Ext w2 w4:=X3.then HY.out.2;exact⟨_,kd,_,U,rfl,⟨HY.out.1,HX.out.1.keep X4 (fun _ _ _=>id),fun x e=>by cases e⟩,by rw[Za];omega,(((Fr.refl _ w).alloc _).then HX.out.2).then X4⟩
end Go.Proofs.YtoliamijgmifkaaGreatDoor
