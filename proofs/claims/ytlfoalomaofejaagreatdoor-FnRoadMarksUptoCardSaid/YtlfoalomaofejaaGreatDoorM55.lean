/- laws.FnRoadMarks: the walk. -/
import Derived.Test.YtlfoalomaofejaaGreatDoorM52
import Derived.Test.YtlfoalomaofejaaGreatDoorM54
set_option linter.all false
set_option maxRecDepth 100000
set_option maxHeartbeats 4000000
namespace Go.Proofs.YtlfoalomaofejaaGreatDoor
open Go.RowKit Go.Shelf DT SS TR LT SP
theorem Zjf{w:World}{O:Nat->Prop}{A:Option Addr}{xs:List GMark}(h:tMark.At w O A xs):∀ x∈xs,x.name.size<=9223372036854775807:=by
 intro x q;obtain⟨i,hi,rfl⟩:=List.getElem_of_mem q;rcases h.2 with rfl|⟨b,o,rfl,_,_,G⟩
 ·cases q
 ·obtain⟨cs,z,_⟩:=G i hi;obtain⟨_,_,rfl,⟨rfl,h1⟩,_⟩:=z;exact h1
theorem Ag{w:World}{O:Nat->Prop}{d:Zg}{A1 Z Y X W A6 V U q:Option Addr}{n1 n2 n3 n4 n5 n6 n7 n8 M L K J I c6 G A c':Nat}{v1 v2 v9:Value}(h:tDict.R w O d [.slice A1 n1 M,v1,v2,.slice Z n2 L,.slice Y n3 K,.slice X n4 J,.slice W n5 I,.slice A6 n6 c6,.slice V n7 G,v9,.slice U n8 A])(hc:(dM d).meta0.length<=c')(hA:q=none->c'=0)(ha:tMark.At w O q (dM d).meta0) :
  tDict.R w O (dM d) [.slice A1 n1 M,v1,v2,.slice Z n2 L,.slice Y n3 K,.slice X n4 J,.slice W n5 I,.slice q (dM d).meta0.length c',.slice V n7 G,v9,.slice U n8 A]:=by
 obtain⟨_,_,e,⟨B1,b1,rfl,h1⟩,_,_,rfl,⟨rfl,hr⟩,_,_,rfl,⟨rfl,z⟩,_,_,rfl,⟨B2,b2,rfl,h2⟩,_,_,rfl,⟨B3,b3,rfl,h3⟩,_,_,rfl,⟨B4,b4,rfl,h4⟩,_,_,rfl,⟨B5,b5,rfl,h5⟩,_,_,rfl,⟨B6,b6,rfl,h6⟩,_,_,rfl,⟨B7,b7,rfl,h7⟩,_,_,rfl,⟨rfl,_⟩,⟨B8,b8,rfl,h8⟩⟩:=h;simp only[List.cons_append,List.nil_append,List.cons.injEq,Value.slice.injEq,and_true]at e;obtain⟨⟨rfl,rfl,rfl⟩,rfl,rfl,⟨rfl,rfl,rfl⟩,⟨rfl,rfl,rfl⟩,⟨rfl,rfl,rfl⟩,⟨rfl,rfl,rfl⟩,_,⟨rfl,rfl,rfl⟩,rfl,⟨rfl,rfl,rfl⟩⟩:=e;exact⟨[_],_,rfl,⟨A1,M,rfl,h1⟩,[_],_,rfl,⟨rfl,hr⟩,[_],_,rfl,⟨rfl,z⟩,[_],_,rfl,⟨Z,L,rfl,h2⟩,[_],_,rfl,⟨Y,K,rfl,h3⟩,[_],_,rfl,⟨X,J,rfl,h4⟩,[_],_,rfl,⟨W,I,rfl,h5⟩,[_],_,rfl,⟨q,c',rfl,hc,hA,ha⟩,[_],_,rfl,⟨V,G,rfl,h7⟩,[_],[_],rfl,⟨rfl,trivial⟩,⟨U,A,rfl,h8⟩⟩
theorem Zbr(d:Zg)(cs:List Value)(O:Nat->Prop)(s:ByteArray)(G:Int)(w:World)(h:tDict.R w O d cs)(hs:s.size<=9223372036854775807)(hT:Tbs w)(b5:(d.meta0.map λm=>m.name.size+1).sum<=1048576)(hb:∀ u∈d.user,total u.tokens<=1048576/\total u.yomi<=1048576) :
  Calls Tryz.prog 7 #[.agg cs.toArray,.string s,.int .i64 G] w λe w'=>e=.returned (.bool true)/\Zf w w':=by
 have mixed:Tryz.prog.follows .mixedOrders=true:=Kr
 have h:=tDict.mono (O':=λ_=>True) (λ_ _ _=>trivial) h;have H:=Hd (Ai1 h hT);have CF:=Hd (λW (f:Zf w W)=>En W _ d cs (tDict.ext h f));obtain⟨A1,c1,A2,c2,A3,c3,A4,c4,A5,c5,A6,c6,A7,c7,A8,c8,rfl,_,_,_,_,_,h1,_⟩:=Y4 h;have bs:=Hd h1;clear h hT h1;have B0:=alloc_at w (.cells #[.slice A1 d.words.length c1,.int .i64 d.rows,.int .i64 d.cols,.slice A2 d.costs.length c2,.slice A3 d.classes.length c3,.slice A4 d.chars.length c4,.slice A5 d.unknown.length c5,.slice A6 d.meta0.length c6,.slice A7 d.unkMeta.length c7,.bool d.hasUser,.slice A8 d.user.length c8] 30);have HB:=Hd B0;clear B0
 cases hf:Yb d with
 | false =>
  rw[hf]at CF;clear hf;go_enter Tryz.func7,Tryz.ntmps7
  go_wp2_with (first
   | (go_at_call 8;refine (CF.out _ ((Fl w).alloc _)).mono ?_;rintro e w1 ⟨rfl,z⟩;have HX:=Hd z;clear z)
   | fail)
  go_ret;exact⟨rfl,((Fl w).alloc _).then HX.out⟩
 | true =>
  rw[hf]at CF;by_cases hl:s.size<=2147483647
  ·have CG:=Hd (λW (f:Zf w W) A c (ha:Ty.str.At W (λ_=>True) A [s])=>Zj7 W _ (λ_=>True) d _ A c [s] (tDict.ext H.out.1 f) hf (H.out.2.ext f).u8 ha)
   have dk:d.meta0.length<=2147483647:=by
    have:=hf;unfold Yb at this;simp only[Bool.and_eq_true]at this;simpa [Yl] using this.2.2.2.2.2.1.1
   have HF:=Hd hf;clear hf;go_enter Tryz.func7,Tryz.ntmps7
   go_upto_region 3 with (first
    | (go_at_call 8;refine (CF.out _ ((Fl w).alloc _)).mono ?_;rintro e w1 ⟨rfl,z⟩;have HX:=Hd z;clear z)
    | fail)
   have k0:∀ (W:World),Zf w1 W->∀ j u,(#[Value.slice A1 d.words.length c1,.int .i64 d.rows,.int .i64 d.cols,.slice A2 d.costs.length c2,.slice A3 d.classes.length c3,.slice A4 d.chars.length c4,.slice A5 d.unknown.length c5,.slice A6 d.meta0.length c6,.slice A7 d.unkMeta.length c7,.bool d.hasUser,.slice A8 d.user.length c8])[j]?=some u->W.cell? ⟨w.heap.size,j,none⟩=some u:=λW f j u hj=>Zb (f.heap (HX.out.heap HB.out id) id) j u hj
   have KC:Hid (∀ (W:World),Zf w1 W->W.cell? ⟨w.heap.size,0,none⟩=some (.slice A1 d.words.length c1)/\W.cell? ⟨w.heap.size,1,none⟩=some (.int .i64 d.rows)/\W.cell? ⟨w.heap.size,2,none⟩=some (.int .i64 d.cols)/\W.cell? ⟨w.heap.size,3,none⟩=some (.slice A2 d.costs.length c2)/\W.cell? ⟨w.heap.size,4,none⟩=some (.slice A3 d.classes.length c3)/\W.cell? ⟨w.heap.size,5,none⟩=some (.slice A4 d.chars.length c4)/\W.cell? ⟨w.heap.size,6,none⟩=some (.slice A5 d.unknown.length c5)/\W.cell? ⟨w.heap.size,7,none⟩=some (.slice A6 d.meta0.length c6)/\W.cell? ⟨w.heap.size,8,none⟩=some (.slice A7 d.unkMeta.length c7)/\W.cell? ⟨w.heap.size,9,none⟩=some (.bool d.hasUser)/\W.cell? ⟨w.heap.size,10,none⟩=some (.slice A8 d.user.length c8)/\w.heap.size<W.heap.size):=λW f =>
    ⟨k0 W f 0 _ rfl,k0 W f 1 _ rfl,k0 W f 2 _ rfl,k0 W f 3 _ rfl,k0 W f 4 _ rfl,k0 W f 5 _ rfl,k0 W f 6 _ rfl,k0 W f 7 _ rfl,k0 W f 8 _ rfl,k0 W f 9 _ rfl,k0 W f 10 _ rfl,lt_of_cell (k0 W f 0 _ rfl)⟩
   have cd:=Hd (((Fe w).alloc _).then HX.out);obtain⟨_,_,_,_,_,_,_,q0,_,_,_,ql⟩:=KC.out w1 (Fl w1);clear k0 HX HB CF;go_wp2_with fail
   go_loopg [7,29] d.meta0.length (λg1 v7 v29 wr=>∃ (i:Nat) (u:Value),v7=u/\v29=.int .i64 (i:Int)/\i<=d.meta0.length/\d.meta0.length<=i+g1/\Hid (wr.ownsRow w1.heap.size 9 1 u i (((d.meta0.take i).map (λx=>x.name)).map Value.string)/\((d.meta0.take i).map (λx=>x.name)).Nodup/\Zf w1 wr))
   case atStart=>exact⟨0,_,rfl,rfl,Om,Om,World.ownsRow_nil _ _ _ _,List.nodup_nil,Fl _⟩
   case round =>
    obtain⟨i,u,rfl,rfl,hi,hg,Z⟩:=hrel;by_cases ak:i<d.meta0.length
    ·have cx:(i:Int)<(d.meta0.length:Int):=Om;have cq:(0:Int)<=(i:Int):=Om;obtain⟨b,o,rfl,_,dl,p0,p1,_⟩:=Rn bs.out.2.2 i ak;have XX:=cd.out.then Z.out.2.2;have q0:=XX.cell p0 id;have q1:=XX.cell p1 id;obtain⟨Au,cu,eu⟩:=Zm Z.out.1;subst eu;have ax:((d.meta0.take i).map (λx=>x.name)).length=i:=by rw[List.length_map,List.length_take];omega
     have bv:strs.R wr (λ_=>True) ((d.meta0.take i).map (λx=>x.name)) [.slice Au i cu]:=by
      have h1:=Wx (w:=wr) (B:=w1.heap.size) (v:=.slice Au i cu) (xs:=(d.meta0.take i).map (λx=>x.name)) (by rw[ax];exact Z.out.1) (λx z=>by obtain⟨y,hy,rfl⟩:=List.mem_map.1 z;exact Zjf bs.out.2.2 y (List.mem_of_mem_take hy));exact strs.mono (λ_ _ _=>trivial) h1
     have C1:=Zme d.meta0[i].name (by rw[ax];exact strs.ext bv ((Fe wr).alloc (.cells #[.string d.meta0[i].name,.int .i64 d.meta0[i].place] 76)));rw[ax]at C1;have af:=Hd C1
     have HT:Hid ((d.meta0.take (i+1)).map (λx=>x.name)=(d.meta0.take i).map (λx=>x.name)++[d.meta0[i].name]):=by
      show _=_;rw[List.take_succ_eq_append_getElem ak,List.map_append];rfl
     have K1:=alloc_at wr (.cells #[.string d.meta0[i].name,.int .i64 d.meta0[i].place] 76);have X1:Zf wr (wr.alloc (.cells #[.string d.meta0[i].name,.int .i64 d.meta0[i].place] 76)):=(Fl wr).alloc _;have bt:=Hd (Ai1 K1 X1);have dj:w1.heap.size<=wr.heap.size:=Z.out.2.2.size;have c9:=Hd XX;clear XX p0 p1 ax bv C1 K1 X1;generalize d.meta0[i]=x at *
     cases ad:hasB ((d.meta0.take i).map (λx=>x.name)) x.name with
     | true =>
      rw[ad]at af;clear ad
      go_wp2_with (first
       | (go_at_call 33;refine af.out.mono ?_;rintro e w6 ⟨rfl,z⟩;have H6:=Hd (bt.out.2.then z);clear z af)
       | (go_at_call 34;refine (Nc _).mono ?_;rintro e w7 ⟨rfl,z⟩;have H7:=Hd (H6.out.then z);clear z)
       | fail)
      go_ret;exact⟨rfl,c9.out.then H7.out⟩
     | false =>
      rw[ad]at af;have bx:x.name ∉ (d.meta0.take i).map (λx=>x.name):=λe=>by rw[I3.2 e]at ad;cases ad
      have dc:=Hd bx;clear ad bx;obtain⟨is,cy,cw,cv,ct⟩:=info_parts V5
      go_wp2_with (first
       | (go_at_call 33;refine af.out.mono ?_;rintro e w6 ⟨rfl,z⟩;have qb:=cell_of (z.heap bt.out.1 id) 0 _ rfl;have dh:=lt_of_cell qb;have di:=z.size;have H6:=Hd (bt.out.2.then z);clear z af)
       | (at_builtin;refine wpList_append_own_at _ rfl _ _ 34 rfl w1.heap.size 9 is _ 1 16 Tryz.underlying34 cy cw cv ct rfl (by decide) (.slice Au i cu) i _ rfl ((Zr Z.out.1 H6.out (λ_ _ e=>e)).alloc _) ⟨w6.heap.size,0,none⟩ 1 1 [.string x.name] rfl rfl (Z2 _ _) (by intro x z;rw[List.mem_singleton.1 z];rfl) (by unfold maxLen;omega) Om (by have:=H6.out.size;rw[Za];omega) ?_;intro v' w7 aj al bc b8;have H7:=Hd (Ai1 aj (Ai1 al b8));clear aj al bc b8)
       | fail)
      go_roundg (d.meta0.length-(i+1))
      case measure=>omega
      case rel =>
       refine⟨i+1,v',rfl,by go_num,Om,Om,by rw[HT.out,List.map_append];exact H7.out.1,by rw[HT.out];exact List.nodup_append.2 ⟨Z.out.2.1,by simp,λa ha c hc=>by rw[List.mem_singleton.1 hc];exact λq=>dc.out (q▸ha)⟩,?_⟩;have X6:=Z.out.2.2.then H6.out;exact (X6.alloc _).trans ((Fr.refl (λj=>(Value.slice Au i cu).ownBlock=some j) _).grown H7.out.2.1 (λk e _=>e)) (λk hk e=>by have:=Yo (g:=k) Z.out.1 e;omega)
    ·obtain rfl:i=d.meta0.length:=Om
     have be:=Z.out.2.1;rw[List.take_length]at be;have bq:=Hd be;have ae:=Hd (cd.out.then Z.out.2.2);have a6:=Hd Z.out.2.2;clear be ak hi hg Z q0 ql;obtain⟨q0,q1,q2,q3,q4,q5,q6,q7,q8,q9,ag,ql⟩:=KC.out wr a6.out
     cases M:Uf d [s] with
     | false =>
      rw[M]at CG;clear M
      go_wp2_with (first
       | (go_at_call 9;refine (CG.out _ (ae.out.alloc _) _ _ (Zaw wr s hs)).mono ?_;rintro e w2 ⟨rfl,z⟩;have ab:=Hd ((ae.out.alloc _).then z);clear z)
       | (go_at_call 34;refine (Nc _).mono ?_;rintro e w3 ⟨rfl,z⟩;have c0:=Hd (ab.out.then z);clear z)
       | fail)
      go_ret;exact⟨rfl,c0.out⟩
     | true =>
      rw[M]at CG;obtain⟨⟨L,J⟩,hr,hd,hu,-⟩:=Cq M HF.out;have b0:=Ri hr;have a1:∀ m∈d.meta0,0<=m.place/\m.place<=100:=λm hm=>b0 m (List.mem_append_left _ hm)
      have az:(dM d).meta0.Perm d.meta0:=Zmq (λm hm=>(a1 m hm).1)
      have bz:d.meta0.length<=20:=by
       have:=M;unfold Uf at this;simp only[Bool.and_eq_true]at this;have hs:=this.2.2.2.1;unfold Xx at hs;simp only[Bool.and_eq_true,decide_eq_true_eq]at hs;exact hs.2.2.2.2.2.1
      obtain⟨b7,b6⟩:=Za1 b5 bz;have ay:(Mc d.meta0).length=d.meta0.length:=List.length_map ..
      have cl:Hid (∀ W,Zf w W->Calls Tryz.prog 35 #[.slice A6 d.meta0.length c6] W λe w'=>∃ v,e=.returned (.tuple #[v,.int .i64 0])/\RowK tMark 76 v (dM d).meta0 W.heap.size w'/\Zf W w'):=λW f=>by
       have:=Oq (Mc d.meta0) (by unfold Mc;rw[List.map_map];exact bq.out) (λm hm=>by obtain⟨x,z,rfl⟩:=List.mem_map.1 hm;have:=a1 x z;show x.place.toNat<=100;omega) (by rw[ay];omega) b7 b6 A6 c6 W (λj hj=>by
        have b1:j<d.meta0.length:=by rw[ay]at hj;exact hj
        obtain⟨b,o,e,_,_,p0,p1,_⟩:=Rn bs.out.2.2 j b1;refine⟨b,o,e,?_,?_⟩
        ·have:=f.cell p0 id;simpa [Mc] using this
        ·have:=f.cell p1 id;have e1:((d.meta0[j].place.toNat:Nat):Int)=d.meta0[j].place:=Int.toNat_of_nonneg (a1 _ (List.getElem_mem b1)).1;simp only[Mc,List.getElem_map];rw[e1]
         exact this)
       rw[ay]at this;exact this
      have am:Uf (dM d) [s]=true:=by rw[Zmk az];exact M
      have bf:Yb (dM d)=true:=by rw[Zmj az];exact HF.out
      obtain⟨-,ai,ao,aw,-⟩:=Cq am bf;obtain⟨TL,bi⟩:∃ TL,TL=Ww (Z3 d (Th d)) false (Rm G) s:=⟨_,rfl⟩;have CB:=Hd (λW (f:Zf w W) aa (ap:tDict.R W (λ_=>True) d aa)=>Ku d aa _ (Th d) (xOf d) (usL d) s L J G W ap (H.out.2.ext f) (H.out.2.ext f).u8 hd hr (Nv d aa _ W ap (H.out.2.ext f) hd hr hu) (λW v kd H U ku w' ha=>Zek M HF.out hb ha) (Zej hr hd _ _ (Ze1 hu) L J false (Rm G)) (Nu hr hd _ (Ew hu) L J false (Rm G)));have bu:=Hd (λW (f:Zf w W) aa (ap:tDict.R W (λ_=>True) (dM d) aa)=>Ku (dM d) aa _ (Th (dM d)) (xOf (dM d)) (usL (dM d)) s L J G W ap (H.out.2.ext f) (H.out.2.ext f).u8 ao ai (Nv (dM d) aa _ W ap (H.out.2.ext f) ao ai aw) (λW v kd H U ku w' ha=>Zek am bf hb ha) (Zej ai ao _ _ (Ze1 aw) L J false (Rm G)) (Nu ai ao _ (Ew aw) L J false (Rm G)));have e1:Ww (Z3 (dM d) (Th (dM d))) false (Rm G) s=Ww (Z3 d (Th d)) false (Rm G) s:=rfl;have e2:Kv (dM d) (usL (dM d))=Kv d (usL d):=funext λt=>Znw az bq.out (usL d) t
      have a7:=Nu hr hd _ (Ew hu) L J false (Rm G);rw[e1,e2,<- bi]at bu;rw[<- bi]at CB a7;clear M am bf L J hr hd hu ai ao aw bi HF b0 a1 bz b7 b6 ay az e1 e2 b5 hb;generalize usL d=us at *;obtain⟨n,bd⟩:∃ n,n=TL.length:=⟨_,rfl⟩;have HN:=Hd bd;rw[<- bd]at a7;clear bd
      go_upto_region 13 with (first
       | (go_at_call 9;refine (CG.out _ (ae.out.alloc _) _ _ (Zaw wr s hs)).mono ?_;rintro e w2 ⟨rfl,z⟩;have ab:=Hd (((Fe wr).alloc _).then z);clear z CG q0 q1 q2 q3 q4 q5 q6 q7 q8 q9 ag ql;obtain⟨q0,q1,q2,q3,q4,q5,q6,q7,q8,q9,ag,ql⟩:=KC.out _ (a6.out.then ab.out))
       | fail)
      go_upto_region 14 with fail
      obtain⟨xb,ah⟩:∃ xb,xb=w2.heap.size:=⟨_,rfl⟩;rw[<- ah];have K7:=λC=>alloc_at' w2 (.cells C 30) ah
      have X7:∀ o,Zf w2 (w2.alloc o):=λo=>(Fl w2).alloc o
      have S7:=λo=>Za w2 o
      generalize av:World.alloc w2 _=w7;have ch:=Hd (av▸K7 _);have au:=Hd (ab.out.then (av▸X7 _))
      have ce:Hid (w7.heap.size=xb+1):=by
       show _=_;rw[<- av,S7,ah]
      have bo:=Hd ah;clear ah K7 X7 S7 av q0 q1 q2 q3 q4 q5 q6 q7 q8 q9 ag ql;obtain⟨_,_,_,_,_,_,_,q7,_,_,_,ql⟩:=KC.out w7 (a6.out.then au.out)
      go_upto_region 15 with (first
       | (go_at_call 35;refine (cl.out _ (ae.out.then au.out)).mono ?_;rintro e w8 ⟨vm,rfl,ac,z⟩;obtain⟨Am,cm,em⟩:=ac.own;subst em;have Y:=Hd (Ai1 ac z);clear ac z cl q7 ql)
       | fail)
      have I:=Y.out.2.heap ch.out id;have x7:=cell_of I 7 _ rfl;have xf:=Zi I 7;have xl:=lt_of_cell x7;go_upto_region 16 with fail
      have F9:Fr (λj=>j=xb) w8 (w8.setCell ⟨xb,7,none⟩ (.slice Am (dM d).meta0.length cm)):=(Fl w8).setCell ⟨xb,7,none⟩ _ (λ_=>rfl);have B9:=Yx I 7 (.slice Am (dM d).meta0.length cm);have R9:=Y.out.1.keep F9 (λj hj _ e=>by have:=ce.out;omega);have ck:Hid ((w8.setCell ⟨xb,7,none⟩ (.slice Am (dM d).meta0.length cm)).heap[xb]?=some (.cells #[.slice A1 d.words.length c1,.int .i64 d.rows,.int .i64 d.cols,.slice A2 d.costs.length c2,.slice A3 d.classes.length c3,.slice A4 d.chars.length c4,.slice A5 d.unknown.length c5,.slice Am (dM d).meta0.length cm,.slice A7 d.unkMeta.length c7,.bool d.hasUser,.slice A8 d.user.length c8] 30 (0,0))):=B9;have X9:Zf w (w8.setCell ⟨xb,7,none⟩ (.slice Am (dM d).meta0.length cm)):=((ae.out.then au.out).then Y.out.2).trans F9 (λk hk e=>by have:=bo.out;have:=ae.out.size;have:=ab.out.size;omega);have b9:Zf wr (w8.setCell ⟨xb,7,none⟩ (.slice Am (dM d).meta0.length cm)):=(au.out.then Y.out.2).trans F9 (λk hk e=>by have:=bo.out;have:=ab.out.size;omega)
      have ci:Hid (tDict.R (w8.setCell ⟨xb,7,none⟩ (.slice Am (dM d).meta0.length cm)) (λ_=>True) (dM d) [.slice A1 d.words.length c1,.int .i64 d.rows,.int .i64 d.cols,.slice A2 d.costs.length c2,.slice A3 d.classes.length c3,.slice A4 d.chars.length c4,.slice A5 d.unknown.length c5,.slice Am (dM d).meta0.length cm,.slice A7 d.unkMeta.length c7,.bool d.hasUser,.slice A8 d.user.length c8]):=by
       obtain⟨A',c',e,k1,k2,ha⟩:=R9.slice;simp only[List.cons.injEq,Value.slice.injEq,and_true]at e;obtain⟨rfl,_,rfl⟩:=e;exact Ag (tDict.ext H.out.1 X9) k1 k2 ⟨ha.1,ha.2.imp id (λ⟨b,o,e,_,hl,hc⟩=>⟨b,o,e,trivial,hl,λi hi=>by obtain⟨cs,hr,hq⟩:=hc i hi;exact⟨cs,tMark.mono (λ_ _ _=>trivial) hr,hq⟩⟩)⟩
      have ar:=Hd X9;have cj:=ck;obtain⟨q0,q1,q2,q3,q4,q5,q6,q7,q8,q9,ag,ql⟩:=KC.out _ (a6.out.then b9);clear F9 B9 R9 X9 b9 Y ch au ce bo x7 xf xl I ck ab bq;generalize w8.setCell _ _=w9 at *
      go_upto_region 17 with (first
       | (go_at_call 24;refine (CB.out _ ar.out _ (tDict.ext H.out.1 ar.out)).mono ?_;rintro e dg ⟨va,rfl,bb,z⟩;obtain⟨Aa,ca,ea⟩:=bb.own;rw[List.length_map,<- HN.out]at ea;subst ea;have cg:=Hd bb;have V:=Hd z;clear z bb q0 q1 q2 q3 q4 q5 q6 q7 q8 q9 ag ql)
       | fail)
      have I:=V.out.heap cj.out id;have x0:=cell_of I 0 _ rfl;have x1:=cell_of I 1 _ rfl;have x2:=cell_of I 2 _ rfl;have x3:=cell_of I 3 _ rfl;have x4:=cell_of I 4 _ rfl;have x5:=cell_of I 5 _ rfl;have x6:=cell_of I 6 _ rfl;have x7:=cell_of I 7 _ rfl;have x8:=cell_of I 8 _ rfl;have x9:=cell_of I 9 _ rfl;have cn:=cell_of I 10 _ rfl;have xl:=lt_of_cell x0;clear I
      go_upto_region 18 with (first
       | (go_at_call 24;refine (bu.out _ (ar.out.then V.out) _ (tDict.ext ci.out V.out)).mono ?_;rintro e co ⟨vc,rfl,a8,z⟩;obtain⟨Ac,cc,ec⟩:=a8.own;rw[List.length_map,<- HN.out]at ec;subst ec;have cf:=Hd (Ai1 (cg.out.ext z) a8);have cb:=Hd ((ar.out.then V.out).then z);clear z a8 cg x0 x1 x2 x3 x4 x5 x6 x7 x8 x9 cn xl)
       | fail)
      clear CB bu ci cj ar V;go_wp2_with fail
      go_loopg [92] n (λg1 cp wr=>∃ i:Nat,cp=.int .i64 (i:Int)/\i<=n/\n<=i+g1/\Hid (Zf co wr))
      case atStart=>exact⟨0,rfl,Om,Om,Fl _⟩
      case round =>
       obtain⟨i,rfl,hi,hg,Z⟩:=hrel;by_cases ak:i<n
       ·have cx:(i:Int)<(n:Int):=Om;have cq:(0:Int)<=(i:Int):=Om;have b2:i<TL.length:=by rw[<- HN.out];exact ak
        obtain⟨bm,om,dn,rfl,lm,ac,b4⟩:=(cf.out.1.ext Z.out).elem i (by rw[List.length_map];exact b2);obtain⟨bn,on,dm,rfl,ln,bw,b3⟩:=(cf.out.2.ext Z.out).elem i (by rw[List.length_map];exact b2);rw[List.getElem_map]at ac bw;generalize TL[i]=t at *;obtain⟨vF,vP,vT,vY,rfl,hF,hP,bh,bg⟩:=ac;obtain⟨uF,uP,uT,uY,rfl,gF,gP,bl,bk⟩:=bw;obtain⟨AF,cF,rfl⟩:=Y2 hF;obtain⟨AP,cP,rfl⟩:=Y2 hP;obtain⟨AT,cT,rfl⟩:=Y2 bh;obtain⟨AY,cY,rfl⟩:=Y2 bg;obtain⟨EF,eF,rfl⟩:=Y2 gF;obtain⟨EP,eP,rfl⟩:=Y2 gP;obtain⟨ET,eT,rfl⟩:=Y2 bl;obtain⟨EY,eY,rfl⟩:=Y2 bk
        have rm:wr.rangeAt bm (om+i*20) [.slice AF _ cF,.slice AP _ cP,.string ((Zo d us t Ue).getD ⟨#[]⟩),.bool (Zo d us t Ue).isSome,.string ((Zo d us t Uc).getD ⟨#[]⟩),.bool (Zo d us t Uc).isSome,.string ((Zo d us t Ud).getD ⟨#[]⟩),.bool (Zo d us t Ud).isSome,.string ((Zo d us t Iw).getD ⟨#[]⟩),.bool (Zo d us t Iw).isSome,.string ((Zo d us t Pr).getD ⟨#[]⟩),.bool (Zo d us t Pr).isSome,.bool (Px us t).isSome,.slice AT _ cT,.slice AY _ cY,.string (Zcr t),.string (Yj t.cls),.string ((Zo d us t Ue).getD ⟨#[]⟩),.string ((Zo d us t Uc).getD ⟨#[]⟩),.string ((Zo d us t Ud).getD ⟨#[]⟩)]:=λj v hv=>by
         obtain⟨hj,e⟩:=Gl.1 hv;rw[<- e];exact b4 j hj
        have rn:wr.rangeAt bn (on+i*20) [.slice EF _ eF,.slice EP _ eP,.string ((Zo d us t Ue).getD ⟨#[]⟩),.bool (Zo d us t Ue).isSome,.string ((Zo d us t Uc).getD ⟨#[]⟩),.bool (Zo d us t Uc).isSome,.string ((Zo d us t Ud).getD ⟨#[]⟩),.bool (Zo d us t Ud).isSome,.string ((Zo d us t Iw).getD ⟨#[]⟩),.bool (Zo d us t Iw).isSome,.string ((Zo d us t Pr).getD ⟨#[]⟩),.bool (Zo d us t Pr).isSome,.bool (Px us t).isSome,.slice ET _ eT,.slice EY _ eY,.string (Zcr t),.string (Yj t.cls),.string ((Zo d us t Ue).getD ⟨#[]⟩),.string ((Zo d us t Uc).getD ⟨#[]⟩),.string ((Zo d us t Ud).getD ⟨#[]⟩)]:=λj v hv=>by
         obtain⟨hj,e⟩:=Gl.1 hv;rw[<- e];exact b3 j hj
        have X:=(Fe wr).drew;have CD:=Hd (J8 (Zo d us t Ue) (Zo d us t Uc) (Zo d us t Ud) (Zo d us t Iw) (Zo d us t Pr) (Px us t).isSome (Zcr t) (Yj t.cls) ((Zo d us t Ue).getD ⟨#[]⟩) ((Zo d us t Uc).getD ⟨#[]⟩) ((Zo d us t Ud).getD ⟨#[]⟩) (strs.ext hF X) (strs.ext gF X) (strs.ext hP X) (strs.ext gP X) (strs.ext bh X) (strs.ext bl X) (strs.ext bg X) (strs.ext bk X));have Y:=Hd (Ai1 rm rn);clear hF hP bh bg gF gP bl bk rm rn X b4 b3;generalize Zo d us t Ue=de at *;generalize Zo d us t Uc=xr at *;generalize Zo d us t Ud=xp at *;generalize Zo d us t Iw=xt at *;generalize Zo d us t Pr=xf at *;generalize Zcr t=s0 at *;generalize Yj t.cls=s1 at *;generalize (Px us t).isSome=qx at *;go_upto_region 23 with fail
        refine Ye 9 10 #[false,false,false,false,false,false,false,false,false,false] (λW=>Zf wr W) mixed rfl rfl ((Fl wr).drew) (λhS=>?_);refine WL.go [(0,95),(1,96),(2,97)] ?_;iterate 3 (refine WL.tk (v:=?_) rfl rfl Kr (λ_ _ _ h=>h) (Or.inl ⟨Rf,?_⟩) (by assumption) ?_;rotate_left;(focus (intro w bj;(try obtain sf:=bj);go_simp;(try with_reducible rfl)));simp only[Act.put,Sa,Sb1,Sc])
        refine WZ.take (i:=3) (dst:=some 98) (v:=_) rfl rfl Kr (λ_ _ _ h=>h) (yieldsIf_load_mid Rf 66 _ Rf bm (om+i*20) Rf _ _ (λW hW j v hv=>hW.cell (Y.out.1 j v hv) id) Tryz.underlying66 rfl Kr) (by assumption) ?_;simp only[Act.put,Sa,Sb1,Sc];refine WL.go [(4,99),(5,100),(6,101)] ?_;iterate 3 (refine WL.tk (v:=?_) rfl rfl Kr (λ_ _ _ h=>h) (Or.inl ⟨Rf,?_⟩) (by assumption) ?_;rotate_left;(focus (intro w bj;(try obtain sf:=bj);go_simp;(try with_reducible rfl)));simp only[Act.put,Sa,Sb1,Sc])
        refine WZ.take (i:=7) (dst:=some 102) (v:=_) rfl rfl Kr (λ_ _ _ h=>h) (yieldsIf_load_mid Rf 66 _ Rf bn (on+i*20) Rf _ _ (λW hW j v hv=>hW.cell (Y.out.2 j v hv) id) Tryz.underlying66 rfl Kr) (by assumption) ?_;simp only[Act.put,Sa,Sb1,Sc];refine WZ.one (i:=8) rfl Kr (by decide) (λK hK=>?_);go_simp;go_wp2_with (go_at_call 25;refine CD.out.mono ?_;rintro e wa ⟨rfl,cr⟩);refine hK.out _ _ (((Fl wr).drew).then cr) (λaq=>?_);clear hK K;try simp only[Act.put,Sa,Sb1,Sc]
        refine WZ.last rfl Kr Kr (λK hK=>?_);go_simp;refine hK.out _ _ ?_;clear hK K;go_wp2_with fail
        go_roundg (n-(i+1))
        case measure=>omega
        case rel=>exact⟨i+1,by go_num,Om,Om,Z.out.then aq⟩
       ·obtain rfl:i=n:=Om
        have db:=Hd (cb.out.then Z.out)
        go_wp2_with (first
         | (go_at_call 34;refine (Nc _).mono ?_;rintro e df ⟨rfl,z⟩;have cz:=Hd z;clear z)
         | fail)
        go_ret;exact⟨rfl,db.out.then cz.out⟩
  ·go_enter Tryz.func7,Tryz.ntmps7
   go_wp2_with (first
    | (go_at_call 8;refine (CF.out _ ((Fl w).alloc _)).mono ?_;rintro e w1 ⟨rfl,z⟩;have HX:=Hd z;clear z)
    | fail)
   go_ret;exact⟨rfl,((Fl w).alloc _).then HX.out⟩
end Go.Proofs.YtlfoalomaofejaaGreatDoor
