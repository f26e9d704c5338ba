/- What is fine is fit: the dictionary, the user's records, and each token of a text. -/
import Derived.Test.YtoliamijgmifkaaGreatDoorF43
import Derived.Test.YtoliamijgmifkaaGreatDoorF49
set_option linter.all false
namespace Go.Proofs.YtoliamijgmifkaaGreatDoor
open Go.RowKit DT SS TR LT
def usL(d:Zf):List GRec:=if d.hasUser then Lz d else []
def Jl(d:Zf)(us:List GRec)(x:Nd):Prop :=
 x.cls<=3/\(x.cls=1->∃ i:Nat,x.id=i/\i<(Zr d).length)/\(x.cls=2->∃ i:Nat,x.id=i/\i<(Ze d).length)/\(x.cls=3->∃ i:Nat,x.id=i/\i<us.length)
theorem Jd{d:Zf}{us:List GRec}{x:Nd}(h:x.cls=0):Jl d us x :=
 ⟨by omega,fun e=>absurd (h.symm.trans e) (by decide),fun e=>absurd (h.symm.trans e) (by decide),fun e=>absurd (h.symm.trans e) (by decide)⟩
theorem Zim{d:Zf}(hr:Zk d=true)(hd:DOk d)(uk:Option (List ByteArray))(us:List GRec)(hu:∀ ks,uk=some ks->Yt ks/\ks.length=us.length){s:ByteArray}(hs:Rd s):∀ x∈lat (Zu d uk) s,Jl d us x:=by
 intro x hx;unfold lat Vu at hx;rcases List.mem_cons.1 hx with rfl|hx
 ·exact Jd rfl
 rcases List.mem_cons.1 hx with rfl|hx
 ·exact Jd rfl
 obtain⟨k,hk,hx⟩:=List.mem_flatMap.1 hx;have hk:k<(Zd s).length:=by rw[<- Th];exact List.mem_range.1 hk
 have known:∀ x∈Ww (Zu d uk) s k (bp (Zd s) k),Jl d us x:=fun x hx=>by
  obtain⟨y,hy,rfl⟩:=List.mem_map.1 hx;obtain⟨hi,_⟩:=Qg (Q6 hr hd) hy;rw[List.length_map]at hi;exact⟨by show 1<=3;omega,fun _=>⟨y.1,rfl,hi⟩,fun e=>absurd (show (1:Nat)=2 from e) (by decide),fun e=>absurd (show (1:Nat)=3 from e) (by decide)⟩
 have user:∀ x∈V7 (Zu d uk) s k (bp (Zd s) k),Jl d us x:=fun x hx=>by
  cases uk with
  | none=>cases hx
  | some ks =>
   obtain⟨y,hy,rfl⟩:=List.mem_map.1 hx;obtain⟨hi,_⟩:=Qg (hu ks rfl).1 hy;rw[(hu ks rfl).2]at hi;exact⟨by show 3<=3;omega,fun e=>absurd (show (3:Nat)=1 from e) (by decide),fun e=>absurd (show (3:Nat)=2 from e) (by decide),fun _=>⟨y.1,rfl,hi⟩⟩
 have unk:∀ x∈Pp (Zu d uk) s (Zd s) k,Jl d us x:=fun x hx=>by
  have hm:=(Ou hr uk _ (Jg hr uk (Y4 ((Zd s).getD k [])))).2.2;obtain⟨i,hi,hx⟩:=List.mem_flatMap.1 hx;have hi:=List.mem_range.1 hi
  have key:∀ p l,Jl d us (Xc s k p 2 ((Zu d uk).unk.getD ((Zu d uk).idx ((Zu d uk).cat (Y4 ((Zd s).getD k [])))+i) default) ((Zu d uk).idx ((Zu d uk).cat (Y4 ((Zd s).getD k [])))+i) l):=fun p l =>
   ⟨by show 2<=3;omega,fun e=>absurd (show (2:Nat)=1 from e) (by decide),fun _=>⟨_,rfl,by omega⟩,fun e=>absurd (show (2:Nat)=3 from e) (by decide)⟩
  rcases List.mem_append.1 hx with hx|hx
  ·split at hx
   ·rw[List.mem_singleton.1 hx];exact key _ _
   ·cases hx
  ·rw[List.mem_singleton.1 hx];exact key _ _
 unfold Xe at hx
 split at hx
 ·rcases List.mem_append.1 hx with hx|hx
  ·exact known x hx
  ·split at hx
   ·exact unk x hx
   ·cases hx
 ·exact user x hx
structure Zkm(d:Zf)(us:List GRec)(x:Nd):Prop where
 cls:Jl d us x
 id:-1<=x.id/\x.id<=1000000
 pos:x.pos<=2000000
 start:x.start<=2000000
 size:x.surf.size<=1000
theorem Zfr{d:Zf}(hr:Zk d=true)(hd:DOk d)(uk:Option (List ByteArray))(us:List GRec)(hu:∀ ks,uk=some ks->Yt ks/\ks.length=us.length){s:ByteArray}(hs:Rd s)(hsz:s.size<=300)(mode:Int):∀ y∈Mb (Zu d uk) mode s,Zkm d us y:=by
 intro y hy;obtain⟨h1,h2⟩:=Zbl hr hd uk (fun ks e=>(hu ks e).1) hs hsz mode y hy;obtain⟨m,hm,hy⟩:=List.mem_flatMap.1 hy;have hlo:=Ox hr hd uk (fun ks e=>(hu ks e).1) hs hsz
 have t1:1<(lat (Zu d uk) s).length:=by
  have:lat (Zu d uk) s=Qc::Pj s::(List.range (Lib.runeCount s)).flatMap (Xe (Zu d uk) s (Zd s)):=rfl;rw[this,List.length_cons,List.length_cons];omega
 have hml:=Qy (Nb (Zu d uk) mode _ hlo.2 _) _ _ t1 m hm;have e:(lat (Zu d uk) s).getD m default=(lat (Zu d uk) s)[m]:=by rw[List.getD_eq_getElem?_getD,List.getElem?_eq_getElem hml];rfl
 rw[e]at hy;have hx:=hlo.1 _ (List.getElem_mem hml);have hc:=Zim hr hd uk us hu hs _ (List.getElem_mem hml);generalize (lat (Zu d uk) s)[m]=x at *;unfold Y2 at hy
 split at hy
 ·rw[List.mem_singleton.1 hy]at h1 h2⊢;exact⟨hc,hx.id,by have:=hx.pos;omega,h1,h2⟩
 ·rw[List.mem_reverse]at hy;obtain⟨i,hi,rfl⟩:=List.mem_map.1 hy;refine⟨Jd rfl,hx.id,?_,h1,h2⟩;show x.pos+bp (Zd x.surf) i<=2000000;have:=Nj x.surf i;have:=hx.size;have:=hx.pos;omega
theorem I8(om:Bool)(l:List Nd):∀ i,i<=l.length->∀ t∈Wy om l i,t.index<(Wy om l i).length/\∃ x∈l,t.id=x.id/\t.cls=x.cls/\t.pos=x.pos/\t.start=x.start/\t.fin=x.start+Lib.runeCount x.surf/\(t.surf=x.surf\/t.surf.size=3)
 | 0,_,t,ht=>by cases ht
 | i+1,hi,t,ht=>by
  have ih:=I8 om l i (by omega);unfold Wy R6 at ht⊢
  split at ht
  ·next h=>rw[if_pos h];exact ih t ht
  ·next h =>
   rw[if_neg h];rcases List.mem_append.1 ht with ht|ht
   ·obtain⟨a,b⟩:=ih t ht;refine⟨?_,b⟩;rw[List.length_append,List.length_singleton];omega
   ·have e:=List.mem_singleton.1 ht;subst e;refine⟨?_,l.getD i default,?_,rfl,rfl,rfl,rfl,rfl,?_⟩
    ·rw[List.length_append,List.length_singleton];exact Nat.lt_succ_self _
    ·rw[List.getD_eq_getElem?_getD,List.getElem?_eq_getElem (show i<l.length by omega)];exact List.getElem_mem (show i<l.length by omega)
    ·show (if _ then _ else _)=_\/(if _ then _ else _:ByteArray).size=3
     split
     ·right;split <;> rfl
     ·exact .inl rfl
theorem Zbd{d:Zf}(hr:Zk d=true)(hd:DOk d)(uk:Option (List ByteArray))(us:List GRec)(hu:∀ ks,uk=some ks->Yt ks/\ks.length=us.length){s:ByteArray}(hs:Rd s)(hsz:s.size<=300)(om:Bool)(mode:Int):∀ t∈Y3 (Zu d uk) om mode s,Vs d us t:=by
 intro t ht;have hl:=Qh hr hd uk (fun ks e=>(hu ks e).1) hs hsz om mode;obtain⟨h1,x,hx,e1,e2,e3,e4,e5,e6⟩:=I8 om _ _ (by rw[List.length_reverse];exact Nat.le_refl _) t ht;have h:=Zfr hr hd uk us hu hs hsz mode x (List.mem_reverse.1 hx);have hrc:=Lib.runeCount_le x.surf;obtain⟨c1,c2,c3,c4⟩:=h.cls;refine⟨by rw[e2];exact c1,by rw[e1,e2];exact c2,by rw[e1,e2];exact c3,by rw[e1,e2];exact c4,?_⟩;have hp:=h.pos;have hst:=h.start;have hsz:=h.size;refine⟨by unfold Y3 at hl;omega,by rw[e1];exact h.id,by omega,by omega,by omega,?_⟩;rcases e6 with e|e
 ·rw[e];exact hsz
 ·omega
theorem J7{s:ByteArray}:∀ {l:List ByteArray},s∈l->s.size+1<=total l
 | x::l,h=>by
  show s.size+1<=x.size+1+total l;rcases List.mem_cons.1 h with rfl|h
  ·omega
  ·have:=J7 h;omega
theorem L6{d:Zf}(h:Wk d=true):(∀ u∈d.words,(u.pos.length<=20/\u.contents.length<=20)/\(∀ s∈u.pos,s.size<=4000))/\(∀ u∈d.unknown,u.contents.length<=20)/\d.words.length<=60/\d.unknown.length<=30/\d.meta0.length<=20/\d.unkMeta.length<=20/\d.chars.length<=30/\d.user.length<=30/\total (Ua d)<=4000:=by
 unfold Wk at h;simp only[Bool.and_eq_true,List.all_eq_true,decide_eq_true_eq]at h;obtain⟨h1,h2,_,h4,h5,h6,h7,h8,_,h10,h11⟩:=h;refine⟨fun u hu=>?_,fun u hu=>?_,h4,h5,h6,h7,h8,h10,?_⟩
 ·have:=h1 u hu;unfold Vd Pc at this;simp only[Bool.and_eq_true,decide_eq_true_eq,List.map_cons,List.map_nil,List.sum_cons,List.sum_nil]at this;refine⟨⟨this.1,this.2.1⟩,fun s hs=>?_⟩;have h3:=J7 hs;omega
 ·have:=h2 u hu;unfold Td at this;simp only[Bool.and_eq_true,decide_eq_true_eq]at this;exact this.1
 ·unfold Pc at h11;simpa using h11
theorem Zbz{d:Zf}{s:ByteArray}(h:Sv d [s]=true)(hf:Yp d=true):(Rd s/\s.size<=300)/\Zk d=true/\DOk d/\Ff d/\usL d=(if d.hasUser then d.user else []):=by
 unfold Sv at h;simp only[Bool.and_eq_true,List.all_cons,List.all_nil,Bool.and_true,Bool.or_eq_true,Bool.not_eq_true']at h;obtain⟨h1,h2,h3,h4,h5⟩:=h;obtain⟨k1,k2,k3,k4,k5,k6,k7,k8,k9⟩:=L6 h4
 have hsum:Rb (d.words.map GWord.surface)+Rb (d.user.map GRec.text)<=4000:=by
  have e:total (Ua d)=Rb (d.words.map GWord.surface)+Rb (d.user.map GRec.text):=by
   unfold total Ua Rb;rw[List.map_append,List.sum_append,List.map_map,List.map_map];try rfl
  omega
 unfold Yp at hf;simp only[Bool.and_eq_true,List.all_eq_true]at hf;have hrec:=hf.2.2.2.2.2.2.2.2
 have hus:d.hasUser=true->Za2 d.user:=fun hu=>by
  rcases h3 with q|q
  ·rw[hu]at q;cases q
  ·refine Zhn q (fun u hu=>?_) (by omega) (by omega);have:=hrec u hu;unfold Wc at this;rw[Bool.and_eq_true]at this;simpa [Yi] using this.1
 have hid:d.hasUser=true->Lz d=d.user:=fun hu=>Ze3 Wu Id d.user (by
  have:=(hus hu).asc;rw[List.pairwise_map]at this
  exact this)
 refine⟨(Zh9 s).1 h1,h5,⟨by omega,fun u hu=>?_,by omega,fun u hu=>?_,by omega,by omega,by omega,by omega⟩,fun hu=>⟨by rw[hid hu];exact hus hu,fun u hm=>?_⟩,?_⟩
 ·have:=(k1 u hu).1;omega
 ·have:=k2 u hu;omega
 ·have:=hrec u hm;unfold Wc Wp at this;simp only[Bool.and_eq_true,Yi,decide_eq_true_eq]at this;omega
 ·unfold usL
  split
  ·next hu=>exact hid hu
  ·rfl
theorem Zbs{d:Zf}(h:Ff d):∀ ks,Tu d=some ks->Yt ks/\ks.length=(usL d).length:=by
 intro ks e;refine⟨Ho h ks e,?_⟩;unfold Tu at e;unfold usL
 split at e
 ·next hu=>cases e;rw[if_pos hu,List.length_map]
 ·cases e
theorem Zbe{d:Zf}{s:ByteArray}(h:Sv d [s]=true)(hf:Yp d=true)(hb:∀ u∈d.user,total u.tokens<=1048576/\total u.yomi<=1048576){om:Bool}{mode:Int}{W w':World}{v:Value}{kd H U ku:Nat}(ha:Bj d (Tu d) (xOf d) om mode s W v kd H U ku w'):Wm d (usL d) kd (Gn (Tu d) ku) H U w':=by
 obtain⟨_,hr,hd,hu,e⟩:=Zbz h hf
 have hs:Wk d=true:=by
  unfold Sv at h;simp only[Bool.and_eq_true]at h;exact h.2.2.2.1
 obtain⟨k1,k2,k3,_⟩:=L6 hs;have hm:=Pu hr;refine⟨ha.2.1,fun hne=>?_,by rw[Fv];omega,⟨fun u hu=>?_,fun u hu=>?_,fun u hm=>?_⟩,fun m h=>?_,fun m h=>?_⟩
 ·have hh:d.hasUser=true:=by
   unfold usL at hne
   split at hne
   ·assumption
   ·exact absurd rfl hne
  have hx:=ha.2.2.2.1;unfold xOf at hx;rw[hh]at hx;refine⟨ku,?_,?_⟩
  ·unfold Tu;rw[hh];rfl
  ·unfold usL;rw[hh];exact hx
 ·have hu:=(Zw Vl d.words).mem_iff.1 hu;obtain⟨⟨a,b⟩,c⟩:=k1 u hu;exact⟨by omega,by omega,fun s hs=>by have:=c s hs;omega⟩
 ·have hu:=(Zw Pe d.unknown).mem_iff.1 hu;have:=k2 u hu;omega
 ·rw[e]at hm
  split at hm
  ·next hh =>
   have h1:=(hu hh).1
   have hid:Lz d=d.user:=by
    unfold usL at e;rw[hh]at e;exact e
   rw[hid]at h1;exact⟨(h1.toks u hm).1,(h1.toks u hm).2,hb u hm⟩
  ·cases hm
 ·obtain⟨x,hx,rfl⟩:=List.mem_map.1 h;exact hm x (List.mem_append_left _ hx)
 ·obtain⟨x,hx,rfl⟩:=List.mem_map.1 h;exact hm x (List.mem_append_right _ hx)
end Go.Proofs.YtoliamijgmifkaaGreatDoor
