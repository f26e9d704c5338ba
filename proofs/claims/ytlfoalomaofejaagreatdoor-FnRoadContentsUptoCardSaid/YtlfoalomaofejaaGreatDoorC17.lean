/- What a search in the trie tell -/
import Derived.Test.YtlfoalomaofejaaGreatDoorC16
import Derived.Laws.IdiomRangeMap
import Derived.Lib.LazyBuf
set_option linter.all false
set_option maxRecDepth 100000
set_option maxHeartbeats 4000000
namespace Go.Proofs.YtlfoalomaofejaaGreatDoor
section
open Go.RowKit TR
section
variable{w w':World}{g n:Nat}{B C:F}
theorem Zgt.b(h:Zgt w g n B C){i:Nat}(hi:i<n):w.cell? ⟨g,i*2,none⟩=some (.int .i32 (B i)):=by
 obtain⟨cs,h1,_,h2⟩:=h;simp[World.cell?,h1,(h2 i hi).1]
theorem Zgt.c(h:Zgt w g n B C){i:Nat}(hi:i<n):w.cell? ⟨g,i*2+1,none⟩=some (.int .i32 (C i)):=by
 obtain⟨cs,h1,_,h2⟩:=h;simp[World.cell?,h1,(h2 i hi).2]
end
structure Told(cg:Nat)(cb:Array Value)(H:List (Nat×Nat))(g n:Nat)(B C:F)(I:Nat->World->Prop):Prop where
 enter:∀ args w,(callFunc cg args).run Tryz.prog w=.ok (.enter cg args) w
 arr:∀ k w,I k w->Zgt w g n B C
 draw:∀ k w m,I k w->I k (w.drewN m)
 call:∀ k (h:k<H.length) w,I k w->Calls Tryz.prog cg (#[.int .i64 (H[k].1:Int),.int .i64 (H[k].2:Int)]++cb) w λe w'=>e=.returned (.tuple #[])/\I (k+1) w'
def Zjt(H:List (Nat×Nat))(n:Nat)(B C:F)(T:Nat->Prop)(s:ByteArray)(I:Nat->World->Prop)(i q k:Nat)(w:World):Prop :=
 ∃ ks,Sub n B C T q ks/\NoZ ks/\H.drop k=V3 ks (s.data.toList.drop i) i/\I k w/\k<=H.length/\B q<=134217728/\∀ x∈ks,x.2<=1073741824
theorem Bq{n:Nat}{B C:F}{T:Nat->Prop}{q:Nat}{ks:List Key}(h:Sub n B C T q ks):∃ b:Nat,B q=(b:Int)/\1<=b/\(∀ c:UInt8,(b+c.toNat<n/\C (b+c.toNat)=(q:Int))↔∃ k∈ks,hd k=c) /\
  (∀ i,Vt ks=some i->B b = -(i:Int))/\∀ c:UInt8,c≠0->(∃ k∈ks,hd k=c)->Sub n B C T (b+c.toNat) (strip c ks):=by
 cases h with
 | mk _ _ b hT hb h1 hch hend hsub=>exact⟨b,hb,h1,hch,hend,hsub⟩
theorem Lj{H:List (Nat×Nat)}{k:Nat}(h:H.drop k=[])(hk:k<=H.length):k=H.length:=by
 have:=congrArg List.length h;simp at this;omega
theorem My{c:UInt8}{ks:List Key}{x:Key}(h:x∈strip c ks):∃ y∈ks,x.2=y.2:=by
 obtain⟨y,hy,e⟩:=List.mem_filterMap.1 h;refine⟨y,hy,?_⟩
 split at e
 ·cases e
 ·split at e
  ·injection e with e;rw[<- e]
  ·cases e
theorem Za3{ks:List Key}(hz:NoZ ks){x:Key}(hx:x∈ks)(h:hd x=0):x.1=[]:=by
 have:=hz x hx;unfold hd at h
 cases hs:x.1 with
 | nil=>rfl
 | cons a t =>
  rw[hs]at h this;have h':a=0:=h;exact absurd (h'▸List.mem_cons_self) this
theorem Zms{ks:List Key}{e m:Nat}(h:Vt ks=some e)(hm:∀ x∈ks,x.2<=m):e<=m:=by
 obtain⟨x,hx,rfl⟩:=Option.map_eq_some_iff.1 h;exact hm x (List.mem_of_find?_eq_some hx)
theorem Zb4(cg:Nat)(cb:Array Value)(g n:Nat)(B C:F)(T:Nat->Prop)(ks:List Key)(s:ByteArray)(I:Nat->World->Prop)(hI:Told cg cb (V3 ks s.data.toList 0) g n B C I)(hsub:Sub n B C T 0 ks)(hz:NoZ ks)(hn:n<=134217728)(hpos:0<n)
  (hb0:B 0<=134217728) (hb:∀ x,x<n->C x<=134217728 /\ -134217728<=C x) (hid:∀ x∈ks,x.2<=1073741824) (hs:s.size<=1000000) (w:World) (hw:I 0 w) :
  Calls Tryz.prog 235 #[.slice (some ⟨g,0,none⟩) n n,.string s,.func (.func cg) #[] cb] w λe w'=>e=.returned (.tuple #[])/\I (V3 ks s.data.toList 0).length w':=by
 obtain⟨H,hH⟩:∃ H,H=V3 ks s.data.toList 0:=⟨_,rfl⟩;rw[<- hH]at hI⊢;have eg:=hI.enter;have HI:=Hd hI;have HB:=Hd hb;have H0:Hid (Zjt H n B C T s I 0 0 0 w):=⟨ks,hsub,hz,by rw[hH];rfl,hw,Nat.zero_le _,hb0,hid⟩;clear hI hsub hz hw hH hb hb0 hid;go_enter Tryz.func235,Tryz.ntmps235
 go_wp2_with fail
 go_loopw [7,15] (λqv iv wr=>∃ (i q k:Nat),i<=s.size/\iv=.int .i64 i/\qv=.int .i64 q/\q<n/\Hid (Zjt H n B C T s I i q k wr)) (λ_ iv _=>s.size-(intOf iv).toNat)
 case atStart=>exact⟨0,0,0,Nat.zero_le _,rfl,rfl,hpos,H0⟩
 case round =>
  clear H0;obtain⟨i,q,k,hi,rfl,rfl,hqn,HS⟩:=hrel;by_cases hlt:i<s.size
  ·obtain⟨ksi,hsub,hz,hH,hw,hkH,hbq,hid⟩:=HS.out;obtain⟨b,hb,hb1,hch,hend,hs2⟩:=Bq hsub;have hA:=HI.out.arr _ _ hw;have hsz:i<s.data.size:=hlt
   have hcons:s.data.toList.drop i=s.data[i]::s.data.toList.drop (i+1):=by
    rw[List.drop_eq_getElem_cons (by rw[Array.length_toList];exact hsz)];rfl
   obtain⟨c,hc⟩:∃ c,c=s.data[i]:=⟨_,rfl⟩;rw[<- hc]at hcons;rw[hcons]at hH;have q1:=hA.b hqn;rw[hb]at q1;have hc256:=c.toNat_lt;have hb27:b<=134217728:=Om;have hci:s[i]=c:=hc.symm;have HC:=Hd hc;have HN:=Hd (Ai1 hsub (Ai1 hz (Ai1 hH (Ai1 hw (Ai1 hkH (Ai1 hch (Ai1 hs2 hid)))))));clear hc hcons hsub hz hH hw hkH hch hend hs2 hbq hA hb hid;by_cases h0:c=0
   ·have hc0:((c.toNat:Int)==0)=true:=by rw[h0];rfl
    go_wp2_with fail
    have hk:k=H.length:=Lj (by rw[HN.out.2.2.1,h0];simp[V3]) HN.out.2.2.2.2.1;exact bodyPost_ret (results_none rfl _ _ _) rfl ⟨rfl,hk▸HN.out.2.2.2.1⟩
   ·have hc0:((c.toNat:Int)==0)=false:=by
     simp only[beq_eq_false_iff_ne,ne_eq];intro e;exact h0 (UInt8.toNat_inj.1 (by simpa using e))
    by_cases hk:b+c.toNat<n/\C (b+c.toNat)=(q:Int)
    ·obtain⟨hq1,hq2⟩:=hk;obtain⟨hsub,hz,hH,hw,hkH,hch,hs2,hid⟩:=HN.out;have hex:=(hch c).1 ⟨hq1,hq2⟩;have hsub2:=hs2 c h0 hex;have hne:=(Nk h0).2 hex;obtain⟨b2,hb2,hb21,hch2,hend2,_⟩:=Bq hsub2;have hA:=HI.out.arr _ _ hw;have q2:=hA.c hq1;rw[hq2]at q2;have q3:=hA.b hq1;rw[hb2]at q3
     have hb2n:b2<=134217728:=by
      obtain⟨x,hx⟩:=List.exists_mem_of_ne_nil _ hne;have:=(hch2 (hd x)).2 ⟨x,hx,rfl⟩;omega
     have hz2:=hz.strip c
     have hid2:∀ x∈strip c ksi,x.2<=1073741824:=λx hx=>by
      obtain⟨y,hy,e⟩:=My hx;rw[e];exact hid y hy
     have hH2:H.drop k=((Vt (strip c ksi)).map λe=>(e,i+1)).toList++V3 (strip c ksi) (s.data.toList.drop (i+1)) (i+1):=by
      rw[hH];simp[V3,h0,hne]
     by_cases hk2:b2<n/\C b2=((b:Int)+(c.toNat:Int))
     ·obtain⟨hr1,hr2⟩:=hk2
      obtain⟨e,he⟩:=Qm.2 (by
       obtain⟨x,hx,hx0⟩:=(hch2 0).1 ⟨by simpa using hr1,by simp[hr2]⟩
       exact⟨x,hx,Za3 hz2 hx hx0⟩)
      have r1:=hA.c hr1;rw[hr2]at r1;have r2:=hA.b hr1;rw[hend2 e he]at r2;have heb:e<=1073741824:=Zms he hid2;rw[he]at hH2
      have hkl:k<H.length:=by
       rcases Nat.lt_or_ge k H.length with h|h
       ·exact h
       ·rw[List.drop_eq_nil_of_le h]at hH2;simp at hH2
      have hHk:H[k]=(e,i+1)/\H.drop (k+1)=V3 (strip c ksi) (s.data.toList.drop (i+1)) (i+1):=by
       rw[List.drop_eq_getElem_cons hkl]at hH2;simp only[Option.map_some,Option.toList_some,List.cons_append,List.nil_append,List.cons.injEq]at hH2;exact hH2
      have hcall:∀ m,Calls Tryz.prog cg (#[.int .i64 (e:Int),.int .i64 ((i:Int)+1)]++cb) (wr.drewN m) λe w'=>e=.returned (.tuple #[])/\I (k+1) w':=λm=>by
       have:=HI.out.call k hkl (wr.drewN m) (HI.out.draw k wr m hw);rw[hHk.1]at this;exact this
      have HCC:=Hd hcall;have HK:=Hd (Ai1 hsub2 (Ai1 hz2 (Ai1 hHk.2 (Ai1 hid2 (Ai1 hkl hb2)))));clear hcall hsub hz hH hw hkH hch hs2 hid hex hsub2 hne hb2 hb21 hch2 hend2 hA hz2 hid2 hH2 he hHk HN HS;go_upto_region 7 with fail
      go_quiet (fail)
      go_wp2_with (refine (HCC.out _).mono ?_;rintro ee w7 ⟨rfl,hx⟩;have HX:=Hd hx;clear hx)
      go_roundw
      case rel =>
       obtain⟨k1,k2,k3,k4,k5,k6⟩:=HK.out;exact⟨i+1,b+c.toNat,k+1,Om,by go_num,by go_num,hq1,_,k1,k2,k3,HX.out,k5,by rw[k6];omega,k4⟩
      case measure=>simp[intOf];omega
     ·have hnone:Vt (strip c ksi)=none:=by
       cases he:Vt (strip c ksi) with
       | none=>rfl
       | some e =>
        exfalso;obtain⟨x,hx,hx0⟩:=Qm.1 ⟨e,he⟩;have:=(hch2 0).2 ⟨x,hx,by simp[hd,hx0]⟩;exact hk2 ⟨by simpa using this.1,by have:=this.2;simp at this;omega⟩
      rw[hnone]at hH2;simp only[Option.map_none,Option.toList_none,List.nil_append]at hH2;have HK:=Hd (Ai1 hsub2 (Ai1 hz2 (Ai1 hH2 (Ai1 hid2 (Ai1 hkH (Ai1 hb2 hw))))));by_cases hr1:b2<n
      ·have r1:=hA.c hr1;obtain⟨hc1,hc2⟩:=HB.out b2 hr1;obtain⟨x,hx⟩:∃ x,x=C b2:=⟨_,rfl⟩;rw[<- hx]at r1 hc1 hc2
       have hxe:(x==((b:Int)+(c.toNat:Int)))=false:=by
        rw[beq_eq_false_iff_ne,hx];exact λe=>hk2 ⟨hr1,e⟩
       clear hsub hz hH hw hkH hch hs2 hid hex hsub2 hne hb2 hb21 hch2 hend2 hA hz2 hid2 hH2 hnone HN HS hk2 hx;go_upto_region 7 with fail
       go_quiet (fail)
       go_wp2_with fail
       go_roundw
       case rel =>
        obtain⟨k1,k2,k3,k4,k5,k6,k7⟩:=HK.out;exact⟨i+1,b+c.toNat,k,Om,by go_num,by go_num,hq1,_,k1,k2,k3,HI.out.draw _ _ _ k7,k5,by rw[k6];omega,k4⟩
       case measure=>simp[intOf];omega
      ·clear hsub hz hH hw hkH hch hs2 hid hex hsub2 hne hb2 hb21 hch2 hend2 hA hz2 hid2 hH2 hnone HN HS hk2;go_upto_region 7 with fail
       go_quiet (fail)
       go_wp2_with fail
       go_roundw
       case rel =>
        obtain⟨k1,k2,k3,k4,k5,k6,k7⟩:=HK.out;exact⟨i+1,b+c.toNat,k,Om,by go_num,by go_num,hq1,_,k1,k2,k3,HI.out.draw _ _ _ k7,k5,by rw[k6];omega,k4⟩
       case measure=>simp[intOf];omega
    ·obtain⟨hsub,hz,hH,hw,hkH,hch,hs2,hid⟩:=HN.out
     have hnil:strip c ksi=[]:=by
      by_cases e:strip c ksi=[]
      ·exact e
      ·exact absurd ((hch c).2 ((Nk h0).1 e)) hk
     have hkl:k=H.length:=Lj (by rw[hH];simp[V3,hnil]) hkH;have HK:=Hd (Ai1 hw hkl);by_cases hq1:b+c.toNat<n
     ·have q2:=(HI.out.arr _ _ hw).c hq1;obtain⟨hc1,hc2⟩:=HB.out _ hq1;obtain⟨x,hx⟩:∃ x,x=C (b+c.toNat):=⟨_,rfl⟩;rw[<- hx]at q2 hc1 hc2
      have hxe:(x != (q:Int))=true:=by
       rw[bne_iff_ne,hx];exact λe=>hk ⟨hq1,e⟩
      clear hsub hz hH hw hkH hch hs2 hid hnil hkl HN HS hk hx;go_upto_region 7 with fail
      go_quiet (fail)
      go_wp2_with fail
      go_end0
      exact⟨rfl,HK.out.2▸HI.out.draw _ _ _ HK.out.1⟩
     ·clear hsub hz hH hw hkH hch hs2 hid hnil hkl HN HS hk;go_upto_region 7 with fail
      go_quiet (fail)
      go_wp2_with fail
      go_end0
      exact⟨rfl,HK.out.2▸HI.out.draw _ _ _ HK.out.1⟩
  ·obtain⟨ksi,hsub,hz,hH,hw,hkH,hbq,hid⟩:=HS.out;have hkl:k=H.length:=Lj (by rw[hH,List.drop_eq_nil_of_le (by rw[Array.length_toList];show s.size<=i;omega)];rfl) hkH;obtain rfl:i=s.size:=Om
   clear hsub hz hH hbq hid HS;go_wp2_with fail
   go_end0
   exact⟨rfl,hkl▸hw⟩
end
section
open Go.RowKit TR
structure Zmb(cg:Nat)(cb:Array Value)(L:List (Nat×Nat))(J:(Nat->Prop)->Nat->World->Prop):Prop where
 enter:∀ args w,(callFunc cg args).run Tryz.prog w=.ok (.enter cg args) w
 ext:∀ O k w w',J O k w->Zf w w'->J O k w'
 call:∀ O k (h:k<L.length) w,J O k w->Calls Tryz.prog cg (#[.int .i64 (L[k].1:Int),.int .i64 (L[k].2:Int)]++cb) w λe w'=>e=.returned (.tuple #[])/\∃ O',J O' (k+1) w'/\(∀ b,O' b->O b\/w.heap.size<=b)/\Fr O w w'
structure Uz(g n mb b1 b2:Nat)(ws:List ByteArray)(cg:Nat)(cb:Array Value)(O:Nat->Prop)(w:World):Prop where
 idx:U5 w g n mb ws
 h1:w.heap[b1]?=some (.cells #[.slice (some ⟨g,0,none⟩) n n,.map (some mb)] 219 (0,0))
 h2:w.heap[b2]?=some (.cells #[.func (.func cg) #[] cb] 333 (0,0))
 no:¬ O g/\¬ O mb/\¬ O b1/\¬ O b2
theorem U5.lt{w:World}{g n mb:Nat}{ws:List ByteArray}(h:U5 w g n mb ws):g<w.heap.size/\mb<w.heap.size:=by
 obtain⟨⟨B,C,T,⟨cs,a1,a2⟩,a3⟩,l,b1,b2⟩:=h;exact⟨(Gs1.1 a1).1,b1.lt⟩
theorem Uz.ext{g n mb b1 b2:Nat}{ws:List ByteArray}{cg:Nat}{cb:Array Value}{O:Nat->Prop}{w w':World}(h:Uz g n mb b1 b2 ws cg cb O w)(f:Zf w w'):Uz g n mb b1 b2 ws cg cb O w' :=
 ⟨h.idx.keep f id id,f.heap h.h1 id,f.heap h.h2 id,h.no⟩
theorem Uz.step{g n mb b1 b2:Nat}{ws:List ByteArray}{cg:Nat}{cb:Array Value}{O O':Nat->Prop}{w w':World}(h:Uz g n mb b1 b2 ws cg cb O w)(f:Fr O w w')(ho:∀ b,O' b->O b\/w.heap.size<=b):Uz g n mb b1 b2 ws cg cb O' w':=by
 have l1:=h.idx.lt;have l2:=(Gs1.1 h.h1).1;have l3:=(Gs1.1 h.h2).1;obtain⟨n1,n2,n3,n4⟩:=h.no;exact⟨h.idx.keep f n1 n2,f.heap h.h1 n3,f.heap h.h2 n4,λe=>(ho _ e).elim n1 Om,λe=>(ho _ e).elim n2 Om,λe=>(ho _ e).elim n3 Om,λe=>(ho _ e).elim n4 Om⟩
theorem Zi7(g n mb b1 b2 cg:Nat)(cb:Array Value)(ws:List ByteArray)(L:List (Nat×Nat))(J:(Nat->Prop)->Nat->World->Prop)(hJ:Zmb cg cb L J)(O:Nat->Prop)(k l:Nat)(r:Dz)(hr:r∈runs ws)(w:World)(hw:J O k w)(hb:Uz g n mb b1 b2 ws cg cb O w)
  (hL:∀ j,j<=r.2.2->L[k+j]?=some (r.2.1+j,l)) (hlim:r.2.1+r.2.2<=10000) :
  Calls Tryz.prog 236 #[.int .i64 (r.2.1:Int),.int .i64 (l:Int),.pointer (some ⟨b1,0,none⟩),.pointer (some ⟨b2,0,none⟩)] w λe w'=>e=.returned (.tuple #[])/\∃ O',J O' (k+r.2.2+1) w'/\Uz g n mb b1 b2 ws cg cb O' w'/\(∀ b,O' b->O b\/w.heap.size<=b)/\Fr O w w':=by
 obtain⟨a,f,e⟩:=r;simp only at hL hlim⊢;obtain⟨l0,hm,hd⟩:=hb.idx.dup
 have hlk:(look l0 ((f:Nat):Int)).getD (.int .i32 0)=.int .i32 (e:Int):=by
  have:=hd.1 (a,f,e) hr;simp only at this;rw[this];by_cases h0:e=0
  ·subst h0;rfl
  ·simp[h0]
 have c1:=Qo hb.h1;have c2:w.cell? ⟨b2,0,none⟩=some (.func (.func cg) #[] cb):=by simp[World.cell?,hb.h2]
 have eg:=hJ.enter;have HJ:=Hd hJ;have HM:=Hd hm;have H0:=Hd (Ai1 hw (Ai1 hb hL));clear hJ hm hd hw hb hL;go_enter Tryz.func236,Tryz.ntmps236
 go_wp2_with (first
  | (at_lookup;refine Zk rfl _ _ false rfl Sw Tryz.underlying100 Tryz.underlying21 (R7 _) rfl HM.out (f:Int) rfl ?_;simp only[Bool.false_eq_true,if_false,hlk])
  | fail)
 go_loopw [7] (λv wr=>∃ j:Nat,j<=e+1/\v=.int .i64 ((f:Int)+(j:Int))/\Hid (∃ O',J O' (k+j) wr/\Uz g n mb b1 b2 ws cg cb O' wr/\(∀ b,O' b->O b\/w.heap.size<=b)/\Fr O w wr)) (λv _=>(f+e+1)-(intOf v).toNat)
 case atStart=>exact⟨0,Nat.zero_le _,by simp,O,H0.out.1,H0.out.2.1,λb h=>.inl h,Fl _⟩
 case round =>
  obtain⟨j,hj,rfl,HR⟩:=hrel;by_cases hlt:j<e+1
  ·obtain⟨O',hw,hb,ho,hF⟩:=HR.out;have c3:wr.cell? ⟨b2,0,none⟩=some (.func (.func cg) #[] cb):=(by simp[World.cell?,hb.h2]);have hLj:=H0.out.2.2 j Om;obtain⟨hkl,hLe⟩:=Gl.1 hLj;have hcall:=HJ.out.call O' (k+j) hkl wr hw;rw[hLe]at hcall
   have hcall':Calls Tryz.prog cg (#[.int .i64 ((f:Int)+(j:Int)),.int .i64 (l:Int)]++cb) wr λe w'=>e=.returned (.tuple #[])/\∃ O',J O' (k+(j+1)) w'/\Uz g n mb b1 b2 ws cg cb O' w'/\(∀ b,O' b->O b\/w.heap.size<=b)/\Fr O w w':=by
    refine Calls.mono (hcall) ?_;rintro ee w' ⟨rfl,O2,h1,h2,h3⟩;exact⟨rfl,O2,h1,hb.step h3 h2,λb hb'=>(h2 b hb').elim (ho b) (λh=>.inr (Nt hF.size h)),hF.trans h3 (λq hq hq'=>(ho q hq').elim id Om)⟩
   have HC:=Hd hcall';have hltI:(j:Int)<(e:Int)+1:=Om;clear hw hb ho hF hLj hcall hcall' hLe;go_wp2_with (refine HC.out.mono ?_;rintro ee w7 ⟨rfl,hx⟩;have HX:=Hd hx;clear hx)
   go_roundw
   case rel=>exact⟨j+1,Om,by go_num,HX⟩
   case measure=>simp[intOf];omega
  ·obtain rfl:j=e+1:=Om
   go_wp2_with fail
   go_end0
   obtain⟨O',hw,hb,ho,hF⟩:=HR.out;exact⟨rfl,O',hw,hb,ho,hF⟩
end
section
open Go.RowKit TR
def ex(R:List Dz)(p:Nat×Nat):List (Nat×Nat):=match R.find? (λr=>decide (r.2.1=p.1)) with|some r=>(List.range' r.2.1 (r.2.2+1)).map λx=>(x,p.2)|none=>[]
def off(R:List Dz)(H:List (Nat×Nat))(m:Nat):Nat:=((H.take m).flatMap (ex R)).length
theorem Zk5(R:List Dz)(H:List (Nat×Nat)):off R H H.length=(H.flatMap (ex R)).length:=by rw[off,List.take_length]
theorem Zh5(R:List Dz)(H:List (Nat×Nat)){m:Nat}(h:m<H.length):off R H (m+1)=off R H m+(ex R H[m]).length:=by
 unfold off;rw[List.take_succ_eq_append_getElem h,List.flatMap_append,List.length_append];simp
theorem Zlm(R:List Dz)(H:List (Nat×Nat)){m:Nat}(h:m<H.length)(j:Nat)(hj:j<(ex R H[m]).length):(H.flatMap (ex R))[off R H m+j]?=(ex R H[m])[j]?:=by
 have e:H.flatMap (ex R)=(H.take m).flatMap (ex R)++(ex R H[m]++(H.drop (m+1)).flatMap (ex R)):=by
  conv=>lhs;rw[<- List.take_append_drop m H,List.drop_eq_getElem_cons h]
  rw[List.flatMap_append,List.flatMap_cons]
 rw[e];unfold off;rw[List.getElem?_append_right Om,Nat.add_sub_cancel_left,List.getElem?_append_left hj]
theorem Zaw:∀ (t:List UInt8) (ks:List Key) (i:Nat) (p:Nat×Nat),p∈V3 ks t i->(∃ k∈ks,k.2=p.1)/\p.2<=i+t.length
 | [],ks,i,p,h=>by simp[V3]at h
 | c::t,ks,i,p,h=>by
  unfold V3 at h
  split at h
  ·cases h
  ·split at h
   ·cases h
   ·rcases List.mem_append.1 h with h|h
    ·cases he:Vt (strip c ks) with
     | none=>rw[he]at h;simp at h
     | some e =>
      rw[he]at h;simp at h;subst h;obtain⟨x,hx,hxe⟩:=Option.map_eq_some_iff.1 he;obtain⟨y,hy,e'⟩:=My (List.mem_of_find?_eq_some hx);exact⟨⟨y,hy,e'.symm.trans hxe⟩,by simp⟩
    ·obtain⟨⟨x,hx,hxe⟩,hl⟩:=Zaw t _ _ p h;obtain⟨y,hy,e'⟩:=My hx;exact⟨⟨y,hy,e'.symm.trans hxe⟩,by simp at hl⊢;omega⟩
def told(ws:List ByteArray)(s:ByteArray):List (Nat×Nat):=(V3 (Ui ws) s.data.toList 0).flatMap (ex (runs ws))
theorem Zi3(g n mb cg:Nat)(cb:Array Value)(ws:List ByteArray)(s:ByteArray)(J:(Nat->Prop)->Nat->World->Prop)(hJ:Zmb cg cb (told ws s) J)(O:Nat->Prop)(w:World)(hw:J O 0 w)(hidx:U5 w g n mb ws)(hO:∀ b,O b->b<w.heap.size)(hno:¬ O g/\¬ O mb)
  (ho:Rm ws (runs ws)) (hlen:ws.length<=10000) (hz:∀ x∈ws,(0:UInt8) ∉ x.data.toList) (hs:s.size<=1000000) :
  Calls Tryz.prog 191 #[.agg #[.slice (some ⟨g,0,none⟩) n n,.map (some mb)],.string s,.func (.func cg) #[] cb] w λe w'=>e=.returned (.tuple #[])/\∃ O',J O' (told ws s).length w'/\(∀ b,O' b->O b\/w.heap.size<=b)/\Fr O w w':=by
 obtain⟨⟨B,C,T,hA,hpos,hn,hsub,hB0,hC⟩,hdup⟩:=id hidx;have hlt:=hidx.lt
 have hI:Told 236 #[.pointer (some ⟨w.heap.size,0,none⟩),.pointer (some ⟨w.heap.size+1,0,none⟩)] (V3 (Ui ws) s.data.toList 0) g n B C
   (λm wr=>∃ O',J O' (off (runs ws) (V3 (Ui ws) s.data.toList 0) m) wr/\Uz g n mb w.heap.size (w.heap.size+1) ws cg cb O' wr/\(∀ b,O' b->O b\/w.heap.size<=b)/\Fr O w wr):=by
  refine⟨λargs w=>Kr,?_,?_,?_⟩
  ·rintro k wr ⟨O',_,_,_,hF⟩;obtain⟨cs,a1,a2⟩:=hA;exact⟨cs,hF.heap a1 hno.1,a2⟩
  ·rintro k wr m ⟨O',h1,h2,h3,hF⟩;have hx:Zf wr (wr.drewN m):=(Fl _).drewN m;exact⟨O',hJ.ext _ _ _ _ h1 hx,h2.ext hx,h3,hF.ext hx⟩
  ·rintro m hm wr ⟨O',h1,h2,h3,hF⟩;obtain⟨⟨x,hx,hxe⟩,hl⟩:=Zaw _ _ _ _ (List.getElem_mem hm);obtain⟨r0,hr0,rfl⟩:=List.mem_map.1 hx
   obtain⟨r,hr⟩:∃ r,(runs ws).find? (λr=>decide (r.2.1=((V3 (Ui ws) s.data.toList 0)[m]).1))=some r:=by
    cases hf:(runs ws).find? (λr=>decide (r.2.1=((V3 (Ui ws) s.data.toList 0)[m]).1)) with
    | some r=>exact⟨r,rfl⟩
    | none =>
     have:=List.find?_eq_none.1 hf r0 hr0;simp at this;exact absurd hxe this
   have hre:r.2.1=((V3 (Ui ws) s.data.toList 0)[m]).1:=(by simpa using List.find?_some hr);have hrm:=List.mem_of_find?_eq_some hr
   have hex:ex (runs ws) (V3 (Ui ws) s.data.toList 0)[m]=(List.range' r.2.1 (r.2.2+1)).map λx=>(x,((V3 (Ui ws) s.data.toList 0)[m]).2):=by
    unfold ex;rw[hr]
   have hlr:=ho.lt r hrm
   have hc:=Zi7 g n mb w.heap.size (w.heap.size+1) cg cb ws (told ws s) J hJ O' (off (runs ws) (V3 (Ui ws) s.data.toList 0) m) ((V3 (Ui ws) s.data.toList 0)[m]).2 r hrm wr h1 h2 (λj hj=>by
    have:=Zlm (runs ws) (V3 (Ui ws) s.data.toList 0) hm j (by rw[hex];simp;omega);unfold told;rw[this,hex]
    simp[hj,Nat.lt_succ_of_le hj]) Om
   rw[hre]at hc;refine Calls.mono hc ?_;rintro e w' ⟨rfl,O2,k1,k2,k3,k4⟩;refine⟨rfl,O2,?_,k2,λb hb=>(k3 b hb).elim (h3 b) (λh=>.inr (Nt hF.size h)),hF.trans k4 (λj hj hj'=>(h3 j hj').elim id Om)⟩;rw[Zh5 _ _ hm,hex];simpa [Nat.add_assoc] using k1
 have hzk:NoZ (Ui ws):=by
  intro x hx;obtain⟨r,hr,rfl⟩:=List.mem_map.1 hx;exact hz _ ((ho.mem _).2 ⟨r,hr,rfl⟩)
 have hidk:∀ x∈Ui ws,x.2<=1073741824:=by
  intro x hx;obtain⟨r,hr,rfl⟩:=List.mem_map.1 hx;have:=ho.lt r hr;simp only;omega
 have hrun:=λW (h:_)=>Zb4 _ _ g n B C T (Ui ws) s _ hI hsub hzk hn hpos hB0 hC hidk hs W h
 have hE:∀ o1 o2,Zf w ((w.alloc o1).alloc o2):=λo1 o2=>((Fl _).alloc _).alloc _
 have hst:∀ o1 o2,o1=Obj.cells #[.slice (some ⟨g,0,none⟩) n n,.map (some mb)] 219->o2=Obj.cells #[.func (.func cg) #[] cb] 333->∃ O',J O' (off (runs ws) (V3 (Ui ws) s.data.toList 0) 0) ((w.alloc o1).alloc o2)/\Uz g n mb w.heap.size (w.heap.size+1) ws cg cb O' ((w.alloc o1).alloc o2)/\(∀ b,O' b->O b\/w.heap.size<=b)/\Fr O w ((w.alloc o1).alloc o2):=by
  intro o1 o2 e1 e2;refine⟨O,hJ.ext _ _ _ _ hw (hE _ _),⟨hidx.keep (hE _ _) id id,?_,?_,hno.1,hno.2,λe=>by have:=hO _ e;omega,λe=>by have:=hO _ e;omega⟩,λb h=>.inl h,((Fl _).alloc _).alloc _⟩
  ·rw[alloc_old _ _ (by rw[Za];omega),alloc_at,e1]
  ·rw[alloc_at' _ _ (by rw[Za]),e2]
 have HR:=Hd (Ai1 hrun hst);clear hrun hst hI hJ hw hidx hO hno ho hz hA hsub hB0 hC hdup hzk hidk hE;go_enter Tryz.func191,Tryz.ntmps191
 go_wp2_with (first|(go_at_call 235;refine (HR.out.1 _ (HR.out.2 _ _ rfl rfl)).mono ?_;rintro e w7 ⟨rfl,hx⟩;have HX:=Hd hx;clear hx)|fail)
 go_end0
 obtain⟨O',h1,_,h3,h4⟩:=HX.out;rw[Zk5]at h1;exact⟨rfl,O',h1,h3,h4⟩
end
section
open TR
def fnd(ks:List Key)(u:List UInt8):Option Nat:=(ks.find? λk=>decide (k.1=u)).map (·.2)
theorem Zll(ks:List Key):fnd ks []=Vt ks:=by
 unfold fnd Vt;congr 2;funext k;cases k.1<;>rfl
theorem P3(c:UInt8)(u:List UInt8):∀ ks:List Key,fnd (strip c ks) u=fnd ks (c::u)
 | []=>rfl
 | (s,e)::ks=>by
  have ih:=P3 c u ks;unfold fnd at ih⊢;rw[Uc]
  match s with
  | [] =>
   simp only[List.nil_append];rw[ih,List.find?_cons];simp
  | a::t =>
   simp only;by_cases h:a=c
   ·subst h;rw[if_pos rfl,List.singleton_append,List.find?_cons,List.find?_cons];by_cases h2:t=u
    ·simp[h2]
    ·simp only[List.cons.injEq,true_and,h2,decide_false];exact ih
   ·rw[if_neg h,List.nil_append,ih,List.find?_cons];simp[h]
theorem Ziw{ks:List Key}{u:List UInt8}(h:∀ k∈ks,k.1≠u):fnd ks u=none:=by
 unfold fnd;rw[List.find?_eq_none.2 (λk hk=>by simpa using h k hk)];rfl
theorem Zd7:∀ (t:List UInt8) (ks:List Key) (i:Nat),NoZ ks->V3 ks t i=(List.range t.length).flatMap λj=>((fnd ks (t.take (j+1))).map λe=>(e,i+j+1)).toList
 | [],ks,i,_=>by simp[V3]
 | c::t,ks,i,hz=>by
  unfold V3;by_cases h0:c=0
  ·rw[if_pos h0];symm;rw[List.flatMap_eq_nil_iff];intro j _;rw[Ziw (λk hk e=>?_)]
   ·rfl
   ·have:=hz k hk;rw[e,h0]at this;simp at this
  ·rw[if_neg h0];by_cases hn:strip c ks=[]
   ·rw[if_pos hn];symm;rw[List.flatMap_eq_nil_iff];intro j _
    have:fnd ks ((c::t).take (j+1))=none:=by
     rw[List.take_succ_cons,<- P3,hn];rfl
    rw[this];rfl
   ·rw[if_neg hn,Zd7 t (strip c ks) (i+1) (hz.strip c),List.length_cons,List.range_succ_eq_map,List.flatMap_cons,List.flatMap_map];congr 1
    ·rw[List.take_succ_cons,List.take_zero,<- P3,Zll]
    ·congr 1;funext j;rw[List.take_succ_cons,<- P3];congr 2;funext e;simp only[Prod.mk.injEq,true_and];omega
theorem Ziv{ws:List ByteArray}{R:List Dz}(u:List UInt8):fnd (R.map λr=>(r.1.data.toList,r.2.1)) u=(R.find? λr=>decide (r.1.data.toList=u)).map (·.2.1):=by
 unfold fnd;rw[List.find?_map,Option.map_map];rfl
def Jz(ws:List ByteArray)(s:ByteArray):List (Nat×Nat):=(List.range s.size).flatMap λj=>(Ib ws (s.extract 0 (j+1))).map λx=>(x,j+1)
theorem extract_toList(s:ByteArray)(n:Nat):(s.extract 0 n).data.toList=s.data.toList.take n:=by
 rw[ByteArray.data_extract,Array.toList_extract];simp
theorem Zdo{ws:List ByteArray}(ho:Rm ws (runs ws))(hz:∀ x∈ws,(0:UInt8) ∉ x.data.toList)(s:ByteArray):told ws s=Jz ws s:=by
 have hzk:NoZ (Ui ws):=by
  intro x hx;obtain⟨r,hr,rfl⟩:=List.mem_map.1 hx;exact hz _ ((ho.mem _).2 ⟨r,hr,rfl⟩)
 unfold told Jz;rw[Zd7 _ _ _ hzk,List.flatMap_assoc];have hl:s.data.toList.length=s.size:=by rw[Array.length_toList];rfl
 rw[hl];congr 1;funext j;unfold Ui;rw[Ziv (ws:=ws),<- extract_toList];generalize s.extract 0 (j+1)=p
 cases hf:(runs ws).find? λr=>decide (r.1.data.toList=p.data.toList) with
 | none =>
  have hno:Ib ws p=[]:=by
   refine List.filter_eq_nil_iff.2 λi hi=>?_
   have hi':i<ws.length:=(by simpa using hi);simp only[Ge hi',Option.getD_some,decide_eq_true_eq];intro q;obtain⟨r,hr,hre⟩:=(ho.mem p).1 (q▸List.getElem_mem hi');have:=List.find?_eq_none.1 hf r hr;simp[hre]at this
  rw[hno];rfl
 | some r =>
  have hrm:=List.mem_of_find?_eq_some hf;have hrp:r.1=p:=Lm (by simpa using List.find?_some hf)
  obtain⟨r2,hr2⟩:∃ r2,(runs ws).find? (λq=>decide (q.2.1=r.2.1))=some r2:=by
   cases hf2:(runs ws).find? (λq=>decide (q.2.1=r.2.1)) with
   | some x=>exact⟨x,rfl⟩
   | none =>
    have:=List.find?_eq_none.1 hf2 r hrm;simp at this
  have h2m:=List.mem_of_find?_eq_some hr2;have h2e:r2.2.1=r.2.1:=by simpa using List.find?_some hr2
  have hk:r2.1=r.1:=by
   have a1:=ho.at hrm;have a2:=ho.at h2m;rw[h2e,a1]at a2;injection a2 with a2
   exact a2.symm
  have hi:=ho.idx r2 h2m;rw[hk,hrp]at hi;simp only[Option.map_some,Option.toList_some,List.flatMap_cons,List.flatMap_nil,List.append_nil];unfold ex;simp only[hr2];rw[hi];simp
end
section
open Go.RowKit TR Go.Shelf
theorem index_none(A:Option Addr)(kc:Nat)(w:World) :
  Calls Tryz.prog 184 #[.slice A 0 kc] w λe w'=>Zf w w'/\∃ g n mb,e=.returned (.tuple #[.agg #[.slice (some ⟨g,0,none⟩) n n,.map (some mb)],.nilIface])/\w.heap.size<=g/\w.heap.size<=mb/\U5 w' g n mb []:=by
 obtain⟨is,his,hs0,hs1,hs2⟩:=info_parts U7;obtain⟨ii,hii,hi0,hi1,hi2⟩:=info_parts Ks
 have hmk1:∀ W:World,(Instr.makeSlice 34 (.int .i64 0) (.int .i64 0)).run Tryz.prog W=.ok (.slice (some ⟨W.heap.size,0,none⟩) 0 0) (W.alloc (.cells (madeCells #[.string ⟨#[]⟩] 0) 9)):=λW=>by
  have:=run_make (P:=Tryz.prog) W 34 9 is _ Tryz.underlying34 his hs0 .i64 .i64 0 0 Om Om (by rw[hs2];omega) Om;rw[hs1]at this;simpa [Value.cells] using this
 have hmk2:∀ W:World,(Instr.makeSlice 23 (.int .i64 0) (.int .i64 0)).run Tryz.prog W=.ok (.slice (some ⟨W.heap.size,0,none⟩) 0 0) (W.alloc (.cells (madeCells #[.int .i64 0] 0) 3)):=λW=>by
  have:=run_make (P:=Tryz.prog) W 23 3 ii _ Tryz.underlying23 hii hi0 .i64 .i64 0 0 Om Om (by rw[hi2];omega) Om;rw[hi1]at this;simpa [Value.cells] using this
 have hmm:=@run_makeMap Tryz.prog;go_enter Tryz.func184,Tryz.ntmps184
 go_wp2_with (first|(go_at_call 229;refine (AnyO.slices_IsSorted_string_none sortedS A kc _).mono ?_;rintro e w2 ⟨rfl,rfl⟩)|fail)
 go_upto_region 7 with fail
 generalize hwm:World.alloc _ _=wm;have hE:Zf w wm:=by rw[<- hwm];exact ((((((Fe w).alloc _).alloc _).alloc _).alloc _).alloc _).alloc _
 have hsz:wm.heap.size=w.heap.size+6:=by rw[<- hwm];simp only[Za]
 have b0:wm.heap[w.heap.size]?=some (.cells #[.slice none 0 0,.map none] 219 (0,0)):=by
  rw[<- hwm,alloc_old _ _ (by simp only[Za];omega),alloc_old _ _ (by simp only[Za];omega),alloc_old _ _ (by simp only[Za];omega),alloc_old _ _ (by simp only[Za];omega),alloc_old _ _ (by simp only[Za];omega),alloc_at]
 have b1:Zz Tg (w.heap.size+1) [] wm:=by
  refine⟨#[],0,?_,rfl,MapKept.stamped_empty 0⟩;rw[<- hwm,alloc_old _ _ (by simp only[Za];omega),alloc_old _ _ (by simp only[Za];omega),alloc_old _ _ (by simp only[Za];omega),alloc_old _ _ (by simp only[Za];omega),alloc_at' _ _ (by simp only[Za])]
 have b2:wm.heap[w.heap.size+1+1]?=some (.cells #[.slice none 0 0,.map (some (w.heap.size+1))] 219 (0,0)):=by
  rw[<- hwm,alloc_old _ _ (by simp only[Za];omega),alloc_old _ _ (by simp only[Za];omega),alloc_old _ _ (by simp only[Za];omega),alloc_at' _ _ (by simp only[Za])]
 have HE:=Hd (Ai1 hE (Ai1 b0 (Ai1 b1 (Ai1 b2 hsz))));clear hwm hE b0 b1 b2 hmk1 hmk2 hmm hsz;obtain⟨N,hN⟩:∃ N,N=w.heap.size:=⟨_,rfl⟩;rw[<- hN]at HE⊢;have HN:=Hd hN;clear hN;go_wp2_with fail
 refine wp_loop_rounds 1 ?_;rw[rounds_succ]
 go_wp2_with (first
  | (go_at_call 230;refine (Zdc _ _ _ _ _).mono ?_;rintro e w5 ⟨hE5,g,n,rfl,hg5,hT5⟩;have hb4:=hE5.heap HE.out.2.2.2.1 id;have hb2:=hE5.heap HE.out.2.1 id;have c40:=P4 hb4;have c41:=Qo hb4;have f4:=λo=>Kt hb4 o;have c20:=P4 hb2;have c21:=Qo hb2;have f2:=λo=>Kt hb2 o;have H5:=Hd (Ai1 hE5 (Ai1 hg5 (Ai1 hT5 (Ai1 hb4 hb2))));clear hE5 hg5 hT5 hb4 hb2)
  | fail)
 obtain⟨hE5,hg5,hT5,hb4,hb2⟩:=H5.out
 have k1:(w5.setCell ⟨N+1+1,0,none⟩ (.slice (some ⟨g,0,none⟩) n n)).heap[N]?=some (.cells #[.slice none 0 0,.map none] 219 (0,0)):=by
  rw[Below.heap_setCell _ _ _ _ (by simp only;omega)];exact hb2
 have k2:=Fz (x':=.slice (some ⟨g,0,none⟩) n n) (y':=.map (some (N+1))) k1
 have F6:Fr (λj=>j=N\/j=N+1+1) w5 (((w5.setCell ⟨N+1+1,0,none⟩ (.slice (some ⟨g,0,none⟩) n n)).setCell ⟨N,0,none⟩ (.slice (some ⟨g,0,none⟩) n n)).setCell ⟨N,1,none⟩ (.map (some (N+1)))) :=
  (((Fl _).setCell _ _ (λ_=>.inr rfl)).setCell _ _ (λ_=>.inl rfl)).setCell _ _ (λ_=>.inl rfl)
 generalize World.setCell (World.setCell (World.setCell _ _ _) _ _) _ _=w6 at k2 F6⊢;have z0:=P4 k2;have z1:=Qo k2;clear c40 c41 f4 c20 c21 f2 hb4 hb2 k1 k2;refine bodyPost_ret (by simp[results,Tryz.results184,z0,z1,go_sem];try rfl) rfl ?_;have hEw:Zf w w5:=HE.out.1.ext hE5;have hsz:=HE.out.2.2.2.2;have hN:=HN.out;refine⟨hEw.trans F6 (λj hj e=>Om),g,n,N+1,rfl,Om,Om,(U5.keep ⟨?_,[],HE.out.2.2.1.keep hE5 id,λr hr=>by simp[runs]at hr,λi _=>rfl⟩ F6 Om Om)⟩;exact hT5
end
section
open Go.RowKit TR
theorem run_len_map{κ:Type}{kv:κ->Value}{P:Program}{w:World}{r:Nat}{l:List (κ×Value)}{mty kt et:TypeId}(hm:P.underlying mty=some (.map kt et))(h:Zz kv r l w)(ty:TypeId):(Builtin.len_ #[mty] ty #[.map (some r)]).run P w=.ok (.int .i64 (l.length:Int)) w:=by
 obtain⟨es,clock,hb,he,_⟩:=h;have:es.size=l.length:=by have:=congrArg List.length he;simpa using this
 simp[Builtin.len_,run_underlying hm,MapKept.run_getObj_map hb,goInt,this]
abbrev Xx:ByteArray->Value:=Value.string
def Xt:List ByteArray->ByteArray->Option Nat
 | [],_=>none
 | a::l,s=>if a=s then some 0 else (Xt l s).map (· + 1)
def Ru(n:Nat):List ByteArray->List (ByteArray×Value)
 | []=>[]
 | a::l=>(a,.int .u16 ((n:Int)+1))::Ru (n+1) l
abbrev E3(ns:List ByteArray):List (ByteArray×Value):=Ru 0 ns
theorem Nq(n:Nat)(ns:List ByteArray):(Ru n ns).length=ns.length:=by
 induction ns generalizing n with
 | nil=>rfl
 | cons a l ih=>simp[Ru,ih]
theorem Zcl(ns:List ByteArray)(s:ByteArray):∀ n,look (Ru n ns) s=(Xt ns s).map λi=>.int .u16 (((n+i:Nat):Int)+1):=by
 induction ns with
 | nil=>intro n;rfl
 | cons a l ih =>
  intro n;simp only[Ru,look,Xt];by_cases h:a=s
  ·simp[h]
  ·rw[if_neg h,if_neg h,ih (n+1),Option.map_map];congr 1;funext i;simp only[Function.comp_def,Value.int.injEq,true_and];omega
theorem Zhw{κ β:Type}[DecidableEq κ](l:List (κ×β))(k:κ)(v:β)(h:look l k=none):put l k v=l++[(k,v)]:=by
 induction l with
 | nil=>rfl
 | cons p l ih =>
  obtain⟨a,x⟩:=p;simp only[look]at h
  split at h
  ·cases h
  ·rename_i hne;simp only[put,if_neg hne,ih h,List.cons_append]
theorem J0(s:ByteArray):∀ (ns:List ByteArray) (n:Nat),Ru n (ns++[s])=Ru n ns++[(s,.int .u16 (((n+ns.length:Nat):Int)+1))]
 | [],n=>by simp[Ru]
 | a::l,n=>by
  simp only[List.cons_append,Ru,J0 s l (n+1),List.length_cons];rw[(Om:n+1+l.length=n+(l.length+1))]
def Xg(ns:List ByteArray)(s:ByteArray):List ByteArray:=if (Xt ns s).isSome then ns else ns++[s]
theorem J1(s:ByteArray):∀ ns:List ByteArray,Xt ns s=none->Xt (ns++[s]) s=some ns.length
 | [],_=>by simp[Xt]
 | a::l,h=>by
  simp only[Xt]at h
  split at h
  ·cases h
  ·rename_i hne;simp only[List.cons_append,Xt,if_neg hne];rw[J1 s l (by simpa using h)];simp
theorem An(s:ByteArray):∀ (ns:List ByteArray) (i:Nat),Xt ns s=some i->i<ns.length/\ns[i]?=some s
 | [],i,h=>by cases h
 | a::l,i,h=>by
  simp only[Xt]at h
  split at h
  ·rename_i e;injection h with h
   subst h e;simp
  ·obtain⟨j,hj,rfl⟩:=Option.map_eq_some_iff.1 h;have:=An s l j hj;simpa using this
theorem Zdj(w:World):(zeroValue 229).run Tryz.prog w=.ok (.int .u16 0) w:=Kr
theorem Zk1(r:Nat)(ns:List ByteArray)(s:ByteArray)(w:World)(h:Zz Xx r (E3 ns) w)(hlen:ns.length<=60000) :
  Calls Tryz.prog 228 #[.map (some r),.string s] w λe w'=>∃ i,e=.returned (.int .u16 ((i:Nat)+1:Int))/\Xt (Xg ns s) s=some i/\Zz Xx r (E3 (Xg ns s)) w'/\Fr (λk=>k=r) w w':=by
 have hl:=run_len_map (P:=Tryz.prog) (mty:=325) Tryz.underlying325 h;rw[Nq]at hl;have hk:=Zcl ns s 0;have HM:=Hd h;clear h
 cases hp:Xt ns s with
 | some i =>
  rw[hp]at hk;have hi:=(An s ns i hp).1;have hadd:Xg ns s=ns:=by unfold Xg;rw[hp];rfl
  simp only[Option.map_some,Nat.zero_add]at hk;have HP:=Hd (Ai1 hp hadd);clear hp hadd;go_enter Tryz.func228,Tryz.ntmps228
  go_wp2_with (first|(at_lookup;refine Zk rfl _ _ true rfl Uw Tryz.underlying325 Tryz.underlying9 (Zdj _) rfl HM.out s rfl ?_;simp only[if_true,hk,Option.getD_some,Option.isSome_some])|fail)
  first|go_ret|go_ret2
  exact⟨i,rfl,by rw[HP.out.2];exact HP.out.1,by rw[HP.out.2];exact HM.out,Fl _⟩
 | none =>
  rw[hp]at hk;have hadd:Xg ns s=ns++[s]:=by unfold Xg;rw[hp];rfl
  simp only[Option.map_none]at hk;have HP:=Hd (Ai1 hp (Ai1 hadd hk));clear hp hadd;go_enter Tryz.func228,Tryz.ntmps228
  go_wp2_with (first
   | (at_lookup;refine Zk rfl _ _ true rfl Uw Tryz.underlying325 Tryz.underlying9 (Zdj _) rfl HM.out s rfl ?_;simp only[if_true,hk,Option.getD_none,Option.isSome_none])
   | (at_mapUpdate;refine Yj rfl _ _ _ rfl Uw Tryz.underlying325 Tryz.underlying9 rfl HM.out s (.int .u16 ((ns.length:Int)+1)) rfl rfl ?_;intro w2 hm2 hf2 hs2)
   | fail)
  first|go_ret|go_ret2
  obtain⟨h1,h2,h3⟩:=HP.out;refine⟨ns.length,rfl,by rw[h2];exact J1 s ns h1,?_,hf2⟩;rw[h2];have e:=J0 s ns 0;rw[Nat.zero_add]at e;show Zz Xx r (Ru 0 (ns++[s])) w2;rw[e,<- Zhw _ _ _ h3];exact hm2
end
section
open Go.RowKit TR
theorem Nr{s:ByteArray}{i:Nat}:∀ (ns l:List ByteArray),Xt ns s=some i->Xt (ns++l) s=some i
 | [],l,h=>by cases h
 | a::t,l,h=>by
  simp only[Xt,List.cons_append]at h⊢
  split at h
  ·rw[if_pos ‹_›];exact h
  ·rw[if_neg ‹_›];obtain⟨j,hj,rfl⟩:=Option.map_eq_some_iff.1 h;rw[Nr t l hj];rfl
theorem Zfm{ns:List ByteArray}{s t:ByteArray}{i:Nat}(h:Xt ns s=some i):Xt (Xg ns t) s=some i:=by
 unfold Xg
 split
 ·exact h
 ·exact Nr ns [t] h
theorem Zbl(ns:List ByteArray)(s:ByteArray):(Xg ns s).length<=ns.length+1:=by
 unfold Xg
 split
 ·omega
 ·simp
abbrev Wa(ns pos:List ByteArray):List ByteArray:=pos.foldl Xg ns
theorem Zbn(ns pos:List ByteArray)(s:ByteArray):Wa ns (pos++[s])=Xg (Wa ns pos) s:=by simp[Wa]
theorem Iw(pos ns:List ByteArray):(Wa ns pos).length<=ns.length+pos.length:=by
 induction pos generalizing ns with
 | nil=>simp
 | cons a l ih =>
  have h1:=ih (Xg ns a);have h2:=Zbl ns a;simp only[Wa,List.foldl_cons,List.length_cons]at h1⊢;omega
theorem Zf0:(Tryz.prog.info? 229).map (λi=>(i.zero,i.size,i.bytes))=some (some (.int .u16 0),1,2):=Kr
theorem Zcc(r:Nat)(ns pos:List ByteArray)(A:Option Addr)(c:Nat)(w:World)(h:Zz Xx r (E3 ns) w)(hA:∀ j (h:j<pos.length),∃ b o,A=some ⟨b,o,none⟩/\b≠r/\w.cell? ⟨b,o+j,none⟩=some (.string pos[j]))(hlen:ns.length+pos.length<=60000) :
  Calls Tryz.prog 182 #[.map (some r),.slice A pos.length c] w λe w'=>∃ g f,e=.returned (.slice (some ⟨g,0,none⟩) pos.length pos.length)/\w.heap.size<=g/\w'.rowIs g 229 pos.length f /\
   (∀ j (h:j<pos.length),∃ i,Xt (Wa ns pos) pos[j]=some i/\f j=.int .u16 ((i:Nat)+1:Int))/\Zz Xx r (E3 (Wa ns pos)) w'/\Fr (λk=>k=r) w w':=by
 obtain⟨ip,hip,hp0,hp1,hp2⟩:=info_parts Zf0
 have hmk:∀ W:World,(Instr.makeSlice 227 (.int .i64 0) (.int .i64 (pos.length:Int))).run Tryz.prog W=.ok (.slice (some ⟨W.heap.size,0,none⟩) 0 pos.length) (W.alloc (.cells (madeCells #[.int .u16 0] pos.length) 229)):=λW=>by
  have:=run_make (P:=Tryz.prog) W 227 229 ip _ Tryz.underlying227 hip hp0 .i64 .i64 0 pos.length Om Om (by rw[hp2];omega) Om;rw[hp1]at this;simpa [Value.cells] using this
 have hrl:=h.lt;have HA:=Hd hA;have HM:=Hd h;clear hA h;go_enter Tryz.func182,Tryz.ntmps182
 go_wp2_with fail
 have R0:=World.rowIs_made w (.int .u16 0) pos.length 229;have M0:=HM.out.alloc (.cells (madeCells #[.int .u16 0] pos.length) 229);have F0:Fr (λk=>k=r) w (w.alloc (.cells (madeCells #[.int .u16 0] pos.length) 229)):=(Fl _).alloc _;generalize World.alloc _ _=wm at R0 M0 F0⊢;have H0:Hid (wm.rowIs w.heap.size 229 pos.length (λ_=>.int .u16 0)/\Zz Xx r (E3 ns) wm/\Fr (λk=>k=r) w wm):=⟨R0,M0,F0⟩;clear R0 M0 F0 hmk
 go_loopw [5,14] (λsv v wr=>∃ k:Nat,k<=pos.length/\v=.int .i64 k/\sv=.slice (some ⟨w.heap.size,0,none⟩) k pos.length/\Hid (∃ f,wr.rowIs w.heap.size 229 pos.length f/\(∀ j (h:j<pos.length),j<k->∃ i,Xt (Wa ns (pos.take k)) pos[j]=some i/\f j=.int .u16 ((i:Nat)+1:Int)) /\
  Zz Xx r (E3 (Wa ns (pos.take k))) wr/\Fr (λk=>k=r) w wr/\w.heap.size<wr.heap.size)) (λ_ v _=>pos.length-(intOf v).toNat)
 case atStart=>exact⟨0,Nat.zero_le _,rfl,rfl,_,H0.out.1,λj _ h=>Om,H0.out.2.1,H0.out.2.2,H0.out.1.lt⟩
 case round =>
  obtain⟨k,hk,rfl,rfl,HI⟩:=hrel;by_cases hlt:k<pos.length
  ·obtain⟨f,hR,hf,hM,hF,hS⟩:=HI.out;obtain⟨b,o,rfl,hbr,hc⟩:=HA.out k hlt;have hck:=hF.cell hc hbr;have hal:=Iw (pos.take k) ns;rw[List.length_take]at hal;have hcall:=Zk1 r (Wa ns (pos.take k)) pos[k] wr hM Om;obtain⟨x,hx⟩:∃ x,x=pos[k]:=⟨_,rfl⟩;rw[<- hx]at hck hcall;have HX:=Hd (Ai1 hx (Ai1 hR (Ai1 hf (Ai1 hF hS))));have HC:=Hd hcall;clear hx hR hf hM hF hS hcall hc HI
   go_wp2_with (first
    | (go_at_call 228;refine HC.out.mono ?_;rintro e w2 ⟨i,rfl,hxx⟩;have H2:=Hd hxx;clear hxx)
    | (at_builtin;refine V9 rfl _ _ 227 rfl Tryz.underlying227 hip hp1 rfl ((Xs HX.out.2.1 H2.out.2.2 (by show ¬ _=_;omega)).alloc _) hlt ⟨w2.heap.size,0,none⟩ 1 _ rfl (cell_one_new _ _ _) rfl ?_;intro w3 hr3 hf3 hs3;have HS3:=Hd hs3;clear hs3)
    | fail)
   go_roundw
   case rel =>
    obtain⟨hx,hR,hf,hF,hS⟩:=HX.out;obtain⟨h1,h2,h3⟩:=H2.out
    have hta:Wa ns (pos.take (k+1))=Xg (Wa ns (pos.take k)) x:=by
     rw[List.take_succ_eq_append_getElem hlt,Zbn,hx]
    have hF3:Fr (λk=>k=r) w w3:=((hF.then h3).alloc _).trans hf3 (λj hj e=>Om);refine⟨k+1,Om,by go_num,rfl,_,hr3,λj hj hjk=>?_,?_,hF3,Nat.lt_of_lt_of_le hr3.lt (Nl _)⟩
    ·rw[hta];by_cases e:j=k
     ·subst e;exact⟨i,by rw[<- hx];exact h1,by simp⟩
     ·obtain⟨i',a1,a2⟩:=hf j hj Om;exact⟨i',Zfm a1,by rw[if_neg e];exact a2⟩
    ·rw[hta];exact (h2.alloc _).keep hf3 (by show ¬ _=_;omega)
   case measure=>simp[intOf];omega
  ·obtain rfl:k=pos.length:=Om
   go_wp2_with fail
   first|go_ret|go_ret2
   obtain⟨f,hR,hf,hM,hF,hS⟩:=HI.out;rw[List.take_length]at hf hM;exact⟨w.heap.size,f,rfl,Nl _,hR,λj hj=>hf j hj hj,hM,hF⟩
end
section
open Go.RowKit
def KT{α:Type}(P:Program)(s:Sem α):Prop:=∀ w a w',s.run P w=.ok a w'->w'.tape=w.tape
section
variable{α β:Type}{P:Program}
theorem KT.bind{s:Sem α}{f:α->Sem β}(h:KT P s)(k:∀ a,KT P (f a)):KT P (s >>= f):=by
 intro w a w' e;rw[Sem.run_bind]at e
 cases hs:s.run P w with
 | ok b w1 =>
  rw[hs]at e;exact (k b w1 a w' e).trans (h w b w1 hs)
 | halt x w1=>rw[hs]at e;cases e
theorem KT.pure(a:α):KT P (Pure.pure a:Sem α):=by
 intro w b w' e;rw[Sem.run_pure]at e;cases e;rfl
theorem KT.getObj(r:Nat):KT P (Go.getObj r):=by
 intro w a w' e;simp only[Go.getObj,Sem.run]at e
 split at e<;>cases e
 rfl
theorem KT.setObj(r:Nat)(o:Obj):KT P (Go.setObj r o):=by
 intro w a w' e;simp only[Go.setObj,Sem.run]at e
 split at e<;>cases e
 rfl
theorem KT.choose(q:Question):KT P (Go.choose q):=by
 intro w a w' e;rw[run_choose_drew]at e
 split at e<;>cases e<;>rfl
theorem KT.halt(h:Halt):KT P (Sem.halt h:Sem α):=by
 intro w a w' e;simp only[Sem.run]at e;cases e
theorem KT.next(v:Value)(b:Bool)(ty:TypeId):KT P (Instr.next v b ty):=by
 unfold Instr.next
 repeat' first
  | exact KT.pure _
  | exact KT.getObj _
  | exact KT.setObj _ _
  | exact KT.choose _
  | exact KT.halt _
  | (refine KT.bind ?_ (λ_=>?_))
  | split
end
end
section
open Go.RowKit TR
theorem Zh7{P:Program}(w:World)(ty:TypeId)(bm since c0:Nat)(seen:Array Nat)(es:Array MapEntry)(clock:Nat)(hb:w.heap[bm]?=some (.map es clock))(hold:∀ x∈es.toList,x.born<since)(hsc:since<=c0) :
  ((leftOf es seen).size=0/\(Instr.next (.pointer (some ⟨w.heap.size,0,none⟩)) false ty).run P (w.alloc (.mapIter (some bm) since seen c0))=.ok (.tuple #[.bool false]) (w.alloc (.mapIter (some bm) since seen c0))) \/
  ∃ e∈(leftOf es seen).toList,∃ w1:World,Zf w w1/\w1.heap=w.heap/\(Instr.next (.pointer (some ⟨w.heap.size,0,none⟩)) false ty).run P (w.alloc (.mapIter (some bm) since seen c0))=.ok (.tuple #[.bool true,e.key,e.val]) (w1.alloc (.mapIter (some bm) since (seen.push e.born) clock)):=by
 rcases run_next_map (P:=P) w ty bm since c0 seen es clock hb hold hsc with h|⟨e,he,w1,ha,hr⟩
 ·exact .inl h
 ·have ht0:=KT.next (P:=P) _ _ _ _ _ _ hr;have ht:w1.tape=w.tape:=ht0;exact .inr ⟨e,he,w1,⟨ha.2.1,ht,ha.2.2,by rw[ha.1];exact Nl _,λk _ _=>by rw[ha.1]⟩,ha.1,hr⟩
theorem Gd:∀ (ns:List ByteArray) (n:Nat) (p:ByteArray×Value),p∈Ru n ns->∃ j,ns[j]?=some p.1/\p.2=.int .u16 (((n+j:Nat):Int)+1)
 | [],n,p,h=>by cases h
 | a::l,n,p,h=>by
  rcases List.mem_cons.1 h with rfl|h
  ·exact⟨0,rfl,rfl⟩
  ·obtain⟨j,h1,h2⟩:=Gd l (n+1) p h;exact⟨j+1,by simpa using h1,by rw[h2];congr 3;omega⟩
theorem Gf:∀ (ns:List ByteArray) (n j:Nat) (s:ByteArray),ns[j]?=some s->(s,Value.int .u16 (((n+j:Nat):Int)+1))∈Ru n ns
 | [],n,j,s,h=>by simp at h
 | a::l,n,0,s,h=>by
  simp at h;subst h;exact List.mem_cons_self
 | a::l,n,j+1,s,h=>by
  have:=Gf l (n+1) j s (by simpa using h);rw[(Om:n+1+j=n+(j+1))]at this;exact List.mem_cons_of_mem _ this
theorem Hw{es:Array MapEntry}{clock:Nat}(h:MapKept.Stamped es clock){a b:MapEntry}(ha:a∈es.toList)(hb:b∈es.toList)(e:a.born=b.born):a=b:=by
 obtain⟨i,hi,rfl⟩:=List.getElem_of_mem ha;obtain⟨j,hj,rfl⟩:=List.getElem_of_mem hb;have:=(List.getElem_inj (h₀:=by simpa using hi) (h₁:=by simpa using hj) h.2.1).1 (by simpa using e);subst this;rfl
theorem Aj(r:Nat)(ns:List ByteArray)(w:World)(h:Zz Xx r (E3 ns) w)(hlen:ns.length<=60000) :
  Calls Tryz.prog 183 #[.map (some r)] w λe w'=>∃ g f,e=.returned (.slice (some ⟨g,0,none⟩) (ns.length+1) (ns.length+1))/\w.heap.size<=g/\w'.rowIs g 9 (ns.length+1) f/\f 0=.string ⟨#[]⟩/\(∀ (j:Nat) (s:ByteArray),ns[j]?=some s->f (j+1)=.string s)/\Zf w w':=by
 have hl:=run_len_map (P:=Tryz.prog) (mty:=325) Tryz.underlying325 h;rw[Nq]at hl;have hmk:=run_make_row' (P:=Tryz.prog) 34 9 _ 16 Tryz.underlying34 U7 rfl .i64 .i64 (ns.length+1) Om Om;have hmk':∀ W:World,(Instr.makeSlice 34 (.int .i64 ((ns.length:Int)+1)) (.int .i64 ((ns.length:Int)+1))).run Tryz.prog W=.ok (.slice (some ⟨W.heap.size,0,none⟩) (ns.length+1) (ns.length+1)) (W.alloc (.cells (madeCells #[.string ⟨#[]⟩] (ns.length+1)) 9)):=hmk;clear hmk;obtain⟨es,clock,hb,he,hst⟩:=h;have hrl:r<w.heap.size:=(Gs1.1 hb).1
 have hent:∀ e∈es.toList,∃ (j:Nat) (s:ByteArray),ns[j]?=some s/\e.key=.string s/\e.val=.int .u16 ((j:Int)+1):=by
  intro e hm;have h1:(e.key,e.val)∈es.toList.map (λe=>(e.key,e.val)):=List.mem_map.2 ⟨e,hm,rfl⟩;rw[he]at h1;obtain⟨p,hp,hpe⟩:=List.mem_map.1 h1;obtain⟨j,h2,h3⟩:=Gd ns 0 p hp;simp only[Prod.mk.injEq]at hpe;exact⟨j,p.1,h2,hpe.1.symm,by rw[<- hpe.2,h3,Nat.zero_add]⟩
 have hall:∀ (j:Nat) (s:ByteArray),ns[j]?=some s->∃ e∈es.toList,e.key=.string s/\e.val=.int .u16 ((j:Int)+1):=by
  intro j s hj;have h1:=Gf ns 0 j s hj
  have h2:(Xx s,Value.int .u16 (((0+j:Nat):Int)+1))∈es.toList.map (λe=>(e.key,e.val)):=by
   rw[he];exact List.mem_map.2 ⟨_,h1,rfl⟩
  obtain⟨e,hm,hpe⟩:=List.mem_map.1 h2;simp only[Prod.mk.injEq,Nat.zero_add]at hpe;exact⟨e,hm,hpe.1,hpe.2⟩
 have HE:=Hd (Ai1 hent (Ai1 hall (Ai1 hst hb)));have R0:=World.rowIs_made w (.string ⟨#[]⟩) (ns.length+1) 9;have F0:Zf w (w.alloc (.cells (madeCells #[.string ⟨#[]⟩] (ns.length+1)) 9)):=(Fl _).alloc _;have S0:(w.alloc (.cells (madeCells #[.string ⟨#[]⟩] (ns.length+1)) 9)).heap.size=w.heap.size+1:=Za _ _;have hrg:=run_range_map (P:=Tryz.prog) (w.alloc (.cells (madeCells #[.string ⟨#[]⟩] (ns.length+1)) 9)) 325 _ _ r es clock Tryz.underlying325 (by rw[alloc_old _ _ hrl];exact hb);rw[S0]at hrg;clear hent hall hb he hst;go_enter Tryz.func183,Tryz.ntmps183
 go_wp2_with fail
 generalize World.alloc w _=wm at R0 F0 S0⊢
 have H0:Hid (∃ f,wm.rowIs w.heap.size 9 (ns.length+1) f/\f 0=.string ⟨#[]⟩/\(∀ e∈es.toList,(#[]:Array Nat).contains e.born=true->∀ j:Nat,e.val=.int .u16 ((j:Int)+1)->f (j+1)=e.key)/\Zf w wm/\wm.heap.size=w.heap.size+1) :=
  ⟨_,R0,rfl,λe _ h=>by simp at h,F0,S0⟩
 clear R0 F0 S0 hrg hl hmk'
 go_loopw [] (λwr=>∃ (X:World) (seen:Array Nat),wr=X.alloc (.mapIter (some r) clock seen clock)/\Hid (∃ f,X.rowIs w.heap.size 9 (ns.length+1) f/\f 0=.string ⟨#[]⟩/\(∀ e∈es.toList,seen.contains e.born=true->∀ j:Nat,e.val=.int .u16 ((j:Int)+1)->f (j+1)=e.key)/\Zf w X/\X.heap.size=w.heap.size+1))
  (λwr=>(leftOf es (wr.iterSeen (w.heap.size+1))).size)
 case atStart=>exact⟨wm,#[],rfl,H0⟩
 case round =>
  clear H0;obtain⟨X,seen,rfl,HI⟩:=hrel;obtain⟨f,hR,hf0,hf,hF,hS⟩:=HI.out;have hb1:X.heap[r]?=some (.map es clock):=hF.heap HE.out.2.2.2 id;have law:=Zh7 (P:=Tryz.prog) X 0 r clock clock seen es clock hb1 HE.out.2.2.1.1 (Nl _);rw[hS]at law;rcases law with ⟨h0,hrun⟩|⟨e,he,X2,hX2,hh2,hrun⟩
  ·have hnx:∀ ty,(Instr.next (.pointer (some ⟨w.heap.size+1,0,none⟩)) false ty).run Tryz.prog (X.alloc (.mapIter (some r) clock seen clock))=_:=λ_=>hrun
   have HZ:=Hd (Ai1 hR (Ai1 hf0 (Ai1 hf (Ai1 hF h0))));clear hR hf0 hf hF h0 hb1 hrun HI hS;go_wp2_with fail
   first|go_ret|go_ret2
   obtain⟨hR,hf0,hf,hF,h0⟩:=HZ.out;refine⟨w.heap.size,f,rfl,Nl _,hR.alloc _,hf0,λj s hj=>?_,hF.alloc _⟩;obtain⟨e,hm,h1,h2⟩:=HE.out.2.1 j s hj;rw[<- h1];refine hf e hm ?_ j h2
   cases hc:seen.contains e.born with
   | true=>rfl
   | false =>
    have:e∈leftOf es seen:=Array.mem_filter.2 ⟨by simpa using hm,by rw[hc];rfl⟩;rw[Array.eq_empty_of_size_eq_zero h0]at this;simp at this
  ·obtain⟨hme,hnew⟩:=mem_left he;obtain⟨j,s,hj,hkey,hval⟩:=HE.out.1 e hme
   have hjl:j<ns.length:=by
    rcases Nat.lt_or_ge j ns.length with q|q
    ·exact q
    ·rw[List.getElem?_eq_none q]at hj;cases hj
   have hnx:∀ ty,(Instr.next (.pointer (some ⟨w.heap.size+1,0,none⟩)) false ty).run Tryz.prog (X.alloc (.mapIter (some r) clock seen clock))=_:=λ_=>hrun
   have hS2:X2.heap.size=w.heap.size+1:=(by rw[hh2,hS]);have hen:=run_entry_map (P:=Tryz.prog) X2 r clock seen es clock e (by rw[hh2];exact hb1) hme HE.out.2.2.1.2.1;rw[hS2,hkey,hval]at hen;rw[hkey,hval]at hnx;have hR2:X2.rowIs w.heap.size 9 (ns.length+1) f:=Xs hR hX2 id;have c1:=(hR2.alloc (.mapIter (some r) clock (seen.push e.born) clock)).cell (i:=j+1) Om;have f1:=(hR2.alloc (.mapIter (some r) clock (seen.push e.born) clock)).frozen (j+1);have HZ:=Hd (Ai1 hR2 (Ai1 hf0 (Ai1 hf (Ai1 (hF.ext hX2) (Ai1 hS2 (Ai1 hS (Ai1 he (Ai1 hkey (Ai1 hval hnew)))))))));clear hR hf0 hf hF hb1 hrun HI hS hS2 hX2 hh2 he hnew hme hkey hval hR2 hj;go_wp2_with fail
   obtain⟨hR2,hf0,hf,hF,hS2,hS,he,hkey,hval,hnew⟩:=HZ.out;have hset:(X2.alloc (.mapIter (some r) clock (seen.push e.born) clock)).setCell ⟨w.heap.size,j+1,none⟩ (.string s)=(X2.setCell ⟨w.heap.size,j+1,none⟩ (.string s)).alloc (.mapIter (some r) clock (seen.push e.born) clock):=World.setCell_alloc_past _ _ _ _ Om;have hS3:(X2.setCell ⟨w.heap.size,j+1,none⟩ (.string s)).heap.size=w.heap.size+1:=(by simp[World.setCell,hS2]);rw[hset]
   go_roundw
   case rel =>
    refine⟨_,_,rfl,_,hR2.set (j+1) (.string s),by simpa using hf0,λe' he' hc j' hv'=>?_,hF.setCell _ _ (λh=>absurd h (Nat.lt_irrefl _)),hS3⟩;by_cases ej:j'=j
    ·subst ej;simp only[if_true];by_cases hee:e'.born=e.born
     ·have:e'=e:=Hw HE.out.2.2.1 he' (mem_left he).1 hee;rw[this,hkey]
     ·obtain⟨j2,s2,h1,h2,h3⟩:=HE.out.1 e' he';obtain⟨j3,s3,k1,k2,k3⟩:=HE.out.1 e (mem_left he).1;rw[hv']at h3;rw[hval]at k3;injection h3 with _ h3
      injection k3 with _ k3
      have:j2=j3:=Om;subst this;rw[h1]at k1;injection k1 with k1
      rw[h2,k1,<- k2,hkey]
    ·rw[if_neg Om];refine hf e' he' ?_ j' hv';rw[contains_push]at hc
     cases hb:seen.contains e'.born with
     | true=>rfl
     | false =>
      rw[hb]at hc;simp at hc;have:e'=e:=Hw HE.out.2.2.1 he' (mem_left he).1 hc;subst this;rw[hval]at hv';injection hv' with _ hv'
      exact absurd Om ej
   case measure =>
    rw[<- hS3,World.iterSeen_alloc,hS3,<- hS,World.iterSeen_alloc];exact left_shrinks es seen e he
end
section
open Go.RowKit TR
theorem Ir:∃ i,Tryz.prog.info? 9=some i/\∃ z:Value,i.zero=some z/\i.size=1/\i.bytes=16/\z.cells.size=1:=by
 have h:(Tryz.prog.info? 9).map (λi=>(i.zero.map (λz=>z.cells.size),i.size,i.bytes))=some (some 1,1,16):=Kr
 cases hi:Tryz.prog.info? 9 with
 | none=>rw[hi]at h;cases h
 | some i =>
  rw[hi]at h;simp only[Option.map_some,Option.some.injEq,Prod.mk.injEq]at h;obtain⟨h1,h2,h3⟩:=h
  cases hz:i.zero with
  | none=>rw[hz]at h1;cases h1
  | some z =>
   rw[hz]at h1;exact⟨i,rfl,z,hz,h2,h3,by simpa using h1⟩
theorem Zgh(A:Option Addr)(n c:Nat)(news:List Value)(w:World)(hl:news.length=n*1)(hA:A=none->n=0/\c=0)(hc:∀ a,A=some a->∀ j u,news[j]?=some u->w.cell? (a.add j)=some u)(h1:∀ u∈news,u.oneCell'=true)(hn:n<=2147483647) :
  Calls Tryz.prog 101 #[.slice A n c] w λe w'=>∃ v,e=.returned v/\w'.ownsRow w.heap.size 9 1 v n news/\Zf w w'/\(v=.slice none 0 0↔A=none):=by
 obtain⟨ie,hie,z,hz,hs,hb,hzs⟩:=Ir;have heq:∀ (W:World) (B:Option Addr) (l k:Nat),(binOp .eql 34 (.slice B l k) (.slice none 0 0)).run Tryz.prog W=.ok (.bool B.isNone) W:=λW B l k=>Go.run_eql_slice_nil W _ _ B l k Tryz.underlying34
 cases A with
 | none =>
  obtain⟨rfl,rfl⟩:=hA rfl;have hnil:news=[]:=List.eq_nil_of_length_eq_zero (by simpa using hl);subst hnil;clear hl hA hc h1;go_enter Tryz.func101,Tryz.ntmps101
  go_wp2_with fail
  first|go_ret|go_ret2
  exact⟨_,rfl,World.ownsRow_nil _ _ _ _,Fl _,by simp⟩
 | some a =>
  have hc2:=hc a rfl;have HC:=Hd (Ai1 hc2 h1);clear hA hc hc2 h1;go_enter Tryz.func101,Tryz.ntmps101
  go_wp2_with (first
   | (at_builtin;refine wpList_append_own_at _ rfl _ _ 34 rfl w.heap.size 9 ie z 1 16 Tryz.underlying34 hie hz hs hb hzs (by decide) _ 0 [] rfl (World.ownsRow_made w #[] 0 (Nl _) (by unfold maxLen;omega) (by simp)) a n c news rfl hl (λj u hu=>((Fe w).alloc _).cell (HC.out.1 j u hu) id) HC.out.2 (by unfold maxLen;omega) Om (by simp) ?_;intro v' w1 hown' hgrow hnil' hat)
   | fail)
  first|go_ret|go_ret2
  rw[Nat.zero_add,List.nil_append]at hown';refine⟨v',rfl,hown',((Fe w).alloc _).grown hgrow (λk hk hlt=>?_),?_⟩
  ·have hk':k=w.heap.size:=by
    have:some w.heap.size=some k:=hk;injection this with this
    exact this.symm
   omega
  ·constructor
   ·intro q;have:=(hnil'.1 q).1;cases this
   ·intro q;cases q
theorem Qu:∃ i,Tryz.prog.info? 53=some i/\∃ z:Value,i.zero=some z/\i.size=6/\i.bytes=88/\z.cells.size=6:=by
 have h:(Tryz.prog.info? 53).map (λi=>(i.zero.map (λz=>z.cells.size),i.size,i.bytes))=some (some 6,6,88):=Kr
 cases hi:Tryz.prog.info? 53 with
 | none=>rw[hi]at h;cases h
 | some i =>
  rw[hi]at h;simp only[Option.map_some,Option.some.injEq,Prod.mk.injEq]at h;obtain⟨h1,h2,h3⟩:=h
  cases hz:i.zero with
  | none=>rw[hz]at h1;cases h1
  | some z =>
   rw[hz]at h1;exact⟨i,rfl,z,hz,h2,h3,by simpa using h1⟩
theorem Zc5(A:Option Addr)(n c:Nat)(news:List Value)(w:World)(hl:news.length=n*6)(hA:A=none->n=0/\c=0)(hc:∀ a,A=some a->∀ j u,news[j]?=some u->w.cell? (a.add j)=some u)(h1:∀ u∈news,u.oneCell'=true)(hn:n<=2147483647) :
  Calls Tryz.prog 178 #[.slice A n c] w λe w'=>∃ v,e=.returned v/\w'.ownsRow w.heap.size 53 6 v n news/\Zf w w'/\(v=.slice none 0 0↔A=none):=by
 obtain⟨ie,hie,z,hz,hs,hb,hzs⟩:=Qu;have heq:∀ (W:World) (B:Option Addr) (l k:Nat),(binOp .eql 22 (.slice B l k) (.slice none 0 0)).run Tryz.prog W=.ok (.bool B.isNone) W:=λW B l k=>Go.run_eql_slice_nil W _ _ B l k Tryz.underlying22
 cases A with
 | none =>
  obtain⟨rfl,rfl⟩:=hA rfl;have hnil:news=[]:=List.eq_nil_of_length_eq_zero (by simpa using hl);subst hnil;clear hl hA hc h1;go_enter Tryz.func178,Tryz.ntmps178
  go_wp2_with fail
  first|go_ret|go_ret2
  exact⟨_,rfl,World.ownsRow_nil _ _ _ _,Fl _,by simp⟩
 | some a =>
  have hc2:=hc a rfl;have HC:=Hd (Ai1 hc2 h1);clear hA hc hc2 h1;go_enter Tryz.func178,Tryz.ntmps178
  go_wp2_with (first
   | (at_builtin;refine wpList_append_own_at _ rfl _ _ 22 rfl w.heap.size 53 ie z 6 88 Tryz.underlying22 hie hz hs hb hzs (by decide) _ 0 [] rfl (World.ownsRow_made w #[] 0 (Nl _) (by unfold maxLen;omega) (by simp)) a n c news rfl hl (λj u hu=>((Fe w).alloc _).cell (HC.out.1 j u hu) id) HC.out.2 (by unfold maxLen;omega) Om (by simp) ?_;intro v' w1 hown' hgrow hnil' hat)
   | fail)
  first|go_ret|go_ret2
  rw[Nat.zero_add,List.nil_append]at hown';refine⟨v',rfl,hown',((Fe w).alloc _).grown hgrow (λk hk hlt=>?_),?_⟩
  ·have hk':k=w.heap.size:=by
    have:some w.heap.size=some k:=hk;injection this with this
    exact this.symm
   omega
  ·constructor
   ·intro q;have:=(hnil'.1 q).1;cases this
   ·intro q;cases q
theorem Qv:∃ i,Tryz.prog.info? 76=some i/\∃ z:Value,i.zero=some z/\i.size=2/\i.bytes=24/\z.cells.size=2:=by
 have h:(Tryz.prog.info? 76).map (λi=>(i.zero.map (λz=>z.cells.size),i.size,i.bytes))=some (some 2,2,24):=Kr
 cases hi:Tryz.prog.info? 76 with
 | none=>rw[hi]at h;cases h
 | some i =>
  rw[hi]at h;simp only[Option.map_some,Option.some.injEq,Prod.mk.injEq]at h;obtain⟨h1,h2,h3⟩:=h
  cases hz:i.zero with
  | none=>rw[hz]at h1;cases h1
  | some z =>
   rw[hz]at h1;exact⟨i,rfl,z,hz,h2,h3,by simpa using h1⟩
theorem Zc6(A:Option Addr)(n c:Nat)(news:List Value)(w:World)(hl:news.length=n*2)(hA:A=none->n=0/\c=0)(hc:∀ a,A=some a->∀ j u,news[j]?=some u->w.cell? (a.add j)=some u)(h1:∀ u∈news,u.oneCell'=true)(hn:n<=2147483647) :
  Calls Tryz.prog 58 #[.slice A n c] w λe w'=>∃ v,e=.returned v/\w'.ownsRow w.heap.size 76 2 v n news/\Zf w w'/\(v=.slice none 0 0↔A=none):=by
 obtain⟨ie,hie,z,hz,hs,hb,hzs⟩:=Qv;have heq:∀ (W:World) (B:Option Addr) (l k:Nat),(binOp .eql 27 (.slice B l k) (.slice none 0 0)).run Tryz.prog W=.ok (.bool B.isNone) W:=λW B l k=>Go.run_eql_slice_nil W _ _ B l k Tryz.underlying27
 cases A with
 | none =>
  obtain⟨rfl,rfl⟩:=hA rfl;have hnil:news=[]:=List.eq_nil_of_length_eq_zero (by simpa using hl);subst hnil;clear hl hA hc h1;go_enter Tryz.func58,Tryz.ntmps58
  go_wp2_with fail
  first|go_ret|go_ret2
  exact⟨_,rfl,World.ownsRow_nil _ _ _ _,Fl _,by simp⟩
 | some a =>
  have hc2:=hc a rfl;have HC:=Hd (Ai1 hc2 h1);clear hA hc hc2 h1;go_enter Tryz.func58,Tryz.ntmps58
  go_wp2_with (first
   | (at_builtin;refine wpList_append_own_at _ rfl _ _ 27 rfl w.heap.size 76 ie z 2 24 Tryz.underlying27 hie hz hs hb hzs (by decide) _ 0 [] rfl (World.ownsRow_made w #[] 0 (Nl _) (by unfold maxLen;omega) (by simp)) a n c news rfl hl (λj u hu=>((Fe w).alloc _).cell (HC.out.1 j u hu) id) HC.out.2 (by unfold maxLen;omega) Om (by simp) ?_;intro v' w1 hown' hgrow hnil' hat)
   | fail)
  first|go_ret|go_ret2
  rw[Nat.zero_add,List.nil_append]at hown';refine⟨v',rfl,hown',((Fe w).alloc _).grown hgrow (λk hk hlt=>?_),?_⟩
  ·have hk':k=w.heap.size:=by
    have:some w.heap.size=some k:=hk;injection this with this
    exact this.symm
   omega
  ·constructor
   ·intro q;have:=(hnil'.1 q).1;cases this
   ·intro q;cases q
theorem Iq:∃ i,Tryz.prog.info? 36=some i/\∃ z:Value,i.zero=some z/\i.size=5/\i.bytes=56/\z.cells.size=5:=by
 have h:(Tryz.prog.info? 36).map (λi=>(i.zero.map (λz=>z.cells.size),i.size,i.bytes))=some (some 5,5,56):=Kr
 cases hi:Tryz.prog.info? 36 with
 | none=>rw[hi]at h;cases h
 | some i =>
  rw[hi]at h;simp only[Option.map_some,Option.some.injEq,Prod.mk.injEq]at h;obtain⟨h1,h2,h3⟩:=h
  cases hz:i.zero with
  | none=>rw[hz]at h1;cases h1
  | some z =>
   rw[hz]at h1;exact⟨i,rfl,z,hz,h2,h3,by simpa using h1⟩
theorem Zgg(A:Option Addr)(n c:Nat)(news:List Value)(w:World)(hl:news.length=n*5)(hA:A=none->n=0/\c=0)(hc:∀ a,A=some a->∀ j u,news[j]?=some u->w.cell? (a.add j)=some u)(h1:∀ u∈news,u.oneCell'=true)(hn:n<=2147483647) :
  Calls Tryz.prog 97 #[.slice A n c] w λe w'=>∃ v,e=.returned v/\w'.ownsRow w.heap.size 36 5 v n news/\Zf w w'/\(v=.slice none 0 0↔A=none):=by
 obtain⟨ie,hie,z,hz,hs,hb,hzs⟩:=Iq;have heq:∀ (W:World) (B:Option Addr) (l k:Nat),(binOp .eql 26 (.slice B l k) (.slice none 0 0)).run Tryz.prog W=.ok (.bool B.isNone) W:=λW B l k=>Go.run_eql_slice_nil W _ _ B l k Tryz.underlying26
 cases A with
 | none =>
  obtain⟨rfl,rfl⟩:=hA rfl;have hnil:news=[]:=List.eq_nil_of_length_eq_zero (by simpa using hl);subst hnil;clear hl hA hc h1;go_enter Tryz.func97,Tryz.ntmps97
  go_wp2_with fail
  first|go_ret|go_ret2
  exact⟨_,rfl,World.ownsRow_nil _ _ _ _,Fl _,by simp⟩
 | some a =>
  have hc2:=hc a rfl;have HC:=Hd (Ai1 hc2 h1);clear hA hc hc2 h1;go_enter Tryz.func97,Tryz.ntmps97
  go_wp2_with (first
   | (at_builtin;refine wpList_append_own_at _ rfl _ _ 26 rfl w.heap.size 36 ie z 5 56 Tryz.underlying26 hie hz hs hb hzs (by decide) _ 0 [] rfl (World.ownsRow_made w #[] 0 (Nl _) (by unfold maxLen;omega) (by simp)) a n c news rfl hl (λj u hu=>((Fe w).alloc _).cell (HC.out.1 j u hu) id) HC.out.2 (by unfold maxLen;omega) Om (by simp) ?_;intro v' w1 hown' hgrow hnil' hat)
   | fail)
  first|go_ret|go_ret2
  rw[Nat.zero_add,List.nil_append]at hown';refine⟨v',rfl,hown',((Fe w).alloc _).grown hgrow (λk hk hlt=>?_),?_⟩
  ·have hk':k=w.heap.size:=by
    have:some w.heap.size=some k:=hk;injection this with this
    exact this.symm
   omega
  ·constructor
   ·intro q;have:=(hnil'.1 q).1;cases this
   ·intro q;cases q
end
section
open Go.RowKit TR
abbrev Wb:=ByteArray×Int
def Xo(ms:List Wb):List (ByteArray×Value):=ms.foldl (λl m=>put l m.1 (.int .i8 m.2)) []
theorem L4(ms:List Wb)(m:Wb):Xo (ms++[m])=put (Xo ms) m.1 (.int .i8 m.2):=by simp[Xo]
theorem Gj(ms:List Wb)(A:Option Addr)(c:Nat)(w:World)(hA:∀ j (h:j<ms.length),∃ b o,A=some ⟨b,o,none⟩/\w.cell? ⟨b,o+j*2,none⟩=some (.string ms[j].1)/\w.cell? ⟨b,o+j*2+1,none⟩=some (.int .i64 ms[j].2))(hat:∀ m∈ms,0<=m.2/\m.2<=100)(hlen:ms.length<=100000) :
  Calls Tryz.prog 100 #[.slice A ms.length c] w λe w'=>e=.returned (.map (some w.heap.size))/\Zz Xx w.heap.size (Xo ms) w'/\Zf w w':=by
 have hmm:=@run_makeMap Tryz.prog;have HA:=Hd (Ai1 hA hat);clear hA hat;go_enter Tryz.func100,Tryz.ntmps100
 go_wp2_with fail
 go_loopw [9] (λv wr=>∃ k:Nat,k<=ms.length/\v=.int .i64 k/\Hid (Zz Xx w.heap.size (Xo (ms.take k)) wr/\Zf w wr)) (λv _=>ms.length-(intOf v).toNat)
 case atStart=>exact⟨0,Nat.zero_le _,rfl,Zz.made _ _,(Fl _).alloc _⟩
 case round =>
  obtain⟨k,hk,rfl,HI⟩:=hrel;by_cases hlt:k<ms.length
  ·obtain⟨hM,hF⟩:=HI.out;obtain⟨b,o,rfl,hc1,hc2⟩:=HA.out.1 k hlt;obtain⟨hp0,hp1⟩:=HA.out.2 _ (List.getElem_mem hlt);obtain⟨m,hm⟩:∃ m,m=ms[k]:=⟨_,rfl⟩;rw[<- hm]at hc1 hc2 hp0 hp1;obtain⟨nm,at'⟩:=m;have d1:=hF.cell hc1 id;have d2:=hF.cell hc2 id;simp only at d1 d2 hp0 hp1;have HX:=Hd (Ai1 hM (Ai1 hF hm));clear hM hF hm hc1 hc2 HI
   go_wp2_with (first
    | (at_mapUpdate;refine Yj rfl _ _ _ rfl Uw Tryz.underlying102 Tryz.underlying9 rfl (HX.out.1.alloc _) nm (.int .i8 at') rfl rfl ?_;intro w2 hm2 hf2 hs2)
    | fail)
   go_roundw
   case rel =>
    obtain⟨h1,h2,h3⟩:=HX.out;refine⟨k+1,Om,by go_num,?_,(h2.alloc _).trans hf2 (λj hj e=>absurd e (Nat.ne_of_lt hj))⟩;rw[List.take_succ_eq_append_getElem hlt,L4,<- h3];exact hm2
   case measure=>simp[intOf];omega
  ·obtain rfl:k=ms.length:=Om
   go_wp2_with fail
   first|go_ret|go_ret2
   obtain⟨hM,hF⟩:=HI.out;rw[List.take_length]at hM;exact⟨rfl,hM,hF⟩
end
section
open Go.RowKit TR
theorem Zfh(n:Int)(w:World):Calls Tryz.prog 56 #[.int .i64 n] w λe w'=>e=.returned (.bool (decide (-32768<=n/\n<=32767)))/\w'=w:=by
 by_cases h1:-32768<=n
 ·by_cases h2:n<=32767
  ·go_enter Tryz.func56,Tryz.ntmps56
   go_wp2
   first|go_ret|go_ret2
   exact⟨by simp[h1,h2],rfl⟩
  ·go_enter Tryz.func56,Tryz.ntmps56
   go_wp2
   first|go_ret|go_ret2
   exact⟨by simp[h2],rfl⟩
 ·go_enter Tryz.func56,Tryz.ntmps56
  go_wp2
  first|go_ret|go_ret2
  have hd:(decide (-32768<=n)&&decide (n<=32767))=false:=by
   rw[Bool.and_eq_false_iff];exact .inl (decide_eq_false Om)
  exact⟨by rw[hd];rfl,rfl⟩
theorem Zau(g n c:Nat)(f:Nat->Bool)(w:World)(hc:∀ j,j<n->w.cell? ⟨g,j,none⟩=some (.bool (f j)))(hn:n<=100000) :
  Calls Tryz.prog 112 #[.slice (some ⟨g,0,none⟩) n c,.bool false] w λe w'=>(∃ i:Int,e=.returned (.int .i64 i)/\(0<=i↔∃ j,j<n/\f j=false))/\w'=w:=by
 have HC:=Hd hc;clear hc;go_enter Tryz.func112,Tryz.ntmps112
 go_wp2_with fail
 go_loop [8] (λv=>∃ k:Nat,k<=n/\v=.int .i64 k/\Hid (∀ j,j<k->f j=true)) (λv=>n-(intOf v).toNat)
 case atStart=>exact⟨0,Nat.zero_le _,rfl,λj h=>Om⟩
 case round =>
  obtain⟨k,hk,rfl,HK⟩:=hrel;by_cases hlt:k<n
  ·have hck:=HC.out k hlt
   cases hf:f k with
   | false =>
    rw[hf]at hck;have HF:=Hd hf;clear hf
    go_wp2
    first|go_ret|go_ret2
    exact⟨⟨_,rfl,λ_=>⟨k,hlt,HF.out⟩,λ_=>Om⟩,rfl⟩
   | true =>
    rw[hf]at hck;have HF:=Hd hf;clear hf
    go_wp2
    go_round
    case rel =>
     refine⟨k+1,Om,by go_num,λj h=>?_⟩;by_cases e:j=k
     ·subst e;exact HF.out
     ·exact HK.out j Om
    case measure=>simp[intOf];omega
  ·obtain rfl:k=n:=Om
   go_wp2
   first|go_ret|go_ret2
   exact⟨⟨_,rfl,λh=>Om,λ⟨j,h1,h2⟩=>by rw[HK.out j h1]at h2;cases h2⟩,rfl⟩
theorem Im(g n c:Nat)(f:Nat->Bool)(w:World)(hc:∀ j,j<n->w.cell? ⟨g,j,none⟩=some (.bool (f j)))(hn:n<=100000) :
  Calls Tryz.prog 59 #[.slice (some ⟨g,0,none⟩) n c,.bool false] w λe w'=>(∃ b,e=.returned (.bool b)/\(b=true↔∃ j,j<n/\f j=false))/\w'=w:=by
 have hcall:=Zau g n c f w hc hn;clear hc;go_enter Tryz.func59,Tryz.ntmps59
 go_wp2_with (first|(go_at_call 112;refine hcall.mono ?_;rintro e w1 ⟨⟨i,rfl,hi⟩,rfl⟩;have HI:=Hd hi;clear hi)|fail)
 all_goals first|go_ret|go_ret2
 all_goals exact⟨⟨_,rfl,by rw[<- HI.out];simp⟩,rfl⟩
end
section
open Go.RowKit DT
def U3(H U:Nat)(l:List Qx)(w:World):Prop :=
 U<=w.heap.size/\∃ Fs:Nat->Nat->Prop,(∀ i (h:i<l.length),l[i].P (Fs i) w)/\(∀ i j,i<l.length->j<l.length->i≠j->∀ b,Fs i b->¬ Fs j b)/\(∀ i,i<l.length->∀ b,Fs i b->H<=b/\b<U)
theorem Yo.up{H:Nat}{l:List Qx}{w:World}(h:Yo H l w):U3 H w.heap.size l w:=⟨Nl _,h⟩
theorem U3.keep{H U:Nat}{l:List Qx}{S:Nat->Prop}{w w':World}(h:U3 H U l w)(f:Fr S w w')(hS:∀ b,H<=b->b<U->¬ S b):U3 H U l w':=by
 obtain⟨h0,Fs,h1,h2,h3⟩:=h;exact⟨Nt h0 f.size,Fs,λi hi=>(l[i]).st (h1 i hi) f.size (λb hF hb=>f.block b hb (hS b (h3 i hi b hF).1 (h3 i hi b hF).2)),h2,h3⟩
theorem U3.get{H U:Nat}{l:List Qx}{w:World}(h:U3 H U l w)(i:Nat)(hi:i<l.length):∃ F,l[i].P F w/\∀ b,F b->H<=b/\b<U:=by
 obtain⟨_,Fs,h1,_,h3⟩:=h;exact⟨Fs i,h1 i hi,h3 i hi⟩
theorem U3.upd0{H U:Nat}{l:List Qx}{w:World}(h:U3 H U l w)(i:Nat)(hi:i<l.length) :
  ∃ F,l[i].P F w/\(∀ b,F b->H<=b/\b<U)/\∀ (w':World) (A:Qx),Fr F w w'->A.P F w'->U3 H U (l.set i A) w':=by
 obtain⟨h0,Fs,h1,h2,h3⟩:=h;refine⟨Fs i,h1 i hi,h3 i hi,λw' A hf hA=>⟨Nt h0 hf.size,Fs,λk hk=>?_,λk j hk hj=>?_,λk hk=>?_⟩⟩
 ·rw[List.length_set]at hk;by_cases e:k=i
  ·subst e;simp only[List.getElem_set_self];exact hA
  ·rw[List.getElem_set_ne (λq=>e q.symm)];exact (l[k]).st (h1 k hk) hf.size (λb hb hlt=>hf.block b hlt (h2 k i hk hi e b hb))
 ·rw[List.length_set]at hk hj;exact h2 k j hk hj
 ·rw[List.length_set]at hk;exact h3 k hk
theorem U3.upd{H U:Nat}{l:List Qx}{w:World}(h:U3 H U l w)(i:Nat)(hi:i<l.length) :
  ∃ F,l[i].P F w/\(∀ b,F b->H<=b/\b<U)/\∀ (w':World) (A:Qx) (F':Nat->Prop),Fr F w w'->A.P F' w'->(∀ b,F' b->F b\/U<=b)->(∀ b,F' b->b<w'.heap.size)->H<=U->Yo H (l.set i A) w':=by
 obtain⟨h0,Fs,h1,h2,h3⟩:=h;refine⟨Fs i,h1 i hi,h3 i hi,λw' A F' hf hA hF hlt hH=>⟨λk=>if k=i then F' else Fs k,λk hk=>?_,λk j hk hj hkj b hb=>?_,λk hk b hb=>?_⟩⟩
 ·rw[List.length_set]at hk;by_cases e:k=i
  ·subst e;simp only[List.getElem_set_self,if_true];exact hA
  ·simp only[if_neg e];rw[List.getElem_set_ne (λq=>e q.symm)];exact (l[k]).st (h1 k hk) hf.size (λb hb hlt=>hf.block b hlt (h2 k i hk hi e b hb))
 ·rw[List.length_set]at hk hj;by_cases e:k=i
  ·rw[if_pos e]at hb;have e2:j≠i:=λq=>hkj (e.trans q.symm)
   simp only[if_neg e2];rcases hF b hb with q|q
   ·exact h2 i j hi hj (λq=>e2 q.symm) b q
   ·intro r;have:=(h3 j hj b r).2;omega
  ·rw[if_neg e]at hb;by_cases e2:j=i
   ·simp only[if_pos e2];intro r;rcases hF b r with q|q
    ·exact h2 k i hk hi e b hb q
    ·have:=(h3 k hk b hb).2;omega
   ·simp only[if_neg e2];exact h2 k j hk hj hkj b hb
 ·rw[List.length_set]at hk;have:=hf.size;by_cases e:k=i
  ·rw[if_pos e]at hb;rcases hF b hb with q|q
   ·exact⟨(h3 i hi b q).1,hlt b hb⟩
   ·exact⟨Om,hlt b hb⟩
  ·rw[if_neg e]at hb;have:=(h3 k hk b hb).2;exact⟨(h3 k hk b hb).1,Om⟩
theorem U3.rowDApp{H U:Nat}{l:List Qx}{α:Type}{d:Ty α}{T:TypeId}{v c:Value}{xs:List α}{x:α}{w:World}{n:Nat}(h:U3 H U l w)(i:Nat)(hi:i<l.length)(e:l[i]=Go.Proofs.YtlfoalomaofejaaGreatDoor.rowD d T v xs)(hn:xs.length=n)(hH:H<=U)(hr:d.R w (λj=>U<=j) x [c]) :
  ∃ cs:List Value,w.ownsRow 0 T 1 v n cs/\(∀ b,v.ownBlock=some b->H<=b/\b<U)/\∀ (wa w':World) (v':Value),Zf w wa->wa.grownBy w' v.ownBlock->w'.ownsRow 0 T 1 v' (n+1) (cs++[c])->(v'.ownBlock=v.ownBlock\/v'.ownBlock=some wa.heap.size)->Yo H (l.set i (Go.Proofs.YtlfoalomaofejaaGreatDoor.rowD d T v' (xs++[x]))) w':=by
 have hU:=h.1;obtain⟨F,h1,h2,h3⟩:=h.upd i hi;rw[e]at h1;obtain⟨cs,h0,ho,h4,h5⟩:=h1;subst hn;refine⟨cs,ho,λb hb=>h2 b (h4 b hb),λwa w' v' hxa hg hn hat=>?_⟩;have s2:=hxa.size;have s3:=hg.size;have hvo:∀ b,v.ownBlock=some b->b<U:=λb hb=>(h2 b (h4 b hb)).2
 have hv':∀ b,v'.ownBlock=some b->v.ownBlock=some b\/b=wa.heap.size:=λb hb=>by
  rcases hat with q|q
  ·left;rw[<- q];exact hb
  ·right;rw[q]at hb;injection hb with hb;exact hb.symm
 have F0:Fr (λj=>v.ownBlock=some j) w w':=(Fr.trans (S:=λj=>v.ownBlock=some j) (hxa.mono (λ_ _ e=>e.elim)) ((Fr.refl (λj=>v.ownBlock=some j) wa).grown hg (λk q _=>q)) (λ_ _ q=>q));refine h3 w' _ (λb=>F b\/(U<=b/\b<w'.heap.size)) (F0.mono (λj _ q=>h4 j q)) ⟨cs++[c],by simp[h0],by rw[List.length_append,List.length_singleton];exact hn,λb hb=>?_,λk hk hk'=>?_⟩ (λb hb=>hb.imp id (λq=>q.1)) (λb hb=>?_) hH
 ·rcases hv' b hb with q|q
  ·exact .inl (h4 b q)
  ·exact .inr ⟨Om,J4 hn hb⟩
 ·rcases Nat.lt_or_ge k xs.length with q|q
  ·have e1:(xs++[x])[k]=xs[k]:=List.getElem_append_left q;have e2:(cs++[c])[k]=cs[k]' Om:=List.getElem_append_left Om;rw[e1,e2];refine d.mono (λj _ ho=>⟨.inl ho.1,λr=>?_⟩) (d.move F0.size (λj hj ho=>F0.block j hj (λr=>ho.2 r)) (h5 k q Om));rcases hv' j r with z|z
   ·exact ho.2 z
   ·have:=(h2 j ho.1).2;omega
  ·have hk2:k=xs.length:=by rw[List.length_append,List.length_singleton]at hk;omega
   subst hk2;have e1:(xs++[x])[xs.length]=x:=(by simp);have e2:(cs++[c])[xs.length]'(by simp[h0])=c:=(by simp[<- h0]);rw[e1,e2];refine d.mono (λj hj ho=>⟨.inr ⟨ho.1,hj⟩,λr=>?_⟩) (d.move (O:=λj=>U<=j/\j<w.heap.size) F0.size (λj hj ho=>F0.block j hj (λr=>?_)) (d.mono (λj hj ho=>⟨ho,hj⟩) hr))
   ·rcases hv' j r with z|z
    ·have:=hvo j z;omega
    ·omega
   ·have:=hvo j r;omega
 ·rcases hb with q|q
  ·have:=(h2 b q).2;omega
  ·exact q.2
structure Sx(H:Nat)(w0:World)(l:List Qx)(w:World):Prop where
 st:Yo H l w
 fr:Zf w0 w
 eq:H=w0.heap.size
namespace Sx
variable{H:Nat}{w0 w w' w6:World}{l:List Qx}{o:Obj}
theorem le(h:Sx H w0 l w):H<=w.heap.size:=by rw[h.eq];exact h.fr.size
theorem nil(w:World):Sx w.heap.size w [] w:=⟨Yo.nil _ _,Fl _,rfl⟩
theorem ext(h:Sx H w0 l w)(f:Zf w w'):Sx H w0 l w':=⟨h.st.ext f,h.fr.then f,h.eq⟩
theorem low(h:Sx H w0 l w){S:Nat->Prop}(f:Fr S w w')(hS:∀ b,S b->H<=b):Zf w0 w':=h.fr.trans f (λj hj e=>by have:=hS j e;have:=h.eq;omega)
theorem snoc(h:Sx H w0 l w)(f:Zf w w')(A:Qx)(F':Nat->Prop)(hA:A.P F' w')(hF:∀ b,F' b->w.heap.size<=b/\b<w'.heap.size):Sx H w0 (l++[A]) w':=⟨h.st.snoc f h.le A F' hA hF,h.fr.then f,h.eq⟩
theorem box(h:Sx H w0 l w)(cs:Array Value)(T:TypeId):Sx H w0 (l++[Tj w.heap.size cs T]) (w.alloc (.cells cs T)) :=
 h.snoc ((Fl w).alloc _) _ (λb=>b=w.heap.size) ⟨alloc_at _ _,rfl⟩ (λb hb=>by rw[hb,Za];omega)
theorem add0(h:Sx H w0 l w)(A:Qx)(hA:A.P (λ_=>False) w):Sx H w0 (l++[A]) w:=h.snoc (Fl w) A (λ_=>False) hA (λ_ q=>q.elim)
theorem take(h:Sx H w0 l w)(n:Nat):Sx H w0 (l.take n) w:=by
 obtain⟨⟨Fs,h1,h2,h3⟩,h4,h5⟩:=h;refine⟨⟨Fs,λi hi=>?_,λi j hi hj=>?_,λi hi=>?_⟩,h4,h5⟩
 ·rw[List.length_take]at hi;rw[List.getElem_take];exact h1 i Om
 ·rw[List.length_take]at hi hj;exact h2 i j Om Om
 ·rw[List.length_take]at hi;exact h3 i Om
theorem init{A:Qx}(h:Sx H w0 (l++[A]) w):Sx H w0 l w:=by
 have:=h.take l.length;rwa[List.take_left]at this
theorem row{T:TypeId}{k n:Nat}{v:Value}{xs:List Value}(h:Sx H w0 l w)(i:Nat)(hi:i<l.length)(e:l[i]=Yn T k v n xs) :
  w.ownsRow 0 T k v n xs/\∀ {o:Obj} {w6:World} {v':Value} {n':Nat} {xs':List Value},(w.alloc o).grownBy w6 v.ownBlock->w6.ownsRow 0 T k v' n' xs'->(v'.ownBlock=v.ownBlock\/v'.ownBlock=some (w.alloc o).heap.size)->Sx H w0 (l.set i (Yn T k v' n' xs')) w6:=by
 obtain⟨a,b,c⟩:=h.st.row i hi e h.le;refine⟨a,λ{o w6 v' n' xs'} hg ho hat=>⟨(h.st.rowApp i hi e h.le hg ho hat).1,?_,h.eq⟩⟩;exact h.low (((Fr.refl (λj=>v.ownBlock=some j) w).alloc o).grown hg (λk q _=>q)) (λj q=>(b j q).1)
theorem cell{b:Nat}{cs:Array Value}{T:TypeId}(h:Sx H w0 l w)(i:Nat)(hi:i<l.length)(e:l[i]=Tj b cs T) :
  w.heap[b]?=some (.cells cs T (0,0))/\∀ (j:Nat) (u:Value),Sx H w0 (l.set i (Tj b (cs.setIfInBounds j u) T)) (w.setCell ⟨b,j,none⟩ u):=by
 obtain⟨a,hb,c⟩:=h.st.cell i hi e h.le;exact⟨a,λj u=>⟨c j u,h.low ((Fr.refl (λk=>k=b) w).setCell ⟨b,j,none⟩ u (λ_=>rfl)) (λk q=>by rw[q];exact hb),h.eq⟩⟩
theorem map{κ:Type}[DecidableEq κ]{kv:κ->Value}{r:Nat}{ps:List (κ×Value)}(h:Sx H w0 l w)(i:Nat)(hi:i<l.length)(e:l[i]=Lb kv r ps) :
  Zz kv r ps w/\H<=r/\∀ (w':World) (ps':List (κ×Value)),Fr (λj=>j=r) w w'->Zz kv r ps' w'->Sx H w0 (l.set i (Lb kv r ps')) w'/\U3 H w.heap.size (l.set i (Lb kv r ps')) w':=by
 obtain⟨a,hb,c⟩:=h.st.map i hi e h.le;refine⟨a,hb,λw' ps' f hm=>⟨⟨c w' ps' f hm,h.low f (λk q=>by rw[q];exact hb),h.eq⟩,?_⟩⟩;obtain⟨F,h1,_,h3⟩:=h.st.up.upd0 i hi;rw[e]at h1;exact h3 w' _ (f.mono (λj _ q=>by rw[q];exact h1.2)) ⟨hm,h1.2⟩
theorem block{b n:Nat}{T:TypeId}{f:Nat->Value}(h:Sx H w0 l w)(i:Nat)(hi:i<l.length)(e:l[i]=Pn b T n f) :
  w.rowIs b T n f/\∀ (j:Nat) (u:Value),Sx H w0 (l.set i (Pn b T n (λx=>if x=j then u else f x))) (w.setCell ⟨b,j,none⟩ u):=by
 obtain⟨a,hb,c⟩:=h.st.block i hi e h.le;exact⟨a,λj u=>⟨c j u,h.low ((Fr.refl (λk=>k=b) w).setCell ⟨b,j,none⟩ u (λ_=>rfl)) (λk q=>by rw[q];exact hb),h.eq⟩⟩
theorem own{α:Type}{d:Ty α}{T:TypeId}{v:Value}{xs:List α}(h:Sx H w0 l w)(i:Nat)(hi:i<l.length)(e:l[i]=rowD d T v xs):∃ A c,v=.slice A xs.length c:=by
 obtain⟨F,h1,_⟩:=h.st.get i hi;rw[e]at h1;obtain⟨cs,h0,ho,_⟩:=h1;obtain⟨_,⟨rfl,e2⟩|⟨g,cap,cur,rfl,_⟩⟩:=ho
 ·exact⟨_,_,by rw[e2]⟩
 ·exact⟨_,_,rfl⟩
theorem rowD{α:Type}{d:Ty α}{T:TypeId}{v c:Value}{xs:List α}{x:α}{n U:Nat}(h:Sx H w0 l w)(hU:U3 H U l w)(hle:H<=U)(i:Nat)(hi:i<l.length)(e:l[i]=Go.Proofs.YtlfoalomaofejaaGreatDoor.rowD d T v xs)(hn:xs.length=n)(hr:d.R w (λj=>U<=j) x [c]) :
  ∃ cs:List Value,w.ownsRow 0 T 1 v n cs/\∀ (o:Obj) (w6:World) (v':Value),(w.alloc o).grownBy w6 v.ownBlock->w6.ownsRow 0 T 1 v' (n+1) (cs++[c])->(v'.ownBlock=v.ownBlock\/v'.ownBlock=some (w.alloc o).heap.size)->Sx H w0 (l.set i (Go.Proofs.YtlfoalomaofejaaGreatDoor.rowD d T v' (xs++[x]))) w6:=by
 obtain⟨cs,a,b,c⟩:=hU.rowDApp i hi e hn hle hr;refine⟨cs,a,λo w6 v' hg ho hat=>⟨c _ w6 v' ((Fl w).alloc o) hg ho hat,?_,h.eq⟩⟩;exact h.low (((Fr.refl (λj=>v.ownBlock=some j) w).alloc o).grown hg (λk q _=>q)) (λj q=>(b j q).1)
theorem app{m:List Qx}(h:Sx H w0 l w)(f:Zf w w')(k:Yo w.heap.size m w'):Sx H w0 (l++m) w':=⟨h.st.app f k (Nl _) h.le,h.fr.then f,h.eq⟩
end Sx
theorem Zb{w:World}{b:Nat}{cs:Array Value}{T:TypeId}(h:w.heap[b]?=some (.cells cs T (0,0)))(j:Nat)(u:Value)(hj:cs[j]?=some u):w.cell? ⟨b,j,none⟩=some u:=by
 simp only[World.cell?,h];exact hj
end
end Go.Proofs.YtlfoalomaofejaaGreatDoor
