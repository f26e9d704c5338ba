/- BuildWithIDs. · Words in order -/
import Derived.Test.YtlfoalomaofejaaGreatDoorC14
set_option linter.all false
set_option maxRecDepth 100000
set_option maxHeartbeats 2000000
namespace Go.Proofs.YtlfoalomaofejaaGreatDoor
section
open Go.RowKit TR Go.Shelf
theorem Oc:∀ (a b:List UInt8),lex a b=true->¬ b<a
 | [],b,_=>by simp
 | a::s,[],h=>by simp[lex]at h
 | a::s,b::t,h=>by
  rw[List.cons_lt_cons_iff];simp only[lex]at h
  split at h
  ·rename_i hab;rintro (h1|⟨rfl,_⟩)
   ·exact absurd (UInt8.lt_trans hab h1) (UInt8.lt_irrefl _)
   ·exact UInt8.lt_irrefl _ hab
  ·split at h
   ·rename_i hab;subst hab;rintro (h1|⟨_,h1⟩)
    ·exact UInt8.lt_irrefl _ h1
    ·exact Oc s t h h1
   ·cases h
theorem N1(kws:List ByteArray)(kb ko kc:Nat)(w:World)(hk:∀ j (h:j<kws.length),w.cell? ⟨kb,ko+j,none⟩=some (.string kws[j]))(hs:kws.Pairwise λa b=>lex a.data.toList b.data.toList=true)(hsz:kws.length<=2147483647) :
  Calls Tryz.prog 229 #[.slice (some ⟨kb,ko,none⟩) kws.length kc] w λe w'=>e=.returned (.bool true)/\∃ q,w'=w.drewN q:=by
 have hcon:=AnyO.slices_IsSorted_string sortedS kb ko kc kws.toArray w (λi hi=>by
  have hi':i<kws.length:=by simpa using hi
  rw[hk i hi']
  simp[hi']) (by simp;omega)
 have hd:Lib.downOK (λx y:ByteArray=>decide (x.data.toList<y.data.toList)) kws.toArray (kws.toArray.size-1)=true:=by
  rw[Lib.downOK_iff];intro i hi;have hi':i+1<kws.length:=by simp at hi;omega
  simp only[decide_eq_false_iff_not];have:=Oc _ _ (List.pairwise_iff_getElem.1 hs i (i+1) Om hi' Om);have e1:kws.toArray[i+1]! = kws[i+1]:=by simp[hi']
  have e2:kws.toArray[i]! = kws[i]:=by simp[(Om:i<kws.length)]
  rw[e1,e2];exact this
 rw[hd]at hcon;rw[List.size_toArray]at hcon;exact hcon
def Zgt(w:World)(g n:Nat)(B C:F):Prop:=∃ cs:Array Value,w.heap[g]?=some (.cells cs 396 (0,0))/\cs.size=n*2/\∀ i,i<n->cs[i*2]?=some (.int .i32 (B i))/\cs[i*2+1]?=some (.int .i32 (C i))
def Zjr(w:World)(g n:Nat)(ks:List Key):Prop:=∃ B C T,Zgt w g n B C/\0<n/\n<=134217728/\Sub n B C T 0 ks/\B 0<=134217728/\∀ x,x<n->C x<=134217728 /\ -134217728<=C x
theorem Ke{n:Nat}{B C:F}{U:Nat->Prop}(G:FreeOk n B C U)(hu:Ups C U)(hn:n<=134217728):∀ x,x<n->C x<=134217728 /\ -134217728<=C x:=by
 intro x hx;by_cases h:U x
 ·by_cases h0:x=0
  ·subst h0;obtain⟨y,hy,hf⟩:=G.head;have:=hf.1;omega
  ·obtain⟨y,hy,e⟩:=hu x h h0;have:=G.lt y hy;omega
 ·obtain⟨y,e,hy⟩:=G.nxt x hx h;have:=hy.lt.2.1;omega
theorem E8{kws:List ByteArray}{ids:List Nat}(h:Srt (Zv kws ids 0 (List.range kws.length))):kws.Pairwise λa b=>lex a.data.toList b.data.toList=true:=by
 rw[List.pairwise_iff_getElem];intro i j hi hj hij;have:=List.pairwise_iff_getElem.1 h i j (by simpa [Zv] using hi) (by simpa [Zv] using hj) hij;simpa [Zv,Rw,Vx,hi,hj] using this
theorem Zj7{k:Key}{ks:List Key}(h:k∈ks):k.1.length+1<=Ro ks:=by
 induction ks with
 | nil=>cases h
 | cons a ks ih =>
  rw[Jb];rcases List.mem_cons.1 h with rfl|h
  ·omega
  ·have:=ih h;omega
theorem Zjl{kws:List ByteArray}{ids:List Nat}{w:World}{dp g:Nat}{B C:F}(hk:Mq kws ids)(D:DA w dp g 51200 B C)(G:FreeOk 51200 B C (λx=>x=0))(b0:B 0=1)(hs:Srt (Zv kws ids 0 (List.range kws.length)))
  (hv:Ro (Zv kws ids 0 (List.range kws.length))<=50000) (hne:0<kws.length):D9 kws ids 50000 w dp g 51200 0 0 1 256 (List.range kws.length) B C (λx=>x=0):=by
 refine⟨D,G,Om,rfl,Om,Om,λx hx=>Om,λ_=>⟨b0,λx hx=>hx⟩,⟨[0],by simp,λx hx=>by simp[hx]⟩,Om,λx hx h0=>absurd hx h0,λx hx h0=>absurd hx h0,?_,?_,hs,Om⟩
 ·intro e;have:(List.range kws.length).length=0:=by rw[e];rfl
  rw[List.length_range]at this;omega
 ·intro j hj;have hj':j<kws.length:=by simpa using hj
  refine⟨hj',Nat.zero_le _,?_⟩;have hm:Rw kws ids 0 j∈Zv kws ids 0 (List.range kws.length):=List.mem_map.2 ⟨j,hj,rfl⟩;have:=Zj7 hm;have e:(Rw kws ids 0 j).1.length=((kws[j]?).getD ByteArray.empty).size:=by simp[Rw,Vx]
  omega
theorem Zgo{kws:List ByteArray}{ids:List Nat}{w w1 wr w5 w6:World}{g n g6 m:Nat}{B C B2 C2:F}{U2:Nat->Prop}(hne:0<kws.length)(hm:m<=n)(HW:Hid (Zf w wr/\w1.heap.size<=wr.heap.size))
  (HQ:Hid (FreeOk n B2 C2 U2/\Ups C2 U2/\Hi 0 51200 B C (λx=>x=0) n B2 C2 U2/\Sub n B2 C2 (λx=>x=0\/(U2 x/\¬ x=0)) 0 (Zv kws ids 0 (List.range kws.length))/\Fr (two (w.heap.size+1) (w.heap.size+1+1)) wr w5/\(g=w.heap.size+1+1\/wr.heap.size<=g)))
  (HZ:Hid (DA w6 (w.heap.size+1) g6 m B2 C2/\(∀ x,m<=x->x<n->C2 x<0)/\Fr (λk=>k=w.heap.size+1) w5 w6/\(g6=g\/w5.heap.size<=g6))) (h1:w.heap.size+2<w1.heap.size) (hn:n<=134217728) :
  Zf w w6/\∃ g n,Ending.returned (.tuple #[.slice (some ⟨g6,0,none⟩) m m,.nilIface])=Ending.returned (.tuple #[.slice (some ⟨g,0,none⟩) n n,.nilIface])/\w.heap.size<=g/\Zjr w6 g n (Zv kws ids 0 (List.range kws.length)):=by
 obtain⟨hE,hs⟩:=HW.out;obtain⟨G,hu,S,Sb,F5,hg⟩:=HQ.out;obtain⟨D,hC,F6,hg6⟩:=HZ.out;have s5:=F5.size;refine⟨((hE.mono (λ_ _ e=>e.elim)).trans F5 (λj hj e=>?_)).trans F6 (λj hj e=>?_),g6,m,rfl,?_,B2,C2,_,D.arr,?_,Om,Sb.keep (λ_ h=>h) (λ_ _=>rfl) (λ_ _ _ _ _=>rfl) (λq hq x=>⟨λ⟨a,b⟩=>⟨Om,b⟩,λ⟨a,b⟩=>⟨?_,b⟩⟩),?_,λx hx=>Ke G hu hn x Om⟩
 ·exact e.elim (λe=>Om) (λe=>Om)
 ·omega
 ·rcases hg6 with rfl|h
  ·rcases hg with rfl|h
   ·omega
   ·omega
  ·omega
 ·cases Sb with
  | mk _ _ b hT hb h1' hch _ _ =>
   obtain⟨k,hk⟩:∃ k,k∈Zv kws ids 0 (List.range kws.length):=⟨Rw kws ids 0 0,List.mem_map.2 ⟨0,by simpa using hne,rfl⟩⟩;have h2:=(hch (hd k)).2 ⟨k,hk,rfl⟩;rcases Nat.lt_or_ge (b+(hd k).toNat) m with q|q
   ·omega
   ·have:=hC _ q h2.1;omega
 ·rcases Nat.lt_or_ge x m with q'|q'
  ·exact q'
  ·have:=hC x q' a;omega
 ·cases Sb with
  | mk _ _ b hT hb h1' hch _ _ =>
   have h2:=(hch (hd (Rw kws ids 0 0))).2 ⟨_,List.mem_map.2 ⟨0,by simpa using hne,rfl⟩,rfl⟩;omega
theorem Zgp(kws:List ByteArray)(ids:List Nat)(kb ko kc ib io ic:Nat)(hkeys:Mq kws ids)(w:World)(htab:Zj0 kws ids kb ko ib io w)(hsrt:Srt (Zv kws ids 0 (List.range kws.length)))(hv:Ro (Zv kws ids 0 (List.range kws.length))<=50000)(hne:0<kws.length) :
  Calls Tryz.prog 230 #[.slice (some ⟨kb,ko,none⟩) kws.length kc,.slice (some ⟨ib,io,none⟩) ids.length ic] w λe w'=>Zf w w'/\∃ g n,e=.returned (.tuple #[.slice (some ⟨g,0,none⟩) n n,.nilIface])/\w.heap.size<=g/\Zjr w' g n (Zv kws ids 0 (List.range kws.length)):=by
 have hlen:((kws.length:Int) != (ids.length:Int))=false:=by rw[hkeys.len];simp
 have hl0:((kws.length:Int)==0)=false:=beq_eq_false_iff_ne.2 Om;have hkl:=hkeys.short;have hmk:=run_make_row' (P:=Tryz.prog) 23 3 _ 8 Tryz.underlying23 Ks rfl .i64 .i64 kws.length Om Om;have HT:=Hd (Ai1 hkeys (Ai1 htab (Ai1 hsrt hv)));clear hkeys htab hsrt hv;go_enter Tryz.func230,Tryz.ntmps230
 go_wp2_with (first
  | (go_at_call 259;refine (Zat _ (w.heap.size+1) _ (alloc_at' _ _ (by rw[Za]))).mono ?_;rintro e w1 ⟨rfl,hx⟩;have HX:=Hd hx;clear hx)
  | fail)
 have HE:Hid (Zf w w1):=by
  obtain⟨B,C,D,G,b0,F⟩:=HX.out;exact (((Fe w).alloc _).alloc _).trans F (λj hj e=>Om)
 have hold:∀ a o v,w.cell? ⟨a,o,none⟩=some v->∀ q,(w1.drewN q).cell? ⟨a,o,none⟩=some v:=λa o v h q=>HE.out.cell h id
 refine (N1 kws kb ko kc _ (λj h=>hold _ _ _ (HT.out.2.1.key j h) 0) (E8 HT.out.2.2.1) hkl).mono ?_;rintro e w2 ⟨rfl,q,rfl⟩;go_upto_region 22 with fail
 have h1s:w.heap.size+2<w1.heap.size:=by
  obtain⟨B,C,D,G,b0,F⟩:=HX.out;have:=(D.lt).2;simp only[Za]at this;omega
 have R0:=World.rowIs_made (w1.drewN q) (.int .i64 0) kws.length 3;have F0:Zf w1 ((w1.drewN q).alloc (.cells (madeCells #[.int .i64 0] kws.length) 3)):=((Fl _).drewN q).alloc _;rw[show (w1.drewN q).heap.size=w1.heap.size from rfl]at R0;generalize World.alloc _ _=wm at R0 F0⊢;have HF:=Hd F0;have HR:=Hd R0;clear F0 R0 hmk;go_wp2_with fail
 go_loopw [13,67] (λ_ v wr=>∃ k:Nat,k<=kws.length/\v=.int .i64 k/\Hid (wr.rowIs w1.heap.size 3 kws.length (λi=>.int .i64 (if i<k then (i:Int) else 0))/\Fr (λj=>j=w1.heap.size) wm wr)) (λ_ v _=>kws.length-(intOf v).toNat)
 case atStart=>exact⟨0,Nat.zero_le _,rfl,HR.out.congr (λi hi=>by simp),Fl _⟩
 case round =>
  obtain⟨k,hk,rfl,HI⟩:=hrel;by_cases hlt:k<kws.length
  ·have c1:=HI.out.1.cell hlt;have f1:=HI.out.1.frozen k
   go_wp2
   go_roundw
   case rel =>
    refine⟨k+1,Om,by go_num,(HI.out.1.set k _).congr (λi hi=>?_),HI.out.2.setCell _ _ (λ_=>rfl)⟩;by_cases e:i=k
    ·subst e;simp
    ·simp only[if_neg e];by_cases e2:i<k
     ·rw[if_pos e2,if_pos Om]
     ·rw[if_neg e2,if_neg Om]
   case measure=>simp[intOf];omega
  ·obtain rfl:k=kws.length:=Om
   have hall:=HI.out.1;obtain⟨B,C,D,G,b0,F⟩:=HX.out;simp only[Za]at D;have hFr:Zf w1 wr:=HF.out.trans HI.out.2 (λj hj e=>absurd e (Nat.ne_of_lt hj));have D2:DA wr (w.heap.size+1) (w.heap.size+1+1) 51200 B C:=D.keep hFr id id;have hww:Zf w wr:=HE.out.ext hFr;have hpre:=Zjl (ids:=ids) HT.out.1 D2 G b0 HT.out.2.2.1 HT.out.2.2.2 hne
   have hcall:=Zei kws ids kb ko kc ib io ic HT.out.1 _ wr (w.heap.size+1) _ 51200 0 0 w1.heap.size 0 kws.length 1 256 (List.range kws.length) B C _ hpre
    ⟨λj h=>hww.cell (HT.out.2.1.key j h) id,λj h=>hww.cell (HT.out.2.1.id j h) id⟩ (λj hj=>by
     have hj':j<kws.length:=(by simpa using hj);rw[Nat.zero_add,hall.cell hj']
     simp[hj']) ⟨?_,?_,?_⟩
   ·have e0:((0:Nat):Int)=0:=rfl;rw[List.length_range,e0]at hcall;have HCall:=Hd hcall;have HW:=Hd (Ai1 hww hFr.size);clear hcall hpre D2 hww hFr D F b0 G hall hold HR HF HI HE;go_wp2_with (first|(go_at_call 260;refine HCall.out.mono ?_;rintro e w5 ⟨rfl,hx⟩;have HP:=Hd hx;clear hx)|fail)
    obtain⟨g,n,B2,C2,U2,D5,G5,S5,Sb5,hu5,_,_,hn5,F5,hg5⟩:=HP.out;have hn0:=S5.le;have HQ:=Hd (Ai1 G5 (Ai1 hu5 (Ai1 S5 (Ai1 Sb5 (Ai1 F5 hg5)))));clear HP G5 hu5 S5 Sb5 F5 hg5;go_wp2_with (first|(go_at_call 261;refine (Eb _ (w.heap.size+1) g n B2 C2 D5 Om Om).mono ?_;rintro e w6 ⟨rfl,g6,m,hm,hx⟩;have q6:=hx.1.pc;have HZ:=Hd hx;clear hx)|fail)
    first|go_ret2|go_ret
    exact Zgo hne hm HW HQ HZ h1s hn5
   ·exact λe=>e.elim (λe=>Om) (λe=>Om)
   ·have:=lt_of_cell (HT.out.2.1.key 0 hne);exact λe=>e.elim (λe=>by simp only at this;omega) (λe=>by simp only at this;omega)
   ·have:=lt_of_cell (HT.out.2.1.id 0 (by rw[HT.out.1.len];exact hne));exact λe=>e.elim (λe=>by simp only at this;omega) (λe=>by simp only at this;omega)
theorem Zdc(A A':Option Addr)(kc ic:Nat)(w:World) :
  Calls Tryz.prog 230 #[.slice A 0 kc,.slice A' 0 ic] w λe w'=>Zf w w'/\∃ g n,e=.returned (.tuple #[.slice (some ⟨g,0,none⟩) n n,.nilIface])/\w.heap.size<=g/\Zjr w' g n []:=by
 go_enter Tryz.func230,Tryz.ntmps230
 go_wp2_with (first
  | (go_at_call 259;refine (Zat _ (w.heap.size+1) _ (alloc_at' _ _ (by rw[Za]))).mono ?_;rintro e w1 ⟨rfl,hx⟩;obtain⟨B,C,D,G,b0,F⟩:=hx;have q1:=D.pc;have HX:=Hd (Ai1 D (Ai1 G (Ai1 b0 F)));clear D G b0 F)
  | fail)
 first|go_ret2|go_ret
 obtain⟨D,G,b0,F⟩:=HX.out;simp only[Za]at D;refine⟨(((Fe w).alloc _).alloc _).trans F (λj hj e=>Om),_,_,rfl,Om,B,C,λx=>x=0,D.arr,Om,Om,?_,Om,Ke G (λx hx h0=>absurd hx h0) Om⟩;refine .mk 0 [] 1 rfl b0 (Nl _) (λc=>⟨λ⟨h1,h2⟩=>?_,λ⟨k,hk,_⟩=>by cases hk⟩) (λi hi=>by simp[Vt]at hi) (λc _ ⟨k,hk,_⟩=>by cases hk);have:=(G.free_iff h1 Om).2 Om;omega
end
section
open TR
theorem Zai:∀ a:List UInt8,lex a a=true
 | []=>rfl
 | a::s=>by simp[lex,Zai s]
theorem Ny:∀ {a b:List UInt8},lex a b=true->lex b a=true->a=b
 | [],[],_,_=>rfl
 | [],b::t,_,h=>by simp[lex]at h
 | a::s,[],h,_=>by simp[lex]at h
 | a::s,b::t,h,k=>by
  simp only[lex]at h k
  split at h
  ·rename_i hab;rw[if_neg (λe=>UInt8.lt_irrefl _ (UInt8.lt_trans hab e)),if_neg (λe=>by subst e;exact UInt8.lt_irrefl _ hab)]at k;cases k
  ·split at h
   ·rename_i hab;subst hab;rw[if_neg (UInt8.lt_irrefl _),if_pos rfl]at k;rw[Ny h k]
   ·cases h
def Asc(ws:List ByteArray):Prop:=ws.Pairwise λa b=>lex a.data.toList b.data.toList=true
abbrev Dz:=ByteArray×Nat×Nat
def Sk(R:List Dz)(k:Nat)(x:ByteArray):List Dz :=
 match R.getLast? with
 | some (a,f,e)=>if x=a then R.dropLast++[(a,f,e+1)] else R++[(x,k,0)]
 | none=>[(x,k,0)]
def runs(ws:List ByteArray):List Dz:=ws.zipIdx.foldl (λR p=>Sk R p.2 p.1) []
theorem Pv(ws:List ByteArray)(x:ByteArray):runs (ws++[x])=Sk (runs ws) ws.length x:=by
 simp[runs,List.zipIdx_append]
def Ib(ws:List ByteArray)(s:ByteArray):List Nat:=(List.range ws.length).filter λj=>decide (ws[j]?.getD ByteArray.empty=s)
theorem Lm{a b:ByteArray}(h:a.data.toList=b.data.toList):a=b:=by
 cases a;cases b;simp only[ByteArray.mk.injEq];exact Array.toList_inj.1 h
theorem Gx(ws:List ByteArray)(x s:ByteArray):Ib (ws++[x]) s=Ib ws s++(if x=s then [ws.length] else []):=by
 unfold Ib;rw[List.length_append,List.length_singleton,List.range_succ,List.filter_append];congr 1
 ·apply List.filter_congr;intro j hj;have:j<ws.length:=by simpa using hj
  rw[List.getElem?_append_left this]
 ·by_cases e:x=s
  ·simp[e]
  ·simp[e]
structure Rm(ws:List ByteArray)(R:List Dz):Prop where
 idx:∀ r∈R,Ib ws r.1=List.range' r.2.1 (r.2.2+1)
 mem:∀ x,x∈ws↔∃ r∈R,r.1=x
 asc:R.Pairwise λa b=>lex a.1.data.toList b.1.data.toList=true/\a.1≠b.1
 last:(R.getLast?).map (·.1)=ws.getLast?
 lt:∀ r∈R,r.2.1+r.2.2<ws.length
theorem Qc:∀ (n:Nat) (ws:List ByteArray),ws.length=n->Asc ws->Rm ws (runs ws):=by
 intro n
 induction n with
 | zero =>
  intro ws h _;rw[List.eq_nil_of_length_eq_zero h];exact⟨λr hr=>by simp[runs]at hr,λx=>by simp[runs],List.Pairwise.nil,rfl,λr hr=>by simp[runs]at hr⟩
 | succ n ih =>
  intro ws h ha;obtain⟨vs,x,rfl⟩:∃ m c,ws=m++[c]:=⟨ws.dropLast,ws.getLast (by intro e;simp[e]at h),(List.dropLast_concat_getLast _).symm⟩;have hl:vs.length=n:=by simpa using h
  obtain⟨ha1,_,ha2⟩:=List.pairwise_append.1 ha;have o:=ih vs hl ha1;have hle:∀ y∈vs,lex y.data.toList x.data.toList=true:=λy hy=>ha2 y hy x (by simp)
  rw[Pv];generalize runs vs=R at o⊢;rcases List.eq_nil_or_concat R with rfl|⟨R',r,rfl⟩
  ·
   have hv:vs=[]:=by
    have:=o.last;simp at this;exact List.getLast?_eq_none_iff.1 this.symm
   subst hv;refine⟨λr hr=>?_,λy=>by simp[Sk,eq_comm],by simp[Sk],by simp[Sk],λr hr=>?_⟩
   ·simp[Sk]at hr;subst hr;simp[Ib,List.range_succ]
   ·simp[Sk]at hr;subst hr;simp
  ·obtain⟨a,f,e⟩:=r;rw[List.concat_eq_append]at o⊢
   have hstep:Sk (R'++[(a,f,e)]) vs.length x=if x=a then R'++[(a,f,e+1)] else R'++[(a,f,e)]++[(x,vs.length,0)]:=by
    simp[Sk]
   rw[hstep];have hlast:vs.getLast? = some a:=by have:=o.last;simpa using this.symm
   have hai:=o.idx (a,f,e) (by simp);have halt:=o.lt (a,f,e) (by simp);simp only at hai halt;obtain⟨hp1,_,hp2⟩:=List.pairwise_append.1 o.asc;by_cases hx:x=a
   ·subst hx;rw[if_pos rfl]
    have hend:f+(e+1)=vs.length:=by
     have hm:vs.length-1∈Ib vs x:=by
      have hpos:0<vs.length:=Om;refine List.mem_filter.2 ⟨List.mem_range.2 Om,?_⟩;rw[List.getLast?_eq_getElem?]at hlast;simp[hlast]
     rw[hai,List.mem_range'_1]at hm;omega
    refine⟨λr hr=>?_,λy=>?_,?_,by simp,λr hr=>?_⟩
    ·rw[Gx];rcases List.mem_append.1 hr with hr|hr
     ·have hne:=(hp2 r hr (x,f,e) (by simp)).2;rw[if_neg (λq=>hne q.symm),List.append_nil];exact o.idx r (List.mem_append_left _ hr)
     ·rw[List.mem_singleton.1 hr];simp only[if_true];rw[hai,(Om:vs.length=f+1*(e+1)),<- List.range'_concat]
    ·rw[List.mem_append,o.mem y,List.mem_singleton];constructor
     ·rintro (⟨r,hr,rfl⟩|rfl)
      ·rcases List.mem_append.1 hr with hr|hr
       ·exact⟨r,List.mem_append_left _ hr,rfl⟩
       ·exact⟨(x,f,e+1),by simp,by rw[List.mem_singleton.1 hr]⟩
      ·exact⟨(y,f,e+1),by simp,rfl⟩
     ·rintro⟨r,hr,rfl⟩;rcases List.mem_append.1 hr with hr|hr
      ·exact .inl ⟨r,List.mem_append_left _ hr,rfl⟩
      ·rw[List.mem_singleton.1 hr];exact .inr rfl
    ·rw[List.pairwise_append];refine⟨hp1,by simp,λr hr q hq=>?_⟩;rw[List.mem_singleton.1 hq];exact hp2 r hr (x,f,e) (by simp)
    ·rw[List.length_append,List.length_singleton];rcases List.mem_append.1 hr with hr|hr
     ·have:=o.lt r (List.mem_append_left _ hr);omega
     ·rw[List.mem_singleton.1 hr];simp only;omega
   ·rw[if_neg hx]
    have hnew:∀ r∈R'++[(a,f,e)],r.1≠x:=by
     intro r hr q;subst q;have h1:lex a.data.toList r.1.data.toList=true:=hle a (List.mem_of_getLast? hlast)
     have h2:lex r.1.data.toList a.data.toList=true:=by
      rcases List.mem_append.1 hr with hr|hr
      ·exact (hp2 r hr (a,f,e) (by simp)).1
      ·rw[List.mem_singleton.1 hr];exact Zai _
     exact hx (Lm (Ny h2 h1))
    have hno:Ib vs x=[]:=by
     refine List.filter_eq_nil_iff.2 λj hj=>?_
     have hj':j<vs.length:=(by simpa using hj);simp only[Ge hj',Option.getD_some,decide_eq_true_eq];intro q;obtain⟨r,hr,hr'⟩:=(o.mem x).1 (q▸List.getElem_mem hj');exact hnew r hr hr'
    refine⟨λr hr=>?_,λy=>?_,?_,by simp,λr hr=>?_⟩
    ·rw[Gx];rcases List.mem_append.1 hr with hr|hr
     ·rw[if_neg (λq=>hnew r hr q.symm),List.append_nil];exact o.idx r hr
     ·rw[List.mem_singleton.1 hr];simp[hno]
    ·rw[List.mem_append,o.mem y,List.mem_singleton];constructor
     ·rintro (⟨r,hr,rfl⟩|rfl)
      ·exact⟨r,List.mem_append_left _ hr,rfl⟩
      ·exact⟨(y,vs.length,0),by simp,rfl⟩
     ·rintro⟨r,hr,rfl⟩;rcases List.mem_append.1 hr with hr|hr
      ·exact .inl ⟨r,hr,rfl⟩
      ·rw[List.mem_singleton.1 hr];exact .inr rfl
    ·rw[List.pairwise_append];refine⟨o.asc,by simp,λr hr q hq=>?_⟩;rw[List.mem_singleton.1 hq];refine⟨?_,hnew r hr⟩;exact hle _ ((o.mem r.1).2 ⟨r,hr,rfl⟩)
    ·rw[List.length_append,List.length_singleton];rcases List.mem_append.1 hr with hr|hr
     ·have:=o.lt r hr;omega
     ·rw[List.mem_singleton.1 hr];simp
end
end Go.Proofs.YtlfoalomaofejaaGreatDoor
