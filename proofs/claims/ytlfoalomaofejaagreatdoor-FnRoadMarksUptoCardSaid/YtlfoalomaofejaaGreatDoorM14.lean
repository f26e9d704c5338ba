/- BuildWithIDs. · Words in order -/
import Derived.Test.YtlfoalomaofejaaGreatDoorM13
set_option linter.all false
set_option maxRecDepth 100000
set_option maxHeartbeats 2000000
namespace Go.Proofs.YtlfoalomaofejaaGreatDoor
section
open Go.RowKit TR Go.Shelf
theorem Oo:∀ (a b:List UInt8),lex a b=true->¬ b<a
 | [],b,_=>by simp
 | a::s,[],h=>by simp[lex]at h
 | a::s,b::t,h=>by
  rw[List.cons_lt_cons_iff];simp only[lex]at h
  split at h
  ·rename_i hab;rintro (h1|⟨rfl,_⟩)
   ·exact absurd (UInt8.lt_trans hab h1) (UInt8.lt_irrefl _)
   ·exact UInt8.lt_irrefl _ hab
  ·split at h
   ·rename_i hab;subst hab;rintro (h1|⟨_,h1⟩)
    ·exact UInt8.lt_irrefl _ h1
    ·exact Oo s t h h1
   ·cases h
theorem Mm(z:List ByteArray)(J I K:Nat)(w:World)(U:∀ j (h:j<z.length),w.cell? ⟨J,I+j,none⟩=some (.string z[j]))(M:z.Pairwise λa b=>lex a.data.toList b.data.toList=true)(L:z.length<=2147483647) :
  Calls Tryz.prog 229 #[.slice (some ⟨J,I,none⟩) z.length K] w λe w'=>e=.returned (.bool true)/\∃ q,w'=w.drewN q:=by
 have G:=AnyO.slices_IsSorted_string sortedS J I K z.toArray w (λi hi=>by
  have A:i<z.length:=by simpa using hi
  rw[U i A]
  simp[A]) (by simp;omega)
 have hd:Lib.downOK (λx y:ByteArray=>decide (x.data.toList<y.data.toList)) z.toArray (z.toArray.size-1)=true:=by
  rw[Lib.downOK_iff];intro i hi;have A:i+1<z.length:=by simp at hi;omega
  simp only[decide_eq_false_iff_not];have:=Oo _ _ (List.pairwise_iff_getElem.1 M i (i+1) Om A Om);have W:z.toArray[i+1]! = z[i+1]:=by simp[A]
  have V:z.toArray[i]! = z[i]:=by simp[(Om:i<z.length)]
  rw[W,V];exact this
 rw[hd]at G;rw[List.size_toArray]at G;exact G
def Zhv(w:World)(g n:Nat)(B C:F):Prop:=∃ cs:Array Value,w.heap[g]?=some (.cells cs 396 (0,0))/\cs.size=n*2/\∀ i,i<n->cs[i*2]?=some (.int .i32 (B i))/\cs[i*2+1]?=some (.int .i32 (C i))
def Zkw(w:World)(g n:Nat)(ks:List Key):Prop:=∃ B C T,Zhv w g n B C/\0<n/\n<=134217728/\Sub n B C T 0 ks/\B 0<=134217728/\∀ x,x<n->C x<=134217728 /\ -134217728<=C x
theorem Kz{n:Nat}{B C:F}{U:Nat->Prop}(G:FreeOk n B C U)(I:Ups C U)(K:n<=134217728):∀ x,x<n->C x<=134217728 /\ -134217728<=C x:=by
 intro x A;by_cases h:U x
 ·by_cases z:x=0
  ·subst z;obtain⟨y,q,J⟩:=G.head;have:=J.1;omega
  ·obtain⟨y,q,e⟩:=I x h z;have:=G.lt y q;omega
 ·obtain⟨y,e,q⟩:=G.nxt x A h;have:=q.lt.2.1;omega
theorem Dy{q:List ByteArray}{ids:List Nat}(h:Srt (Zx q ids 0 (List.range q.length))):q.Pairwise λa b=>lex a.data.toList b.data.toList=true:=by
 rw[List.pairwise_iff_getElem];intro i j hi A z;have:=List.pairwise_iff_getElem.1 h i j (by simpa [Zx] using hi) (by simpa [Zx] using A) z;simpa [Zx,Sq,V3,hi,A] using this
theorem Zk9{k:Key}{ks:List Key}(h:k∈ks):k.1.length+1<=Sg ks:=by
 induction ks with
 | nil=>cases h
 | cons a ks ih =>
  rw[Jv];rcases List.mem_cons.1 h with rfl|h
  ·omega
  ·have:=ih h;omega
theorem Zkq{h:List ByteArray}{ids:List Nat}{w:World}{J g:Nat}{B C:F}(W:M8 h ids)(D:DA w J g 51200 B C)(G:FreeOk 51200 B C (λx=>x=0))(U:B 0=1)(K:Srt (Zx h ids 0 (List.range h.length)))
  (V:Sg (Zx h ids 0 (List.range h.length))<=50000) (L:0<h.length):Bd h ids 50000 w J g 51200 0 0 1 256 (List.range h.length) B C (λx=>x=0):=by
 refine⟨D,G,Om,rfl,Om,Om,λx q=>Om,λ_=>⟨U,λx q=>q⟩,⟨[0],by simp,λx q=>by simp[q]⟩,Om,λx q A=>absurd q A,λx q A=>absurd q A,?_,?_,K,Om⟩
 ·intro e;have:(List.range h.length).length=0:=by rw[e];rfl
  rw[List.length_range]at this;omega
 ·intro j I;have z:j<h.length:=by simpa using I
  refine⟨z,Nat.zero_le _,?_⟩;have M:Sq h ids 0 j∈Zx h ids 0 (List.range h.length):=List.mem_map.2 ⟨j,I,rfl⟩;have:=Zk9 M;have e:(Sq h ids 0 j).1.length=((h[j]?).getD ByteArray.empty).size:=by simp[Sq,V3]
  omega
theorem Zhq{z:List ByteArray}{ids:List Nat}{w X wr M K:World}{g n g6 m:Nat}{B C J A:F}{L:Nat->Prop}(I:0<z.length)(hm:m<=n)(HW:Hid (Zf w wr/\X.heap.size<=wr.heap.size))
  (HQ:Hid (FreeOk n J A L/\Ups A L/\Gg 0 51200 B C (λx=>x=0) n J A L/\Sub n J A (λx=>x=0\/(L x/\¬ x=0)) 0 (Zx z ids 0 (List.range z.length))/\Fr (two (w.heap.size+1) (w.heap.size+1+1)) wr M/\(g=w.heap.size+1+1\/wr.heap.size<=g)))
  (HZ:Hid (DA K (w.heap.size+1) g6 m J A/\(∀ x,m<=x->x<n->A x<0)/\Fr (λk=>k=w.heap.size+1) M K/\(g6=g\/M.heap.size<=g6))) (h1:w.heap.size+2<X.heap.size) (hn:n<=134217728) :
  Zf w K/\∃ g n,Ending.returned (.tuple #[.slice (some ⟨g6,0,none⟩) m m,.nilIface])=Ending.returned (.tuple #[.slice (some ⟨g,0,none⟩) n n,.nilIface])/\w.heap.size<=g/\Zkw K g n (Zx z ids 0 (List.range z.length)):=by
 obtain⟨hE,hs⟩:=HW.out;obtain⟨G,hu,S,W,Z,hg⟩:=HQ.out;obtain⟨D,Y,F6,V⟩:=HZ.out;have s5:=Z.size;refine⟨((hE.mono (λ_ _ e=>e.elim)).trans Z (λj hj e=>?_)).trans F6 (λj hj e=>?_),g6,m,rfl,?_,J,A,_,D.arr,?_,Om,W.keep (λ_ h=>h) (λ_ _=>rfl) (λ_ _ _ _ _=>rfl) (λq hq x=>⟨λ⟨a,b⟩=>⟨Om,b⟩,λ⟨a,b⟩=>⟨?_,b⟩⟩),?_,λx hx=>Kz G hu hn x Om⟩
 ·exact e.elim (λe=>Om) (λe=>Om)
 ·omega
 ·rcases V with rfl|h
  ·rcases hg with rfl|h
   ·omega
   ·omega
  ·omega
 ·cases W with
  | mk _ _ b hT hb h1' hch _ _ =>
   obtain⟨k,hk⟩:∃ k,k∈Zx z ids 0 (List.range z.length):=⟨Sq z ids 0 0,List.mem_map.2 ⟨0,by simpa using I,rfl⟩⟩;have h2:=(hch (hd k)).2 ⟨k,hk,rfl⟩;rcases Nat.lt_or_ge (b+(hd k).toNat) m with q|q
   ·omega
   ·have:=Y _ q h2.1;omega
 ·rcases Nat.lt_or_ge x m with U|U
  ·exact U
  ·have:=Y x U a;omega
 ·cases W with
  | mk _ _ b hT hb h1' hch _ _ =>
   have h2:=(hch (hd (Sq z ids 0 0))).2 ⟨_,List.mem_map.2 ⟨0,by simpa using I,rfl⟩,rfl⟩;omega
theorem Zhr(z:List ByteArray)(ids:List Nat)(kb ko kc ib io ic:Nat)(A:M8 z ids)(w:World)(W:Zk5 z ids kb ko ib io w)(X:Srt (Zx z ids 0 (List.range z.length)))(hv:Sg (Zx z ids 0 (List.range z.length))<=50000)(U:0<z.length) :
  Calls Tryz.prog 230 #[.slice (some ⟨kb,ko,none⟩) z.length kc,.slice (some ⟨ib,io,none⟩) ids.length ic] w λe w'=>Zf w w'/\∃ g n,e=.returned (.tuple #[.slice (some ⟨g,0,none⟩) n n,.nilIface])/\w.heap.size<=g/\Zkw w' g n (Zx z ids 0 (List.range z.length)):=by
 have al:((z.length:Int) != (ids.length:Int))=false:=by rw[A.len];simp
 have ao:((z.length:Int)==0)=false:=beq_eq_false_iff_ne.2 Om;have aj:=A.short;have ah:=run_make_row' (P:=Tryz.prog) 23 3 _ 8 Tryz.underlying23 Jm rfl .i64 .i64 z.length Om Om;have K:=Hd (Ai1 A (Ai1 W (Ai1 X hv)));clear A W X hv;go_enter Tryz.func230,Tryz.ntmps230
 go_wp2_with (first
  | (go_at_call 259;refine (Zbj _ (w.heap.size+1) _ (alloc_at' _ _ (by rw[Za]))).mono ?_;rintro e J ⟨rfl,L⟩;have HX:=Hd L;clear L)
  | fail)
 have HE:Hid (Zf w J):=by
  obtain⟨B,C,D,G,b0,F⟩:=HX.out;exact (((Fe w).alloc _).alloc _).trans F (λj hj e=>Om)
 have Z:∀ a o v,w.cell? ⟨a,o,none⟩=some v->∀ q,(J.drewN q).cell? ⟨a,o,none⟩=some v:=λa o v h q=>HE.out.cell h id
 refine (Mm z kb ko kc _ (λj h=>Z _ _ _ (K.out.2.1.key j h) 0) (Dy K.out.2.2.1) aj).mono ?_;rintro e w2 ⟨rfl,q,rfl⟩;go_upto_region 22 with fail
 have ak:w.heap.size+2<J.heap.size:=by
  obtain⟨B,C,D,G,b0,F⟩:=HX.out;have:=(D.lt).2;simp only[Za]at this;omega
 have R0:=World.rowIs_made (J.drewN q) (.int .i64 0) z.length 3;have F0:Zf J ((J.drewN q).alloc (.cells (madeCells #[.int .i64 0] z.length) 3)):=((Fl _).drewN q).alloc _;rw[show (J.drewN q).heap.size=J.heap.size from rfl]at R0;generalize World.alloc _ _=wm at R0 F0⊢;have HF:=Hd F0;have HR:=Hd R0;clear F0 R0 ah;go_wp2_with fail
 go_loopw [13,67] (λ_ v wr=>∃ k:Nat,k<=z.length/\v=.int .i64 k/\Hid (wr.rowIs J.heap.size 3 z.length (λi=>.int .i64 (if i<k then (i:Int) else 0))/\Fr (λj=>j=J.heap.size) wm wr)) (λ_ v _=>z.length-(intOf v).toNat)
 case atStart=>exact⟨0,Nat.zero_le _,rfl,HR.out.congr (λi hi=>by simp),Fl _⟩
 case round =>
  obtain⟨k,hk,rfl,HI⟩:=hrel;by_cases ai:k<z.length
  ·have c1:=HI.out.1.cell ai;have f1:=HI.out.1.frozen k
   go_wp2
   go_roundw
   case rel =>
    refine⟨k+1,Om,by go_num,(HI.out.1.set k _).congr (λi hi=>?_),HI.out.2.setCell _ _ (λ_=>rfl)⟩;by_cases e:i=k
    ·subst e;simp
    ·simp only[if_neg e];by_cases e2:i<k
     ·rw[if_pos e2,if_pos Om]
     ·rw[if_neg e2,if_neg Om]
   case measure=>simp[intOf];omega
  ·obtain rfl:k=z.length:=Om
   have aa:=HI.out.1;obtain⟨B,C,D,G,b0,F⟩:=HX.out;simp only[Za]at D;have V:Zf J wr:=HF.out.trans HI.out.2 (λj hj e=>absurd e (Nat.ne_of_lt hj));have D2:DA wr (w.heap.size+1) (w.heap.size+1+1) 51200 B C:=D.keep V id id;have M:Zf w wr:=HE.out.ext V;have Y:=Zkq (ids:=ids) K.out.1 D2 G b0 K.out.2.2.1 K.out.2.2.2 U
   have I:=Zfj z ids kb ko kc ib io ic K.out.1 _ wr (w.heap.size+1) _ 51200 0 0 J.heap.size 0 z.length 1 256 (List.range z.length) B C _ Y
    ⟨λj h=>M.cell (K.out.2.1.key j h) id,λj h=>M.cell (K.out.2.1.id j h) id⟩ (λj hj=>by
     have ad:j<z.length:=(by simpa using hj);rw[Nat.zero_add,aa.cell ad]
     simp[ad]) ⟨?_,?_,?_⟩
   ·have e0:((0:Nat):Int)=0:=rfl;rw[List.length_range,e0]at I;have ab:=Hd I;have HW:=Hd (Ai1 M V.size);clear I Y D2 M V D F b0 G aa Z HR HF HI HE;go_wp2_with (first|(go_at_call 260;refine ab.out.mono ?_;rintro e w5 ⟨rfl,L⟩;have HP:=Hd L;clear L)|fail)
    obtain⟨g,n,B2,C2,U2,D5,G5,S5,af,ac,_,_,ag,F5,ae⟩:=HP.out;have am:=S5.le;have HQ:=Hd (Ai1 G5 (Ai1 ac (Ai1 S5 (Ai1 af (Ai1 F5 ae)))));clear HP G5 ac S5 af F5 ae;go_wp2_with (first|(go_at_call 261;refine (Ey _ (w.heap.size+1) g n B2 C2 D5 Om Om).mono ?_;rintro e w6 ⟨rfl,g6,m,hm,L⟩;have q6:=L.1.pc;have HZ:=Hd L;clear L)|fail)
    first|go_ret2|go_ret
    exact Zhq U hm HW HQ HZ ak ag
   ·exact λe=>e.elim (λe=>Om) (λe=>Om)
   ·have:=lt_of_cell (K.out.2.1.key 0 U);exact λe=>e.elim (λe=>by simp only at this;omega) (λe=>by simp only at this;omega)
   ·have:=lt_of_cell (K.out.2.1.id 0 (by rw[K.out.1.len];exact U));exact λe=>e.elim (λe=>by simp only at this;omega) (λe=>by simp only at this;omega)
theorem Zd3(A M:Option Addr)(I J:Nat)(w:World) :
  Calls Tryz.prog 230 #[.slice A 0 I,.slice M 0 J] w λe w'=>Zf w w'/\∃ g n,e=.returned (.tuple #[.slice (some ⟨g,0,none⟩) n n,.nilIface])/\w.heap.size<=g/\Zkw w' g n []:=by
 go_enter Tryz.func230,Tryz.ntmps230
 go_wp2_with (first
  | (go_at_call 259;refine (Zbj _ (w.heap.size+1) _ (alloc_at' _ _ (by rw[Za]))).mono ?_;rintro e U ⟨rfl,q⟩;obtain⟨B,C,D,G,h,F⟩:=q;have V:=D.pc;have L:=Hd (Ai1 D (Ai1 G (Ai1 h F)));clear D G h F)
  | fail)
 first|go_ret2|go_ret
 obtain⟨D,G,h,F⟩:=L.out;simp only[Za]at D;refine⟨(((Fe w).alloc _).alloc _).trans F (λj W e=>Om),_,_,rfl,Om,B,C,λx=>x=0,D.arr,Om,Om,?_,Om,Kz G (λx q K=>absurd q K) Om⟩;refine .mk 0 [] 1 rfl h (Nl _) (λc=>⟨λ⟨h1,h2⟩=>?_,λ⟨k,z,_⟩=>by cases z⟩) (λi hi=>by simp[Vz]at hi) (λc _ ⟨k,z,_⟩=>by cases z);have:=(G.free_iff h1 Om).2 Om;omega
end
section
open TR
theorem Za6:∀ a:List UInt8,lex a a=true
 | []=>rfl
 | a::s=>by simp[lex,Za6 s]
theorem Mh:∀ {a b:List UInt8},lex a b=true->lex b a=true->a=b
 | [],[],_,_=>rfl
 | [],b::t,_,h=>by simp[lex]at h
 | a::s,[],h,_=>by simp[lex]at h
 | a::s,b::t,h,k=>by
  simp only[lex]at h k
  split at h
  ·rename_i hab;rw[if_neg (λe=>UInt8.lt_irrefl _ (UInt8.lt_trans hab e)),if_neg (λe=>by subst e;exact UInt8.lt_irrefl _ hab)]at k;cases k
  ·split at h
   ·rename_i hab;subst hab;rw[if_neg (UInt8.lt_irrefl _),if_pos rfl]at k;rw[Mh h k]
   ·cases h
def Asc(ws:List ByteArray):Prop:=ws.Pairwise λa b=>lex a.data.toList b.data.toList=true
abbrev Ba:=ByteArray×Nat×Nat
def Tw(R:List Ba)(k:Nat)(x:ByteArray):List Ba :=
 match R.getLast? with
 | some (a,f,e)=>if x=a then R.dropLast++[(a,f,e+1)] else R++[(x,k,0)]
 | none=>[(x,k,0)]
def runs(ws:List ByteArray):List Ba:=ws.zipIdx.foldl (λR p=>Tw R p.2 p.1) []
theorem P7(ws:List ByteArray)(x:ByteArray):runs (ws++[x])=Tw (runs ws) ws.length x:=by
 simp[runs,List.zipIdx_append]
def Iz(ws:List ByteArray)(s:ByteArray):List Nat:=(List.range ws.length).filter λj=>decide (ws[j]?.getD ByteArray.empty=s)
theorem L3{a b:ByteArray}(h:a.data.toList=b.data.toList):a=b:=by
 cases a;cases b;simp only[ByteArray.mk.injEq];exact Array.toList_inj.1 h
theorem Fv(ws:List ByteArray)(x s:ByteArray):Iz (ws++[x]) s=Iz ws s++(if x=s then [ws.length] else []):=by
 unfold Iz;rw[List.length_append,List.length_singleton,List.range_succ,List.filter_append];congr 1
 ·apply List.filter_congr;intro j h;have:j<ws.length:=by simpa using h
  rw[List.getElem?_append_left this]
 ·by_cases e:x=s
  ·simp[e]
  ·simp[e]
structure Se(ws:List ByteArray)(R:List Ba):Prop where
 idx:∀ r∈R,Iz ws r.1=List.range' r.2.1 (r.2.2+1)
 mem:∀ x,x∈ws↔∃ r∈R,r.1=x
 asc:R.Pairwise λa b=>lex a.1.data.toList b.1.data.toList=true/\a.1≠b.1
 last:(R.getLast?).map (·.1)=ws.getLast?
 lt:∀ r∈R,r.2.1+r.2.2<ws.length
theorem Rh:∀ (n:Nat) (ws:List ByteArray),ws.length=n->Asc ws->Se ws (runs ws):=by
 intro n
 induction n with
 | zero =>
  intro ws h _;rw[List.eq_nil_of_length_eq_zero h];exact⟨λr z=>by simp[runs]at z,λx=>by simp[runs],List.Pairwise.nil,rfl,λr z=>by simp[runs]at z⟩
 | succ n ih =>
  intro ws h ha;obtain⟨A,x,rfl⟩:∃ m c,ws=m++[c]:=⟨ws.dropLast,ws.getLast (by intro e;simp[e]at h),(List.dropLast_concat_getLast _).symm⟩;have hl:A.length=n:=by simpa using h
  obtain⟨ad,_,ac⟩:=List.pairwise_append.1 ha;have o:=ih A hl ad;have M:∀ y∈A,lex y.data.toList x.data.toList=true:=λy hy=>ac y hy x (by simp)
  rw[P7];generalize runs A=R at o⊢;rcases List.eq_nil_or_concat R with rfl|⟨V,r,rfl⟩
  ·
   have hv:A=[]:=by
    have:=o.last;simp at this;exact List.getLast?_eq_none_iff.1 this.symm
   subst hv;refine⟨λr z=>?_,λy=>by simp[Tw,eq_comm],by simp[Tw],by simp[Tw],λr z=>?_⟩
   ·simp[Tw]at z;subst z;simp[Iz,List.range_succ]
   ·simp[Tw]at z;subst z;simp
  ·obtain⟨a,f,e⟩:=r;rw[List.concat_eq_append]at o⊢
   have J:Tw (V++[(a,f,e)]) A.length x=if x=a then V++[(a,f,e+1)] else V++[(a,f,e)]++[(x,A.length,0)]:=by
    simp[Tw]
   rw[J];have G:A.getLast? = some a:=by have:=o.last;simpa using this.symm
   have L:=o.idx (a,f,e) (by simp);have halt:=o.lt (a,f,e) (by simp);simp only at L halt;obtain⟨Z,_,K⟩:=List.pairwise_append.1 o.asc;by_cases W:x=a
   ·subst W;rw[if_pos rfl]
    have af:f+(e+1)=A.length:=by
     have hm:A.length-1∈Iz A x:=by
      have ae:0<A.length:=Om;refine List.mem_filter.2 ⟨List.mem_range.2 Om,?_⟩;rw[List.getLast?_eq_getElem?]at G;simp[G]
     rw[L,List.mem_range'_1]at hm;omega
    refine⟨λr z=>?_,λy=>?_,?_,by simp,λr z=>?_⟩
    ·rw[Fv];rcases List.mem_append.1 z with z|z
     ·have ab:=(K r z (x,f,e) (by simp)).2;rw[if_neg (λq=>ab q.symm),List.append_nil];exact o.idx r (List.mem_append_left _ z)
     ·rw[List.mem_singleton.1 z];simp only[if_true];rw[L,(Om:A.length=f+1*(e+1)),<- List.range'_concat]
    ·rw[List.mem_append,o.mem y,List.mem_singleton];constructor
     ·rintro (⟨r,z,rfl⟩|rfl)
      ·rcases List.mem_append.1 z with z|z
       ·exact⟨r,List.mem_append_left _ z,rfl⟩
       ·exact⟨(x,f,e+1),by simp,by rw[List.mem_singleton.1 z]⟩
      ·exact⟨(y,f,e+1),by simp,rfl⟩
     ·rintro⟨r,z,rfl⟩;rcases List.mem_append.1 z with z|z
      ·exact .inl ⟨r,List.mem_append_left _ z,rfl⟩
      ·rw[List.mem_singleton.1 z];exact .inr rfl
    ·rw[List.pairwise_append];refine⟨Z,by simp,λr z q Y=>?_⟩;rw[List.mem_singleton.1 Y];exact K r z (x,f,e) (by simp)
    ·rw[List.length_append,List.length_singleton];rcases List.mem_append.1 z with z|z
     ·have:=o.lt r (List.mem_append_left _ z);omega
     ·rw[List.mem_singleton.1 z];simp only;omega
   ·rw[if_neg W]
    have I:∀ r∈V++[(a,f,e)],r.1≠x:=by
     intro r z q;subst q;have h1:lex a.data.toList r.1.data.toList=true:=M a (List.mem_of_getLast? G)
     have h2:lex r.1.data.toList a.data.toList=true:=by
      rcases List.mem_append.1 z with z|z
      ·exact (K r z (a,f,e) (by simp)).1
      ·rw[List.mem_singleton.1 z];exact Za6 _
     exact W (L3 (Mh h2 h1))
    have aa:Iz A x=[]:=by
     refine List.filter_eq_nil_iff.2 λj hj=>?_
     have U:j<A.length:=(by simpa using hj);simp only[Ge U,Option.getD_some,decide_eq_true_eq];intro q;obtain⟨r,z,X⟩:=(o.mem x).1 (q▸List.getElem_mem U);exact I r z X
    refine⟨λr z=>?_,λy=>?_,?_,by simp,λr z=>?_⟩
    ·rw[Fv];rcases List.mem_append.1 z with z|z
     ·rw[if_neg (λq=>I r z q.symm),List.append_nil];exact o.idx r z
     ·rw[List.mem_singleton.1 z];simp[aa]
    ·rw[List.mem_append,o.mem y,List.mem_singleton];constructor
     ·rintro (⟨r,z,rfl⟩|rfl)
      ·exact⟨r,List.mem_append_left _ z,rfl⟩
      ·exact⟨(y,A.length,0),by simp,rfl⟩
     ·rintro⟨r,z,rfl⟩;rcases List.mem_append.1 z with z|z
      ·exact .inl ⟨r,z,rfl⟩
      ·rw[List.mem_singleton.1 z];exact .inr rfl
    ·rw[List.pairwise_append];refine⟨o.asc,by simp,λr z q Y=>?_⟩;rw[List.mem_singleton.1 Y];refine⟨?_,I r z⟩;exact M _ ((o.mem r.1).2 ⟨r,z,rfl⟩)
    ·rw[List.length_append,List.length_singleton];rcases List.mem_append.1 z with z|z
     ·have:=o.lt r z;omega
     ·rw[List.mem_singleton.1 z];simp
end
end Go.Proofs.YtlfoalomaofejaaGreatDoor
