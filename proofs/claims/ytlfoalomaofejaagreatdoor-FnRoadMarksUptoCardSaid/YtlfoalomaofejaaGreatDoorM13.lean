/- add: the walk. -/
import Derived.Test.YtlfoalomaofejaaGreatDoorM12
import Derived.Deep.AppendLies
set_option linter.all false
set_option maxRecDepth 100000
set_option maxHeartbeats 4000000
namespace Go.Proofs.YtlfoalomaofejaaGreatDoor
open Go.RowKit TR
def Va(w:World)(kws:List ByteArray)(i:Nat)(bs:List Nat)(k k':Nat)(cv:Value)(wr:World):Prop :=
 ∃ l,Rows kws i (w.heap.size+1) w.heap.size (bs.take k) l wr/\wr.ownsRow (w.heap.size+1) 5 1 cv (dd ((bs.take k').map (Yw kws i))).length ((dd ((bs.take k').map (Yw kws i))).map Lt) /\
  (∀ c v g,look l c=some v->v.ownBlock=some g->cv.ownBlock≠some g)/\Zf w wr/\w.heap.size+1<=wr.heap.size/\(dd ((bs.take k').map (Yw kws i))=[]->cv=.slice none 0 0)
theorem Va.alloc{w:World}{kws:List ByteArray}{i:Nat}{bs:List Nat}{k k':Nat}{cv:Value}{wr:World}(h:Va w kws i bs k k' cv wr)(o:Obj):Va w kws i bs k k' cv (wr.alloc o):=by
 obtain⟨l,h1,h2,h3,h4,z,q⟩:=h;exact⟨l,h1.alloc o,h2.alloc o,h3,h4.alloc o,by simp;omega,q⟩
theorem Va.drew{w:World}{kws:List ByteArray}{i:Nat}{bs:List Nat}{k k':Nat}{cv:Value}{wr:World}(h:Va w kws i bs k k' cv wr):Va w kws i bs k k' cv wr.drew:=by
 obtain⟨l,h1,h2,h3,h4,z,q⟩:=h;exact⟨l,h1.keep ((Fe wr).drew) id (λ_ _ _ _ _=>id),h2,h3,h4.drew,z,q⟩
theorem Zjo:(Tryz.prog.info? 5).map (λi=>(i.zero,i.size,i.bytes))=some (some (.int .u8 0),1,1):=Kr
theorem Jm:(Tryz.prog.info? 3).map (λi=>(i.zero,i.size,i.bytes))=some (some (.int .i64 0),1,8):=Kr
theorem Jp(w:World):(zeroValue 23).run Tryz.prog w=.ok (.slice none 0 0) w:=Kr
theorem Zfg{kws:List ByteArray}{i:Nat}{bs:List Nat}{k:Nat}(h:k<bs.length) :
  dd ((bs.take (k+1)).map (Yw kws i))=Nk (dd ((bs.take k).map (Yw kws i))) (Yw kws i bs[k]):=by
 rw[List.take_succ_eq_append_getElem h,List.map_append];exact Cw _ _
theorem Znx(l:List UInt8):(dd l).length<=l.length:=by
 induction h:l.length generalizing l with
 | zero=>rw[List.eq_nil_of_length_eq_zero h];simp[dd]
 | succ n ih =>
  obtain⟨m,c,rfl⟩:∃ m c,l=m++[c]:=⟨l.dropLast,l.getLast (by intro e;simp[e]at h),(List.dropLast_concat_getLast _).symm⟩;have:=ih m (by simpa using h);rw[Cw];unfold Nk
  split
  ·omega
  ·simp;omega
theorem Zd2(w:World)(s:ByteArray)(cap:Nat)(t:TypeId)(h:Nat×Nat)(i:Nat)(hi:i<s.size) :
  (w.alloc (.cells (bytesRow s cap) t h)).drew.cell? ⟨w.heap.size,i,none⟩=some (.int .u8 (s.data[i].toNat:Int)):=by
 show (w.alloc (.cells (bytesRow s cap) t h)).cell? _=_;simp only[World.cell?,alloc_at];exact bytesRow_at s cap i hi
theorem Zmr{kws:List ByteArray}{i j:Nat}(h:j<kws.length)(hi:i<kws[j].size):Yw kws i j=kws[j].data[i]:=by
 unfold Yw V3;rw[Ge h,Option.getD_some,List.drop_eq_getElem_cons (by rw[Array.length_toList];exact hi)];rfl
theorem Zfh{kws:List ByteArray}{i j:Nat}(h:j<kws.length)(hi:kws[j].size<=i):Yw kws i j=0:=by
 unfold Yw V3;rw[Ge h,Option.getD_some,List.drop_eq_nil_of_le (by rw[Array.length_toList];exact hi)];rfl
theorem one_cell(v:Value)(h:v.oneCell'=true):∀ u∈[v],u.oneCell'=true:=λu q=>by rw[List.mem_singleton.1 q];exact h
section
variable{w wr:World}{kws:List ByteArray}{i:Nat}{bs:List Nat}{k k':Nat}{cv:Value}
theorem Ze7(h:Hid (Va w kws i bs k k' cv wr)):wr.ownsRow (w.heap.size+1) 5 1 cv (dd ((bs.take k').map (Yw kws i))).length ((dd ((bs.take k').map (Yw kws i))).map Lt):=by
 obtain⟨l,_,h2,_⟩:=h.out;exact h2
theorem Zjw{nd:Nat}(q:Hid (nd=(dd ((bs.take k').map (Yw kws i))).length))(h:Hid (Va w kws i bs k k' cv wr)):wr.ownsRow (w.heap.size+1) 5 1 cv nd ((dd ((bs.take k').map (Yw kws i))).map Lt):=by
 rw[q.out];exact Ze7 h
theorem Zbn(h:Hid (Va w kws i bs k k' cv wr)):w.heap.size+1<=wr.heap.size:=by
 obtain⟨l,_,_,_,_,h2,_⟩:=h.out;exact h2
theorem Ck(_:Hid (Va w kws i bs k k' cv wr)):(dd ((bs.take k').map (Yw kws i))).length<=bs.length:=by
 have:=Znx ((bs.take k').map (Yw kws i));rw[List.length_map,List.length_take]at this;omega
theorem Mq{j:Nat}(q:k<bs.length)(h:Hid (j=bs[k])):Hid (j=bs[k]?.getD 0):=by
 show j=_;rw[Ge q];exact h.out
theorem Zjy(h:Hid (Va w kws i bs k k cv wr))(q:dd ((bs.take k).map (Yw kws i))≠[]):∃ g cap A,cv=.slice (some ⟨g,0,none⟩) (dd ((bs.take k).map (Yw kws i))).length cap/\0<(dd ((bs.take k).map (Yw kws i))).length /\
  (dd ((bs.take k).map (Yw kws i))).getLast? = some A/\wr.cell? ⟨g,(dd ((bs.take k).map (Yw kws i))).length-1,none⟩=some (.int .u8 (A.toNat:Int)):=by
 obtain⟨l,_,h2,_⟩:=h.out;generalize dd ((bs.take k).map (Yw kws i))=d at *;have hp:0<d.length:=List.length_pos_iff.2 q;rcases h2 with ⟨h3,⟨_,G⟩|⟨g,cap,z,rfl,_⟩⟩
 ·omega
 ·have h2:wr.ownsRow (w.heap.size+1) 5 1 (.slice (some ⟨g,0,none⟩) d.length cap) d.length (d.map Lt):=⟨h3,.inr ⟨g,cap,z,rfl,‹_›⟩⟩;refine⟨g,cap,d.getLast q,rfl,hp,List.getLast?_eq_some_getLast q,?_⟩;rw[h2.cellAt (d.length-1) Om,List.getElem?_map,List.getLast_eq_getElem,Ge Om];rfl
theorem Zjv{j:Nat}{q:UInt8}(I:Hid (Va w kws i bs k k cv wr))(J:Hid (q=Yw kws i j))(G:Hid (j=bs[k]?.getD 0))(h:k<bs.length)(hl:(dd ((bs.take k).map (Yw kws i))).getLast? = some q):Va w kws i bs k (k+1) cv wr:=by
 have z:j=bs[k]:=by have:=G.out;rwa[Ge h,Option.getD_some]at this
 have A:dd ((bs.take (k+1)).map (Yw kws i))=dd ((bs.take k).map (Yw kws i)):=by
  rw[Zfg h,<- z,<- J.out];unfold Nk;rw[if_pos hl]
 unfold Va;rw[A];exact I.out
theorem Zju{j:Nat}(G:Hid (Va w kws i bs k (k+1) cv wr))(A:Hid (j=bs[k]?.getD 0))(z:Yw kws i j=0)(h:k<bs.length):Hid (Va w kws i bs (k+1) (k+1) cv wr):=by
 have q:j=bs[k]:=by have:=A.out;rwa[Ge h,Option.getD_some]at this
 obtain⟨l,h1,h2⟩:=G.out;refine⟨l,?_,h2⟩;rw[List.take_succ_eq_append_getElem h,<- q];exact h1.skip z
theorem Zjx{l:List (UInt8×Value)}{Z Y:World}{J:Value}{j:Nat}{h:UInt8}{o:Obj}(HR:Hid (Rows kws i (w.heap.size+1) w.heap.size (bs.take k) l wr))
  (H2:Hid (wr.ownsRow (w.heap.size+1) 5 1 cv (dd ((bs.take (k+1)).map (Yw kws i))).length ((dd ((bs.take (k+1)).map (Yw kws i))).map Lt) /\
   (∀ c v g,look l c=some v->v.ownBlock=some g->cv.ownBlock≠some g)/\Zf w wr/\(dd ((bs.take (k+1)).map (Yw kws i))=[]->cv=.slice none 0 0)))
  (HC:Hid (h=Yw kws i j)) (HJ:Hid (j=bs[k]?.getD 0)) (L:k<bs.length) (ac:w.heap.size+1<=wr.heap.size) (h0:¬ h=0)
  (K:Z.ownsRow (w.heap.size+1) 3 1 J ((No kws i (bs.take k) h).length+1) ((No kws i (bs.take k) h).map (λj=>.int .i64 ((j:Nat):Int))++[.int .i64 ((j:Nat):Int)]))
  (W:(wr.alloc o).grownBy Z ((look l h).getD (.slice none 0 0)).ownBlock) (V:J.ownBlock=((look l h).getD (.slice none 0 0)).ownBlock\/J.ownBlock=some (wr.alloc o).heap.size)
  (hm:Zq Lt w.heap.size (put l h J) Y) (X:Fr (λk=>k=w.heap.size) Z Y):Hid (Va w kws i bs (k+1) (k+1) cv Y):=by
 have hj:j=bs[k]:=by have:=HJ.out;rwa[Ge L,Option.getD_some]at this
 obtain⟨h2,h3,h4,h6⟩:=H2.out
 have G:∀ g,((look l h).getD (.slice none 0 0)).ownBlock=some g->w.heap.size+1<=g/\cv.ownBlock≠some g:=by
  intro g z
  cases A:look l h with
  | none=>rw[A]at z;simp[Value.ownBlock]at z
  | some u =>
   rw[A]at z;exact⟨(HR.out.block A z).1,h3 h u g A z⟩
 have s1:=W.size;have s2:=X.size;simp at s1;have U:∀ g,cv.ownBlock=some g->w.heap.size+1<=g/\g<wr.heap.size:=λg q=>h2.lt g q
 refine⟨put l h J,?_,?_,?_,?_,Om,h6⟩
 ·rw[List.take_succ_eq_append_getElem L,<- hj];exact (HR.out.alloc o).step (Nat.lt_succ_self _) (by simp;omega) HC.out.symm h0 K W V hm X
 ·refine Rl ((h2.alloc o).kept W ?_) X (λg q=>by have:=U g q;omega);rcases Option.eq_none_or_eq_some cv.ownBlock with aa|⟨g,M⟩
  ·exact .inl aa
  ·exact .inr λq=>(G g (q.symm.trans M)).2 M
 ·intro c v g hl I e;rw[Wn]at hl;by_cases hc:h=c
  ·rw[if_pos hc]at hl;injection hl with hl
   subst hl;rcases V with q|q
   ·exact (G g (q.symm.trans I)).2 e
   ·rw[q]at I;injection I with I
    have:=(U g e).2;simp at I;omega
  ·rw[if_neg hc]at hl;exact h3 c v g hl I e
 ·refine ((h4.alloc o).grown W (λg q ab=>?_)).trans X (λq hq e=>?_)
  ·have:=(G g q).1;omega
  ·omega
theorem Zbo{J:World}{A:Value}{j:Nat}{M:UInt8}{o:Obj}(HG:Hid (Va w kws i bs k k cv wr))(HC:Hid (M=Yw kws i j))(HJ:Hid (j=bs[k]?.getD 0))(I:k<bs.length)
  (hl:(dd ((bs.take k).map (Yw kws i))).getLast? ≠ some M)
  (G:J.ownsRow (w.heap.size+1) 5 1 A ((dd ((bs.take k).map (Yw kws i))).length+1) ((dd ((bs.take k).map (Yw kws i))).map Lt++[Lt M]))
  (z:(wr.alloc o).grownBy J cv.ownBlock) (V:A=.slice none 0 0↔cv=.slice none 0 0/\1=0) (U:A.ownBlock=cv.ownBlock\/A.ownBlock=some (wr.alloc o).heap.size):Va w kws i bs k (k+1) A J:=by
 have L:j=bs[k]:=by have:=HJ.out;rwa[Ge I,Option.getD_some]at this
 obtain⟨l,h1,h2,h3,h4,h5,h6⟩:=HG.out
 have X:dd ((bs.take (k+1)).map (Yw kws i))=dd ((bs.take k).map (Yw kws i))++[M]:=by
  rw[Zfg I,<- L,<- HC.out];unfold Nk;rw[if_neg hl]
 have Y:=z.size;simp at Y;have W:Fr (λj=>some j=cv.ownBlock) (wr.alloc o) J:=⟨z.os,z.tape,z.output,z.size,λj L Z=>z.block j L Z⟩;refine⟨l,(h1.alloc o).keep W ?_ ?_,?_,?_,(h4.alloc o).trans W ?_,Om,?_⟩
 ·intro e;have:=(h2.lt _ e.symm).1;omega
 ·intro c v g h K e;exact h3 c v g h K e.symm
 ·rw[X,List.length_append,List.map_append];exact G
 ·intro c v g h K e;rcases U with q|q
  ·exact h3 c v g h K (q▸e)
  ·rw[q]at e;injection e with e
   have:=(h1.block h K).2;simp at e;omega
 ·intro j L e;have:=(h2.lt _ e.symm).1;omega
 ·rw[X];intro e;simp at e
end
theorem Zg8(w:World)(kws:List ByteArray)(i:Nat)(bs:List Nat):Va w kws i bs 0 0 (.slice none 0 0) (w.alloc (.map #[] 0)):=by
 refine⟨[],⟨Zq.made _ _,λc=>.inl ⟨rfl,.inr rfl⟩,?_⟩,World.ownsRow_nil _ _ _ _,?_,(Fl _).alloc _,by simp,λ_=>rfl⟩
 ·intro c c' v h g hl;cases hl
 ·intro c v g hl;cases hl
theorem K5{w:World}{base q cap:Nat}{cs:List UInt8}(h:w.ownsRow base 5 1 (.slice (some ⟨q,0,none⟩) cs.length cap) cs.length (cs.map Lt)):∀ i (hi:i<cs.length),w.cell? ⟨q,0+i,none⟩=some (.int .u8 (cs[i].toNat:Int)):=by
 intro i hi;rw[Nat.zero_add,h.cellAt i Om,List.getElem?_map,Ge hi];rfl
theorem Zl5{kws:List ByteArray}{ids:List Nat}{i:Nat}{bs:List Nat}(I:0<bs.length)(h:Srt (Zx kws ids i bs)){q x:Nat}(G:q<ids.length)(e:q=bs[0])(A:x=ids[q]):∀ y,Vz (Zx kws ids i bs)=some y -> -(x:Int) = -(y:Int):=by
 intro y z
 cases bs with
 | nil=>simp at I
 | cons b bs =>
  have:=Srt.first_end h z;simp only[List.getElem_cons_zero]at e;subst e;rw[this,A];simp[Sq,Ge G]
structure Zk5(kws:List ByteArray)(ids:List Nat)(kb ko ib io:Nat)(w:World):Prop where
 key:∀ j (h:j<kws.length),w.cell? ⟨kb,ko+j,none⟩=some (.string kws[j])
 id:∀ j (h:j<ids.length),w.cell? ⟨ib,io+j,none⟩=some (.int .i64 ((ids[j]:Nat):Int))
structure M8(kws:List ByteArray)(ids:List Nat):Prop where
 len:ids.length=kws.length
 short:kws.length<=2147483647
 id_le:∀ x∈ids,x<=1073741824
 noz:∀ i j,(0:UInt8) ∉ V3 kws i j
structure Bd(kws:List ByteArray)(ids:List Nat)(D:Nat)(w:World)(dp g n p i K M:Nat)(bs:List Nat)(B C:F)(U:Nat->Prop):Prop where
 da:DA w dp g n B C
 good:FreeOk n B C U
 n_le:n<=134217728
 hp:U p
 m256:256<=M
 m_le:M+256*Sg (Zx kws ids i bs)<=33554432
 u_lt:∀ x,U x->x<M
 root:p=0->B 0=1/\∀ x,U x->x=0
 few:Few U K
 k_le:K+Sg (Zx kws ids i bs)+3<=n
 ups:Ups C U
 own:∀ x,U x->x≠0->C x≠(p:Int)
 ne:bs≠[]
 br:∀ j∈bs,j<kws.length/\i<=((kws[j]?).getD ByteArray.empty).size/\((kws[j]?).getD ByteArray.empty).size<i+D
 srt:Srt (Zx kws ids i bs)
 i_le:i+D<=2147483647
theorem Ze0(ks:List Key):ks.length<=Sg ks:=by
 induction ks with
 | nil=>simp[Sg]
 | cons k ks ih=>rw[Jv,List.length_cons];omega
theorem Zfi{cs:List UInt8}(h:cs.Pairwise (· < ·)):cs.length<=256:=by
 have:∀ i (hi:i<cs.length),i<=cs[i].toNat:=by
  intro i
  induction i with
  | zero=>intro _;exact Nat.zero_le _
  | succ i ih =>
   intro hi;have h1:=ih Om;have h2:=UInt8.lt_iff_toNat_lt.1 (List.pairwise_iff_getElem.1 h i (i+1) Om hi Om);omega
 rcases Nat.lt_or_ge 256 cs.length with q|q
 ·have h1:=this 256 q;have h2:=(cs[256]).toNat_lt;omega
 ·exact q
structure Zfl(kws:List ByteArray)(ids:List Nat)(i:Nat)(bs:List Nat)(cs:List UInt8):Prop where
 asc:cs.Pairwise (· < ·)
 mem:∀ c,c∈cs↔∃ k∈Zx kws ids i bs,hd k=c
 len:cs.length<=bs.length
 ne:cs≠[]
theorem Zih{kws:List ByteArray}{ids:List Nat}{i:Nat}{bs:List Nat}(h:Srt (Zx kws ids i bs))(z:bs≠[]):Zfl kws ids i bs (dd (bs.map (Yw kws i))):=by
 have e:(Zx kws ids i bs).map hd=bs.map (Yw kws i):=by simp[Zx,Zjs]
 have h1:=Zmp (bs.map (Yw kws i)) (by rw[<- e];exact h.hds);refine⟨h1.1,λc=>(h1.2.1 c).trans mem_hd.symm,by have:=h1.2.2.2.2;simpa using this,λq=>?_⟩
 cases bs with
 | nil=>exact z rfl
 | cons b bs =>
  have:=(h1.2.1 (Yw kws i b)).2 (by simp);rw[q]at this;cases this
theorem Zfl.nodup{kws:List ByteArray}{ids:List Nat}{i:Nat}{bs:List Nat}{cs:List UInt8}(h:Zfl kws ids i bs cs):cs.Nodup:=h.asc.imp (λq e=>by subst e;exact absurd q (UInt8.lt_irrefl _))
theorem Zkt{kws:List ByteArray}{ids:List Nat}{D:Nat}{w wm wr:World}{W g0 n0 p i K M b j g n:Nat}{bs:List Nat}{B0 C0 B C:F}{U0 U:Nat->Prop}{cs:List UInt8}(z:Bd kws ids (D+1) w W g0 n0 p i K M bs B0 C0 U0)(Z:Zfl kws ids i bs cs)
  (hb:1<=b) (V:j<cs.length) (G:cs[j]≠0)
  (h:DA wr W g n B C/\Laid n0 B0 C0 U0 (λx=>U0 x\/∃ c∈cs,x=b+c.toNat) p b cs (Zx kws ids i bs) j n B C U/\Ups C U/\(∀ x,U x->x≠0->∀ c∈cs.drop j,C x≠((b+c.toNat:Nat):Int)) /\
   Few U (K+cs.length+Pe cs (Zx kws ids i bs) j)/\(∀ x,U x->x<M+256+256*Pe cs (Zx kws ids i bs) j)/\n<=134217728/\Fr (two W g0) wm wr/\(g=g0\/wm.heap.size<=g)) :
  Bd kws ids D wr W g n (b+cs[j].toNat) (i+1) (K+cs.length+Pe cs (Zx kws ids i bs) j) (M+256+256*Pe cs (Zx kws ids i bs) j) (No kws i bs cs[j]) B C U:=by
 obtain⟨D',L,hu,ab,hF,hM,hn,ae,hg⟩:=h;have hv:=Zed (ks:=Zx kws ids i bs) Z.nodup (j+1);rw[Lb V,Rg _ _ _ _ G]at hv;have hl:(Zx kws ids i bs).length=bs.length:=by simp[Zx]
 have ad:=Z.len;have ac:0<bs.length:=List.length_pos_iff.2 z.ne;have h1:=z.m_le;have h2:=z.k_le;have h3:=L.stay.le;have h4:=z.i_le;obtain⟨k,hk,aa⟩:=(Z.mem cs[j]).1 (List.getElem_mem V);refine⟨D',L.good,hn,L.sub _ (.inr ⟨_,List.getElem_mem V,rfl⟩),by have:=z.m256;omega,Om,hM,λe=>Om,hF,Om,hu,λx I h0=>ab x I h0 _ (by rw[List.drop_eq_getElem_cons V];exact List.mem_cons_self),?_,?_,?_,Om⟩
 ·intro e;have J:cs[j]∈bs.map (Yw kws i):=mem_hd.1 ⟨k,hk,aa⟩;obtain⟨x,I,A⟩:=List.mem_map.1 J;have:x∈No kws i bs cs[j]:=List.mem_filter.2 ⟨I,by simpa using A⟩;rw[e]at this;cases this
 ·intro x I;obtain⟨Y,X⟩:=List.mem_filter.1 I;obtain⟨a1,a2,a3⟩:=z.br x Y;have A:Yw kws i x=cs[j]:=by simpa using X
  rw[Ge a1,Option.getD_some]at a2 a3⊢;refine⟨a1,?_,Om⟩;rcases Nat.lt_or_ge i kws[x].size with q|q
  ·exact q
  ·exact absurd (A.symm.trans (Zfh a1 q)) G
 ·rw[<- Rg _ _ _ _ G];exact z.srt.strip _
def Bf(kws:List ByteArray)(ids:List Nat)(z I V A J W D:Nat):Prop:=∀ (w:World) (q g n p i G L X K M:Nat) (bs:List Nat) (B C:F) (U:Nat->Prop) (_:Bd kws ids D w q g n p i K M bs B C U)
  (_:Zk5 kws ids z I A J w) (_:∀ j (h:j<bs.length),w.cell? ⟨G,L+j,none⟩=some (.int .i64 ((bs[j]:Nat):Int))) (_:¬ two q g G/\¬ two q g z/\¬ two q g A),
  Calls Tryz.prog 260 #[.pointer (some ⟨q,0,none⟩),.int .i64 p,.int .i64 i,.slice (some ⟨G,L,none⟩) bs.length X,.slice (some ⟨z,I,none⟩) kws.length V,.slice (some ⟨A,J,none⟩) ids.length W] w λe w'=>e=.returned (.tuple #[])/\Be w q g n p B C U (Zx kws ids i bs) K M w'
theorem add_zero(kws:List ByteArray)(ids:List Nat)(A q z J G I:Nat):Bf kws ids A q z J G I 0:=by
 intro w V g n p i Y W X K M bs B C U h _ _ _;exfalso;obtain⟨j,L⟩:=List.exists_mem_of_ne_nil _ h.ne;have:=h.br j L;omega
theorem Zkp(kws:List ByteArray)(ids:List Nat)(kb ko kc ib io ic:Nat)(aa:M8 kws ids)(D:Nat)(hI:Bf kws ids kb ko kc ib io ic D):Bf kws ids kb ko kc ib io ic (D+1):=by
 intro w dp g n p i bb bo bc K M bs B C U X ad b0 ar;have IH:=Hd hI;clear hI;have A:∀ j∈bs,j<kws.length/\i<=((kws[j]?).getD ByteArray.empty).size:=λj hj=>⟨(X.br j hj).1,(X.br j hj).2.1⟩
 have bk:=ad.key;have c5:=aa.short;have cw:i<=2147483647:=by have:=X.i_le;omega
 have cu:bs.length<=2147483647:=by
  have h1:=X.m_le;have h2:=Ze0 (Zx kws ids i bs);have h3:(Zx kws ids i bs).length=bs.length:=by simp[Zx]
  omega
 have z:=Hd X;have HT:=Hd (Ai1 ad (Ai1 aa ar));clear X ad ar aa;have c4:=@run_makeMap Tryz.prog;have c9:=λw s=>run_bytes_of_string (P:=Tryz.prog) w 9 55 5 s Tryz.underlying9 Tryz.underlying55 Tryz.underlying5
 obtain⟨iu,bl,be,bd,a8⟩:=info_parts Zjo;obtain⟨ii,cg,cn,cm,ck⟩:=info_parts Jm;have HB:=Hd b0;have HK:=Hd bk;have HL:=Hd A;clear b0 bk A;go_enter Tryz.func260,Tryz.ntmps260
 go_wp2_with fail
 go_loopw [12,25] (λcv iv wr=>∃ k:Nat,k<=bs.length/\iv=.int .i64 k/\Hid (Va w kws i bs k k cv wr)) (λ_ iv _=>bs.length-(intOf iv).toNat)
 case atStart=>exact⟨0,Nat.zero_le _,rfl,Zg8 w kws i bs⟩
 case round =>
  obtain⟨k,hk,rfl,J⟩:=hrel;by_cases A:k<bs.length
  ·have bz:wr.cell? ⟨bb,bo+k,none⟩=some (.int .i64 ((bs[k]:Nat):Int)):=by
    obtain⟨l,_,_,_,hE,_⟩:=J.out;exact hE.cell (HB.out k A) id
   obtain⟨W,cf⟩:=HL.out _ (List.getElem_mem A);obtain⟨j,hj⟩:∃ j,j=bs[k]:=⟨_,rfl⟩;rw[<- hj]at bz W cf
   have cc:wr.cell? ⟨kb,ko+j,none⟩=some (.string kws[j]):=by
    obtain⟨l,_,_,_,hE,_⟩:=J.out;exact hE.cell (HK.out j W) id
   have HJ:=Hd hj;clear hj
   go_upto_if 37 with fail
   go_cut [17] from 26 to 70 (λv wx=>v=.int .u8 ((Yw kws i j).toNat:Int)/\Hid (Va w kws i bs k k u12 wx))
   case first =>
    by_cases bn:i<kws[j].size
    ·have az:=Zd2 wr kws[j] (grownCap wr kws[j].size 0 5) 5 ((bytesRow kws[j] (grownCap wr kws[j].size 0 5)).size,(bytesRow kws[j] (grownCap wr kws[j].size 0 5)).size+1) i bn;rw[<- Zmr W bn]at az;go_wp2_with fail
     go_meet
     case rel=>exact⟨rfl,(J.out.alloc _).drew⟩
    ·have h0:=Zfh (i:=i) W Om;go_wp2_with fail
     go_meet
     case rel=>exact⟨by rw[h0];rfl,(J.out.alloc _).drew⟩
   case rest =>
    clear bz cc J;obtain⟨rfl,J⟩:=hcut;obtain⟨ch,ay⟩:∃ ch,ch=Yw kws i j:=⟨_,rfl⟩;rw[<- ay];have HC:=Hd ay;clear ay;go_step;refine wp_seq_k λK hK=>?_
    go_cut [12] from 26 to 70 (λv wx=>Hid (Va w kws i bs k (k+1) v wx))
    case first =>
     by_cases ab:dd ((bs.take k).map (Yw kws i))=[]
     ·have hu:u12=.slice none 0 0:=by
       obtain⟨l,_,_,_,_,_,h6⟩:=J.out;exact h6 ab
      subst hu;go_wp2_with (first|(at_builtin;refine wpList_append_own_at _ rfl _ _ 55 rfl (w.heap.size+1) 5 iu (.int .u8 0) 1 1 Tryz.underlying55 bl be bd a8 rfl (by decide) _ _ _ rfl ((Ze7 J).alloc _) ⟨wc.heap.size,0,none⟩ 1 1 [.int .u8 (ch.toNat:Int)] rfl rfl (cell_one_new _ _ _) (one_cell _ rfl) (by have:=Ck J;unfold maxLen;omega) (by have:=Ck J;omega) (by have:=Zbn J;simp;omega) ?_;intro v' w1 V I Z ak)|fail)
      go_meet
      case rel=>exact Zbo J HC (Mq A HJ) A (by rw[ab];simp) V I Z ak
     ·obtain⟨gc,cap,cl,rfl,bh,bx,a1⟩:=Zjy J ab;have aw:=Ck J;have ag:(((dd ((bs.take k).map (Yw kws i))).length:Int)==0)=false:=beq_eq_false_iff_ne.2 Om;obtain⟨nd,au⟩:∃ nd,nd=(dd ((bs.take k).map (Yw kws i))).length:=⟨_,rfl⟩;rw[<- au]at bh a1 ag aw J⊢;have HN:=Hd au;have b5:=Hd bx;have c1:=cl.toNat_lt;clear au bx ab;by_cases he:cl=ch
      ·subst he;go_wp2_with fail
       go_meet
       case rel=>exact Zjv J HC (Mq A HJ) A b5.out
      ·have ar:((cl.toNat:Int) != (ch.toNat:Int))=true:=by
        simp only[bne_iff_ne,ne_eq];intro e;exact he (UInt8.toNat_inj.1 Om)
       go_wp2_with (first|(at_builtin;refine wpList_append_own_at _ rfl _ _ 55 rfl (w.heap.size+1) 5 iu (.int .u8 0) 1 1 Tryz.underlying55 bl be bd a8 rfl (by decide) _ _ _ rfl ((Zjw HN J).alloc _) ⟨wc.heap.size,0,none⟩ 1 1 [.int .u8 (ch.toNat:Int)] rfl rfl (cell_one_new _ _ _) (one_cell _ rfl) (by unfold maxLen;omega) Om (by have:=Zbn J;simp;omega) ?_;intro v' w1 V I Z ak)|fail)
       go_meet
       case rel=>exact Zbo J HC (Mq A HJ) A (by rw[b5.out];intro e;injection e with e;exact he e) (by rw[<- HN.out];exact V) I Z ak
    case rest =>
     clear J;have J:=hcut;clear hcut;by_cases h0:ch=0
     ·have aj:((ch.toNat:Int) != 0)=false:=by rw[h0];rfl
      have cr:=Zju J (Mq A HJ) (by rw[<- HC.out];exact h0) A;clear J h0;go_wp2_with fail
      go_roundw
      case rel =>
       exact⟨k+1,Om,by go_num,cr⟩
      case measure=>simp[intOf];omega
     ·have aj:((ch.toNat:Int) != 0)=true:=by
       simp only[bne_iff_ne,ne_eq];intro e;exact h0 (UInt8.toNat_inj.1 (by simpa using e))
      obtain⟨l,hR,L,am,hE,bf,al⟩:=J.out
      have c6:(No kws i (bs.take k) ch).length<=k:=by
       have:=List.length_filter_le (λj=>Yw kws i j==ch) (bs.take k);rw[List.length_take]at this;show (List.filter _ _).length<=k;omega
      have HR:=Hd hR;have H2:=Hd (Ai1 L (Ai1 am (Ai1 hE al)));clear hR L am hE al J
      go_wp2_with (first
       | (at_lookup;refine Zk rfl _ _ false rfl Ze2 Tryz.underlying407 Tryz.underlying5 (Jp _) rfl HR.out.map ch rfl ?_;simp only[Bool.false_eq_true,if_false])
       | (at_mapUpdate;refine Yd rfl _ _ _ rfl Ze2 Tryz.underlying407 Tryz.underlying5 rfl (HR.out.map_grown I (Nat.lt_succ_self _)) ch _ rfl rfl ?_;intro w2 ca co c2)
       | (at_builtin;refine wpList_append_own_at _ rfl _ _ 23 rfl (w.heap.size+1) 3 ii (.int .i64 0) 1 8 Tryz.underlying23 cg cn cm ck rfl (by decide) _ _ _ rfl ((HR.out.or_nil h0).alloc _) ⟨wc.heap.size,0,none⟩ 1 1 [.int .i64 (j:Int)] rfl rfl (cell_one_new _ _ _) (one_cell _ rfl) (by unfold maxLen;omega) Om (by simp;omega) ?_;intro v' w1 V I Z ak)
       | fail)
      go_roundw
      case rel =>
       refine⟨k+1,Om,by go_num,?_⟩;exact Zjx HR H2 HC (Mq A HJ) A bf h0 V I ak ca co
      case measure=>simp[intOf];omega
  ·obtain rfl:k=bs.length:=Om
   have ae:=Zih z.out.srt z.out.ne;obtain⟨l,hR,L,am,hE,bf,al⟩:=J.out;rw[List.take_length]at hR L;obtain⟨cs,bw⟩:∃ cs,cs=dd (bs.map (Yw kws i)):=⟨_,rfl⟩;rw[<- bw]at ae L;clear al bw;have ai:0<cs.length:=List.length_pos_iff.2 ae.ne;obtain⟨cb,cap,rfl,cy,cx⟩:=L.form ai
   obtain⟨c0,aj⟩:∃ c0,cs.head? = some c0:=by
    cases cs with
    | nil=>simp at ai
    | cons a t=>exact⟨a,rfl⟩
   have cq:K+cs.length+3<=n:=by
    have h1:=z.out.k_le;have h2:=ae.len;have h3:=Ze0 (Zx kws ids i bs);have h4:(Zx kws ids i bs).length=bs.length:=(by simp[Zx]);omega
   have b2:M<=67108864:=by have:=z.out.m_le;omega
   have HS:=Hd ae;have HR:=Hd hR;have H2:=Hd (Ai1 L (Ai1 hE aj));clear ae hR L am hE J aj;go_wp2_with (go_at_call 279;refine (Zij _ dp g n p cb 0 cap M c0 cs B C U (z.out.da.keep H2.out.2.1 id id) z.out.good z.out.n_le b2 z.out.hp (K5 H2.out.1) (Zfi HS.out.asc) H2.out.2.2 HS.out.asc (by have:=z.out.da.lt;omega) (by have:=z.out.da.lt;omega) z.out.u_lt z.out.root K z.out.few cq).mono ?_;rintro e w5 ⟨rfl,hx⟩;have HX:=Hd hx;clear hx)
   have b6:=Zfi HS.out.asc;obtain⟨b,hb⟩:=HX.out;have av:=z.out.m256;have a6:1<=b:=hb.1;have dc:b<=M:=by have:=hb.2.1;omega
   have HM:=Hd (Zhs (ks:=Zx kws ids i bs) hb z.out.ups av (by have:=z.out.m_le;omega) z.out.n_le z.out.u_lt z.out.hp z.out.own z.out.few);clear HX hb;obtain⟨wm,b8⟩:∃ wm,wm=wr:=⟨_,rfl⟩;subst b8
   go_loopw [77] (λv wx=>∃ j:Nat,j<=cs.length/\v=.int .i64 j/\Hid (Ei wm dp g n p B C U b cs (Zx kws ids i bs) K M j wx)) (λv _=>cs.length-(intOf v).toNat)
   case atStart=>exact⟨0,Nat.zero_le _,rfl,HM⟩
   case round =>
    clear HM;obtain⟨j,hj,rfl,HA⟩:=hrel;by_cases W:j<cs.length
    ·obtain⟨g1,n1,B1,C1,U1,hA⟩:=HA.out;have c8:=z.out.da.lt;have ag:∀ q,w.heap.size<=q->¬ two dp g q:=λq hq e=>e.elim (λe=>Om) (λe=>Om)
     have HF:Hid (Fr (two dp g) wm wr):=hA.2.2.2.2.2.2.2.1
     have a1:wr.cell? ⟨cb,j,none⟩=some (.int .u8 (cs[j].toNat:Int)):=by
      have:=HF.out.cell (K5 H2.out.1 j W) (ag cb Om);rwa[Nat.zero_add]at this
     have b9:p<n1:=hA.2.1.good.lt p (hA.2.1.stay.sub p z.out.hp);have bg:b+cs[j].toNat<n1:=hA.2.1.good.lt _ (hA.2.1.sub _ (.inr ⟨_,List.getElem_mem W,rfl⟩));have q0:=hA.1.pc;have q1:=hA.1.b p b9;have c7:=hA.1.gf;rw[hA.2.1.base]at q1;obtain⟨c,hc⟩:∃ c,c=cs[j]:=⟨_,rfl⟩;rw[<- hc]at a1 bg;have cp:=c.toNat_lt;have a7:=Hd hA;have HC:=Hd hc;have b1:Hid (Zq Lt w.heap.size l wr):=HR.out.map.keep HF.out (ag _ (Nl _));have cz:M<=33554432:=by have:=z.out.m_le;omega
     have c3:n1<=134217728:=hA.2.2.2.2.2.2.1;clear hA hc HA ag;by_cases h0:c=0
     ·have bj:look l 0=none:=HR.out.none0;have aj:c.toNat=0:=by rw[h0];rfl
      have G:0<bs.length:=List.length_pos_iff.2 z.out.ne;obtain⟨j0,ac⟩:∃ j0,j0=bs[0]:=⟨_,rfl⟩;have cd:=(HL.out bs[0] (List.getElem_mem G)).1;have Y:∀ a,¬ two dp g a->∀ o v,w.cell? ⟨a,o,none⟩=some v->wr.cell? ⟨a,o,none⟩=some v:=λa ha o v h=>HF.out.cell (H2.out.2.1.cell h id) ha
      have db:wr.cell? ⟨bb,bo,none⟩=some (.int .i64 (j0:Int)):=by
       rw[ac];exact Y bb HT.out.2.2.1 _ _ (HB.out 0 G)
      rw[<- ac]at cd;have ce:ids.length=kws.length:=HT.out.2.1.len;have ax:j0<ids.length:=Om;have cj:wr.cell? ⟨ib,io+j0,none⟩=some (.int .i64 ((ids[j0]:Nat):Int)):=Y ib HT.out.2.2.2.2 _ _ (HT.out.1.id j0 ax);have bm:=HT.out.2.1.id_le _ (List.getElem_mem ax);obtain⟨x,hx⟩:∃ x,x=ids[j0]:=⟨_,rfl⟩;rw[<- hx]at cj bm;have ci:((ids.length:Int)==0)=false:=beq_eq_false_iff_ne.2 Om;have q2:=a7.out.1.b b Om;have ct:b<n1:=Om;have H3:=Hd (Ai1 h0 (Ai1 ac hx));clear h0 Y ac hx bg ce
      go_wp2_with (first
       | (at_lookup;refine Zk rfl _ _ false rfl Ze2 Tryz.underlying407 Tryz.underlying5 (Jp _) rfl b1.out (0:UInt8) rfl ?_;simp only[Bool.false_eq_true,if_false,bj,Option.getD_none])
       | fail)
      refine Ul 14 Kr Kr ?_;simp only[List.take_succ_cons,List.take_zero,List.drop_succ_cons,List.drop_zero]
      repeat still_step
      refine wpStill_nil ?_;go_wp2_with fail
      go_roundw
      case rel =>
       refine⟨j+1,Om,by go_num,?_⟩;obtain⟨h0,ac,hx⟩:=H3.out;exact Zks W (by rw[<- HC.out];exact h0) z.out.hp HS.out.asc (Zl5 G z.out.srt ax ac hx) a7.out 1
      case measure=>simp[intOf];omega
     ·obtain⟨v,gb,hl,hv,bq,af⟩:=(HR.out.row c).resolve_left (by
       rintro⟨_,h|h⟩
       ·exact h0 h
       ·have hm:=(HS.out.mem c).1 (by rw[HC.out];exact List.getElem_mem W);obtain⟨x,hx,b7⟩:=List.mem_map.1 (mem_hd.1 hm);have:x∈No kws i bs c:=List.mem_filter.2 ⟨hx,by simpa using b7⟩;rw[h]at this
        cases this) |>.2
      have G:0<bs.length:=List.length_pos_iff.2 z.out.ne;have ah:0<(No kws i bs c).length:=List.length_pos_iff.2 bq;obtain⟨b3,aq,rfl,bu,bt⟩:=af.form ah;have bj:(((No kws i bs c).length:Int)==0)=false:=beq_eq_false_iff_ne.2 Om
      have ao:Calls Tryz.prog 260 #[.pointer (some ⟨dp,0,none⟩),.int .i64 ((b+c.toNat:Nat):Int),.int .i64 ((i+1:Nat):Int),.slice (some ⟨b3,0,none⟩) (No kws i bs c).length aq,.slice (some ⟨kb,ko,none⟩) kws.length kc,.slice (some ⟨ib,io,none⟩) ids.length ic] wr λe w'=>e=.returned (.tuple #[]) /\
        Ei wm dp g n p B C U b cs (Zx kws ids i bs) K M (j+1) w':=by
       have hA:=a7.out;have hd:=Zkt z.out HS.out a6 W (by rw[<- HC.out];exact h0) hA;rw[<- HC.out]at hd;have bv:g1=g\/wm.heap.size<=g1:=hA.2.2.2.2.2.2.2.2
       have bi:∀ q,w.heap.size<=q->q<wm.heap.size->¬ two dp g1 q:=λq h1 h2 e=>e.elim (λe=>Om) (λe=>by
        rcases bv with h3|h3
        ·omega
        ·omega)
       have ap:∀ q,¬ two dp g q->q<w.heap.size->¬ two dp g1 q:=λq h1 h2 e=>e.elim (λe=>h1 (.inl e)) (λe=>by
        rcases bv with h3|h3
        ·exact h1 (.inr (e.trans h3))
        ·have:=H2.out.2.1.size;omega)
       have Y:∀ a,¬ two dp g a->∀ o v,w.cell? ⟨a,o,none⟩=some v->wr.cell? ⟨a,o,none⟩=some v:=λa ha o v h=>HF.out.cell (H2.out.2.1.cell h id) ha
       refine (IH.out wr dp g1 n1 (b+c.toNat) (i+1) b3 0 aq _ _ _ B1 C1 U1 hd ⟨λj h=>Y kb HT.out.2.2.2.1 _ _ (HT.out.1.key j h),λj h=>Y ib HT.out.2.2.2.2 _ _ (HT.out.1.id j h)⟩ (λx hx=>?_) ⟨bi _ Om Om,?_,?_⟩).mono ?_
       ·refine HF.out.cell ?_ (λe=>e.elim (λe=>?_) (λe=>?_))
        ·rw[Nat.zero_add,af.cellAt x Om,List.getElem?_map,Ge hx];rfl
        ·simp only at e;omega
        ·simp only at e;omega
       ·exact ap kb HT.out.2.2.2.1 (lt_of_cell (HT.out.1.key 0 (by have:=(HL.out _ (List.getElem_mem G)).1;omega)))
       ·exact ap ib HT.out.2.2.2.2 (lt_of_cell (HT.out.1.id 0 (by have:=(HL.out _ (List.getElem_mem G)).1;have:=HT.out.2.1.len;omega)))
       ·rintro e w' ⟨rfl,hx⟩;refine⟨rfl,Zkr W (by rw[<- HC.out];exact h0) a6 z.out.hp z.out.good.root HS.out.nodup hA ?_⟩;rw[<- Rg _ _ _ _ h0]at hx;rw[<- HC.out];exact hx
      have b4:=Hd ao;clear ao G af bu bt bq ah
      go_wp2_with (first
       | (at_lookup;refine Zk rfl _ _ false rfl Ze2 Tryz.underlying407 Tryz.underlying5 (Jp _) rfl b1.out c rfl ?_;simp only[Bool.false_eq_true,if_false,hl,Option.getD_some])
       | (go_at_call 260;refine b4.out.mono ?_;rintro e w7 ⟨rfl,hx⟩;have HX:=Hd hx;clear hx))
      go_roundw
      case rel=>exact⟨j+1,Om,by go_num,HX⟩
      case measure=>simp[intOf];omega
    ·obtain rfl:j=cs.length:=Om
     go_wp2_with fail
     go_end0
     exact⟨rfl,Zku HA.out a6 z.out.hp HS.out.mem HS.out.nodup (by have:=HS.out.len;simp[Zx];exact this) (by have:=z.out.ne;simpa [Zx] using this) H2.out.2.1⟩
theorem Zfj(kws:List ByteArray)(ids:List Nat)(A q z J G I:Nat)(h:M8 kws ids):∀ D,Bf kws ids A q z J G I D
 | 0=>add_zero kws ids A q z J G I
 | D+1=>Zkp kws ids A q z J G I h D (Zfj kws ids A q z J G I h D)
end Go.Proofs.YtlfoalomaofejaaGreatDoor
