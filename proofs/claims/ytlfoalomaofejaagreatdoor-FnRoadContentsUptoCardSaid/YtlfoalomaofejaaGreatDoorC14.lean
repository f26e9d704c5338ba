/- add: the walk. -/
import Derived.Test.YtlfoalomaofejaaGreatDoorC13
import Derived.Deep.AppendLies
set_option linter.all false
set_option maxRecDepth 100000
set_option maxHeartbeats 4000000
namespace Go.Proofs.YtlfoalomaofejaaGreatDoor
open Go.RowKit TR
def Wt(w:World)(kws:List ByteArray)(i:Nat)(bs:List Nat)(k k':Nat)(cv:Value)(wr:World):Prop :=
 ∃ l,Rows kws i (w.heap.size+1) w.heap.size (bs.take k) l wr/\wr.ownsRow (w.heap.size+1) 5 1 cv (dd ((bs.take k').map (Yr kws i))).length ((dd ((bs.take k').map (Yr kws i))).map Lc) /\
  (∀ c v g,look l c=some v->v.ownBlock=some g->cv.ownBlock≠some g)/\Zf w wr/\w.heap.size+1<=wr.heap.size/\(dd ((bs.take k').map (Yr kws i))=[]->cv=.slice none 0 0)
theorem Wt.alloc{w:World}{kws:List ByteArray}{i:Nat}{bs:List Nat}{k k':Nat}{cv:Value}{wr:World}(h:Wt w kws i bs k k' cv wr)(o:Obj):Wt w kws i bs k k' cv (wr.alloc o):=by
 obtain⟨l,h1,h2,h3,h4,h5,h6⟩:=h;exact⟨l,h1.alloc o,h2.alloc o,h3,h4.alloc o,by simp;omega,h6⟩
theorem Wt.drew{w:World}{kws:List ByteArray}{i:Nat}{bs:List Nat}{k k':Nat}{cv:Value}{wr:World}(h:Wt w kws i bs k k' cv wr):Wt w kws i bs k k' cv wr.drew:=by
 obtain⟨l,h1,h2,h3,h4,h5,h6⟩:=h;exact⟨l,h1.keep ((Fe wr).drew) id (λ_ _ _ _ _=>id),h2,h3,h4.drew,h5,h6⟩
theorem Zii:(Tryz.prog.info? 5).map (λi=>(i.zero,i.size,i.bytes))=some (some (.int .u8 0),1,1):=Kr
theorem Ks:(Tryz.prog.info? 3).map (λi=>(i.zero,i.size,i.bytes))=some (some (.int .i64 0),1,8):=Kr
theorem Kw(w:World):(zeroValue 23).run Tryz.prog w=.ok (.slice none 0 0) w:=Kr
theorem Zef{kws:List ByteArray}{i:Nat}{bs:List Nat}{k:Nat}(hk:k<bs.length) :
  dd ((bs.take (k+1)).map (Yr kws i))=O8 (dd ((bs.take k).map (Yr kws i))) (Yr kws i bs[k]):=by
 rw[List.take_succ_eq_append_getElem hk,List.map_append];exact Ds _ _
theorem Zmu(l:List UInt8):(dd l).length<=l.length:=by
 induction h:l.length generalizing l with
 | zero=>rw[List.eq_nil_of_length_eq_zero h];simp[dd]
 | succ n ih =>
  obtain⟨m,c,rfl⟩:∃ m c,l=m++[c]:=⟨l.dropLast,l.getLast (by intro e;simp[e]at h),(List.dropLast_concat_getLast _).symm⟩;have:=ih m (by simpa using h);rw[Ds];unfold O8
  split
  ·omega
  ·simp;omega
theorem Zda(w:World)(s:ByteArray)(cap:Nat)(t:TypeId)(fz:Nat×Nat)(i:Nat)(hi:i<s.size) :
  (w.alloc (.cells (bytesRow s cap) t fz)).drew.cell? ⟨w.heap.size,i,none⟩=some (.int .u8 (s.data[i].toNat:Int)):=by
 show (w.alloc (.cells (bytesRow s cap) t fz)).cell? _=_;simp only[World.cell?,alloc_at];exact bytesRow_at s cap i hi
theorem Zlt{kws:List ByteArray}{i j:Nat}(hj:j<kws.length)(hi:i<kws[j].size):Yr kws i j=kws[j].data[i]:=by
 unfold Yr Vx;rw[Ge hj,Option.getD_some,List.drop_eq_getElem_cons (by rw[Array.length_toList];exact hi)];rfl
theorem Zeg{kws:List ByteArray}{i j:Nat}(hj:j<kws.length)(hi:kws[j].size<=i):Yr kws i j=0:=by
 unfold Yr Vx;rw[Ge hj,Option.getD_some,List.drop_eq_nil_of_le (by rw[Array.length_toList];exact hi)];rfl
theorem one_cell(v:Value)(h:v.oneCell'=true):∀ u∈[v],u.oneCell'=true:=λu hu=>by rw[List.mem_singleton.1 hu];exact h
section
variable{w wr:World}{kws:List ByteArray}{i:Nat}{bs:List Nat}{k k':Nat}{cv:Value}
theorem Zd8(h:Hid (Wt w kws i bs k k' cv wr)):wr.ownsRow (w.heap.size+1) 5 1 cv (dd ((bs.take k').map (Yr kws i))).length ((dd ((bs.take k').map (Yr kws i))).map Lc):=by
 obtain⟨l,_,h2,_⟩:=h.out;exact h2
theorem Ziq{nd:Nat}(hn:Hid (nd=(dd ((bs.take k').map (Yr kws i))).length))(h:Hid (Wt w kws i bs k k' cv wr)):wr.ownsRow (w.heap.size+1) 5 1 cv nd ((dd ((bs.take k').map (Yr kws i))).map Lc):=by
 rw[hn.out];exact Zd8 h
theorem Zax(h:Hid (Wt w kws i bs k k' cv wr)):w.heap.size+1<=wr.heap.size:=by
 obtain⟨l,_,_,_,_,h2,_⟩:=h.out;exact h2
theorem Dh(_:Hid (Wt w kws i bs k k' cv wr)):(dd ((bs.take k').map (Yr kws i))).length<=bs.length:=by
 have:=Zmu ((bs.take k').map (Yr kws i));rw[List.length_map,List.length_take]at this;omega
theorem N7{j:Nat}(hlt:k<bs.length)(h:Hid (j=bs[k])):Hid (j=bs[k]?.getD 0):=by
 show j=_;rw[Ge hlt];exact h.out
theorem Zis(h:Hid (Wt w kws i bs k k cv wr))(hn:dd ((bs.take k).map (Yr kws i))≠[]):∃ g cap cl,cv=.slice (some ⟨g,0,none⟩) (dd ((bs.take k).map (Yr kws i))).length cap/\0<(dd ((bs.take k).map (Yr kws i))).length /\
  (dd ((bs.take k).map (Yr kws i))).getLast? = some cl/\wr.cell? ⟨g,(dd ((bs.take k).map (Yr kws i))).length-1,none⟩=some (.int .u8 (cl.toNat:Int)):=by
 obtain⟨l,_,h2,_⟩:=h.out;generalize dd ((bs.take k).map (Yr kws i))=d at *;have hp:0<d.length:=List.length_pos_iff.2 hn;rcases h2 with ⟨h3,⟨_,h0⟩|⟨g,cap,cur,rfl,_⟩⟩
 ·omega
 ·have h2:wr.ownsRow (w.heap.size+1) 5 1 (.slice (some ⟨g,0,none⟩) d.length cap) d.length (d.map Lc):=⟨h3,.inr ⟨g,cap,cur,rfl,‹_›⟩⟩;refine⟨g,cap,d.getLast hn,rfl,hp,List.getLast?_eq_some_getLast hn,?_⟩;rw[h2.cellAt (d.length-1) Om,List.getElem?_map,List.getLast_eq_getElem,Ge Om];rfl
theorem Zip{j:Nat}{ch:UInt8}(HG:Hid (Wt w kws i bs k k cv wr))(HC:Hid (ch=Yr kws i j))(HJ:Hid (j=bs[k]?.getD 0))(hlt:k<bs.length)(hl:(dd ((bs.take k).map (Yr kws i))).getLast? = some ch):Wt w kws i bs k (k+1) cv wr:=by
 have hj:j=bs[k]:=by have:=HJ.out;rwa[Ge hlt,Option.getD_some]at this
 have ed:dd ((bs.take (k+1)).map (Yr kws i))=dd ((bs.take k).map (Yr kws i)):=by
  rw[Zef hlt,<- hj,<- HC.out];unfold O8;rw[if_pos hl]
 unfold Wt;rw[ed];exact HG.out
theorem Zio{j:Nat}(HG:Hid (Wt w kws i bs k (k+1) cv wr))(HJ:Hid (j=bs[k]?.getD 0))(h0:Yr kws i j=0)(hlt:k<bs.length):Hid (Wt w kws i bs (k+1) (k+1) cv wr):=by
 have hj:j=bs[k]:=by have:=HJ.out;rwa[Ge hlt,Option.getD_some]at this
 obtain⟨l,h1,h2⟩:=HG.out;refine⟨l,?_,h2⟩;rw[List.take_succ_eq_append_getElem hlt,<- hj];exact h1.skip h0
theorem Zir{l:List (UInt8×Value)}{w1 w2:World}{v':Value}{j:Nat}{ch:UInt8}{o:Obj}(HR:Hid (Rows kws i (w.heap.size+1) w.heap.size (bs.take k) l wr))
  (H2:Hid (wr.ownsRow (w.heap.size+1) 5 1 cv (dd ((bs.take (k+1)).map (Yr kws i))).length ((dd ((bs.take (k+1)).map (Yr kws i))).map Lc) /\
   (∀ c v g,look l c=some v->v.ownBlock=some g->cv.ownBlock≠some g)/\Zf w wr/\(dd ((bs.take (k+1)).map (Yr kws i))=[]->cv=.slice none 0 0)))
  (HC:Hid (ch=Yr kws i j)) (HJ:Hid (j=bs[k]?.getD 0)) (hlt:k<bs.length) (hsz:w.heap.size+1<=wr.heap.size) (h0:¬ ch=0)
  (hown:w1.ownsRow (w.heap.size+1) 3 1 v' ((Nb kws i (bs.take k) ch).length+1) ((Nb kws i (bs.take k) ch).map (λj=>.int .i64 ((j:Nat):Int))++[.int .i64 ((j:Nat):Int)]))
  (hg:(wr.alloc o).grownBy w1 ((look l ch).getD (.slice none 0 0)).ownBlock) (hat:v'.ownBlock=((look l ch).getD (.slice none 0 0)).ownBlock\/v'.ownBlock=some (wr.alloc o).heap.size)
  (hm:Zz Lc w.heap.size (put l ch v') w2) (hf:Fr (λk=>k=w.heap.size) w1 w2):Hid (Wt w kws i bs (k+1) (k+1) cv w2):=by
 have hj:j=bs[k]:=by have:=HJ.out;rwa[Ge hlt,Option.getD_some]at this
 obtain⟨h2,h3,h4,h6⟩:=H2.out
 have hgb:∀ g,((look l ch).getD (.slice none 0 0)).ownBlock=some g->w.heap.size+1<=g/\cv.ownBlock≠some g:=by
  intro g hg'
  cases hlc:look l ch with
  | none=>rw[hlc]at hg';simp[Value.ownBlock]at hg'
  | some u =>
   rw[hlc]at hg';exact⟨(HR.out.block hlc hg').1,h3 ch u g hlc hg'⟩
 have s1:=hg.size;have s2:=hf.size;simp at s1;have hcl:∀ g,cv.ownBlock=some g->w.heap.size+1<=g/\g<wr.heap.size:=λg q=>h2.lt g q
 refine⟨put l ch v',?_,?_,?_,?_,Om,h6⟩
 ·rw[List.take_succ_eq_append_getElem hlt,<- hj];exact (HR.out.alloc o).step (Nat.lt_succ_self _) (by simp;omega) HC.out.symm h0 hown hg hat hm hf
 ·refine Qd ((h2.alloc o).kept hg ?_) hf (λg q=>by have:=hcl g q;omega);rcases Option.eq_none_or_eq_some cv.ownBlock with hcn|⟨g,hcv⟩
  ·exact .inl hcn
  ·exact .inr λq=>(hgb g (q.symm.trans hcv)).2 hcv
 ·intro c v g hl hv e;rw[Wi]at hl;by_cases hc:ch=c
  ·rw[if_pos hc]at hl;injection hl with hl
   subst hl;rcases hat with q|q
   ·exact (hgb g (q.symm.trans hv)).2 e
   ·rw[q]at hv;injection hv with hv
    have:=(hcl g e).2;simp at hv;omega
  ·rw[if_neg hc]at hl;exact h3 c v g hl hv e
 ·refine ((h4.alloc o).grown hg (λg q hlt'=>?_)).trans hf (λq hq e=>?_)
  ·have:=(hgb g q).1;omega
  ·omega
theorem Zay{w1:World}{v':Value}{j:Nat}{ch:UInt8}{o:Obj}(HG:Hid (Wt w kws i bs k k cv wr))(HC:Hid (ch=Yr kws i j))(HJ:Hid (j=bs[k]?.getD 0))(hlt:k<bs.length)
  (hl:(dd ((bs.take k).map (Yr kws i))).getLast? ≠ some ch)
  (hown:w1.ownsRow (w.heap.size+1) 5 1 v' ((dd ((bs.take k).map (Yr kws i))).length+1) ((dd ((bs.take k).map (Yr kws i))).map Lc++[Lc ch]))
  (hg:(wr.alloc o).grownBy w1 cv.ownBlock) (hnil:v'=.slice none 0 0↔cv=.slice none 0 0/\1=0) (hat:v'.ownBlock=cv.ownBlock\/v'.ownBlock=some (wr.alloc o).heap.size):Wt w kws i bs k (k+1) v' w1:=by
 have hj:j=bs[k]:=by have:=HJ.out;rwa[Ge hlt,Option.getD_some]at this
 obtain⟨l,h1,h2,h3,h4,h5,h6⟩:=HG.out
 have ed:dd ((bs.take (k+1)).map (Yr kws i))=dd ((bs.take k).map (Yr kws i))++[ch]:=by
  rw[Zef hlt,<- hj,<- HC.out];unfold O8;rw[if_neg hl]
 have s1:=hg.size;simp at s1;have hf:Fr (λj=>some j=cv.ownBlock) (wr.alloc o) w1:=⟨hg.os,hg.tape,hg.output,hg.size,λj hj hn=>hg.block j hj hn⟩;refine⟨l,(h1.alloc o).keep hf ?_ ?_,?_,?_,(h4.alloc o).trans hf ?_,Om,?_⟩
 ·intro e;have:=(h2.lt _ e.symm).1;omega
 ·intro c v g hl' hv e;exact h3 c v g hl' hv e.symm
 ·rw[ed,List.length_append,List.map_append];exact hown
 ·intro c v g hl' hv e;rcases hat with q|q
  ·exact h3 c v g hl' hv (q▸e)
  ·rw[q]at e;injection e with e
   have:=(h1.block hl' hv).2;simp at e;omega
 ·intro j hj e;have:=(h2.lt _ e.symm).1;omega
 ·rw[ed];intro e;simp at e
end
theorem Zf4(w:World)(kws:List ByteArray)(i:Nat)(bs:List Nat):Wt w kws i bs 0 0 (.slice none 0 0) (w.alloc (.map #[] 0)):=by
 refine⟨[],⟨Zz.made _ _,λc=>.inl ⟨rfl,.inr rfl⟩,?_⟩,World.ownsRow_nil _ _ _ _,?_,(Fl _).alloc _,by simp,λ_=>rfl⟩
 ·intro c c' v v' g hl;cases hl
 ·intro c v g hl;cases hl
theorem Kf{w:World}{base cb cap:Nat}{cs:List UInt8}(h:w.ownsRow base 5 1 (.slice (some ⟨cb,0,none⟩) cs.length cap) cs.length (cs.map Lc)):∀ i (hi:i<cs.length),w.cell? ⟨cb,0+i,none⟩=some (.int .u8 (cs[i].toNat:Int)):=by
 intro i hi;rw[Nat.zero_add,h.cellAt i Om,List.getElem?_map,Ge hi];rfl
theorem Zk8{kws:List ByteArray}{ids:List Nat}{i:Nat}{bs:List Nat}(hb:0<bs.length)(h:Srt (Zv kws ids i bs)){j0 x:Nat}(hj:j0<ids.length)(e:j0=bs[0])(hx:x=ids[j0]):∀ y,Vt (Zv kws ids i bs)=some y -> -(x:Int) = -(y:Int):=by
 intro y hy
 cases bs with
 | nil=>simp at hb
 | cons b bs =>
  have:=Srt.first_end h hy;simp only[List.getElem_cons_zero]at e;subst e;rw[this,hx];simp[Rw,Ge hj]
structure Zj0(kws:List ByteArray)(ids:List Nat)(kb ko ib io:Nat)(w:World):Prop where
 key:∀ j (h:j<kws.length),w.cell? ⟨kb,ko+j,none⟩=some (.string kws[j])
 id:∀ j (h:j<ids.length),w.cell? ⟨ib,io+j,none⟩=some (.int .i64 ((ids[j]:Nat):Int))
structure Mq(kws:List ByteArray)(ids:List Nat):Prop where
 len:ids.length=kws.length
 short:kws.length<=2147483647
 id_le:∀ x∈ids,x<=1073741824
 noz:∀ i j,(0:UInt8) ∉ Vx kws i j
structure D9(kws:List ByteArray)(ids:List Nat)(D:Nat)(w:World)(dp g n p i K M:Nat)(bs:List Nat)(B C:F)(U:Nat->Prop):Prop where
 da:DA w dp g n B C
 good:FreeOk n B C U
 n_le:n<=134217728
 hp:U p
 m256:256<=M
 m_le:M+256*Ro (Zv kws ids i bs)<=33554432
 u_lt:∀ x,U x->x<M
 root:p=0->B 0=1/\∀ x,U x->x=0
 few:Few U K
 k_le:K+Ro (Zv kws ids i bs)+3<=n
 ups:Ups C U
 own:∀ x,U x->x≠0->C x≠(p:Int)
 ne:bs≠[]
 br:∀ j∈bs,j<kws.length/\i<=((kws[j]?).getD ByteArray.empty).size/\((kws[j]?).getD ByteArray.empty).size<i+D
 srt:Srt (Zv kws ids i bs)
 i_le:i+D<=2147483647
theorem Zd1(ks:List Key):ks.length<=Ro ks:=by
 induction ks with
 | nil=>simp[Ro]
 | cons k ks ih=>rw[Jb,List.length_cons];omega
theorem Zeh{cs:List UInt8}(h:cs.Pairwise (· < ·)):cs.length<=256:=by
 have:∀ i (hi:i<cs.length),i<=cs[i].toNat:=by
  intro i
  induction i with
  | zero=>intro _;exact Nat.zero_le _
  | succ i ih =>
   intro hi;have h1:=ih Om;have h2:=UInt8.lt_iff_toNat_lt.1 (List.pairwise_iff_getElem.1 h i (i+1) Om hi Om);omega
 rcases Nat.lt_or_ge 256 cs.length with q|q
 ·have h1:=this 256 q;have h2:=(cs[256]).toNat_lt;omega
 ·exact q
structure Zek(kws:List ByteArray)(ids:List Nat)(i:Nat)(bs:List Nat)(cs:List UInt8):Prop where
 asc:cs.Pairwise (· < ·)
 mem:∀ c,c∈cs↔∃ k∈Zv kws ids i bs,hd k=c
 len:cs.length<=bs.length
 ne:cs≠[]
theorem Zhh{kws:List ByteArray}{ids:List Nat}{i:Nat}{bs:List Nat}(h:Srt (Zv kws ids i bs))(hn:bs≠[]):Zek kws ids i bs (dd (bs.map (Yr kws i))):=by
 have e:(Zv kws ids i bs).map hd=bs.map (Yr kws i):=by simp[Zv,Zim]
 have h1:=Zlr (bs.map (Yr kws i)) (by rw[<- e];exact h.hds);refine⟨h1.1,λc=>(h1.2.1 c).trans mem_hd.symm,by have:=h1.2.2.2.2;simpa using this,λq=>?_⟩
 cases bs with
 | nil=>exact hn rfl
 | cons b bs =>
  have:=(h1.2.1 (Yr kws i b)).2 (by simp);rw[q]at this;cases this
theorem Zek.nodup{kws:List ByteArray}{ids:List Nat}{i:Nat}{bs:List Nat}{cs:List UInt8}(h:Zek kws ids i bs cs):cs.Nodup:=h.asc.imp (λq e=>by subst e;exact absurd q (UInt8.lt_irrefl _))
theorem Zjo{kws:List ByteArray}{ids:List Nat}{D:Nat}{w wm wr:World}{dp g0 n0 p i K M b j g n:Nat}{bs:List Nat}{B0 C0 B C:F}{U0 U:Nat->Prop}{cs:List UInt8}(hpre:D9 kws ids (D+1) w dp g0 n0 p i K M bs B0 C0 U0)(hs:Zek kws ids i bs cs)
  (hb:1<=b) (hj:j<cs.length) (hc0:cs[j]≠0)
  (h:DA wr dp g n B C/\Laid n0 B0 C0 U0 (λx=>U0 x\/∃ c∈cs,x=b+c.toNat) p b cs (Zv kws ids i bs) j n B C U/\Ups C U/\(∀ x,U x->x≠0->∀ c∈cs.drop j,C x≠((b+c.toNat:Nat):Int)) /\
   Few U (K+cs.length+Q2 cs (Zv kws ids i bs) j)/\(∀ x,U x->x<M+256+256*Q2 cs (Zv kws ids i bs) j)/\n<=134217728/\Fr (two dp g0) wm wr/\(g=g0\/wm.heap.size<=g)) :
  D9 kws ids D wr dp g n (b+cs[j].toNat) (i+1) (K+cs.length+Q2 cs (Zv kws ids i bs) j) (M+256+256*Q2 cs (Zv kws ids i bs) j) (Nb kws i bs cs[j]) B C U:=by
 obtain⟨D',L,hu,hd',hF,hM,hn,hFr,hg⟩:=h;have hv:=Zdl (ks:=Zv kws ids i bs) hs.nodup (j+1);rw[Mt hj,Qb _ _ _ _ hc0]at hv;have hl:(Zv kws ids i bs).length=bs.length:=by simp[Zv]
 have hcl:=hs.len;have hk0:0<bs.length:=List.length_pos_iff.2 hpre.ne;have h1:=hpre.m_le;have h2:=hpre.k_le;have h3:=L.stay.le;have h4:=hpre.i_le;obtain⟨k,hk,hkc⟩:=(hs.mem cs[j]).1 (List.getElem_mem hj);refine⟨D',L.good,hn,L.sub _ (.inr ⟨_,List.getElem_mem hj,rfl⟩),by have:=hpre.m256;omega,Om,hM,λe=>Om,hF,Om,hu,λx hx h0=>hd' x hx h0 _ (by rw[List.drop_eq_getElem_cons hj];exact List.mem_cons_self),?_,?_,?_,Om⟩
 ·intro e;have hmem:cs[j]∈bs.map (Yr kws i):=mem_hd.1 ⟨k,hk,hkc⟩;obtain⟨x,hx,hxc⟩:=List.mem_map.1 hmem;have:x∈Nb kws i bs cs[j]:=List.mem_filter.2 ⟨hx,by simpa using hxc⟩;rw[e]at this;cases this
 ·intro x hx;obtain⟨hx1,hx2⟩:=List.mem_filter.1 hx;obtain⟨a1,a2,a3⟩:=hpre.br x hx1;have hxc:Yr kws i x=cs[j]:=by simpa using hx2
  rw[Ge a1,Option.getD_some]at a2 a3⊢;refine⟨a1,?_,Om⟩;rcases Nat.lt_or_ge i kws[x].size with q|q
  ·exact q
  ·exact absurd (hxc.symm.trans (Zeg a1 q)) hc0
 ·rw[<- Qb _ _ _ _ hc0];exact hpre.srt.strip _
def Cd(kws:List ByteArray)(ids:List Nat)(kb ko kc ib io ic D:Nat):Prop:=∀ (w:World) (dp g n p i bb bo bc K M:Nat) (bs:List Nat) (B C:F) (U:Nat->Prop) (_:D9 kws ids D w dp g n p i K M bs B C U)
  (_:Zj0 kws ids kb ko ib io w) (_:∀ j (h:j<bs.length),w.cell? ⟨bb,bo+j,none⟩=some (.int .i64 ((bs[j]:Nat):Int))) (_:¬ two dp g bb/\¬ two dp g kb/\¬ two dp g ib),
  Calls Tryz.prog 260 #[.pointer (some ⟨dp,0,none⟩),.int .i64 p,.int .i64 i,.slice (some ⟨bb,bo,none⟩) bs.length bc,.slice (some ⟨kb,ko,none⟩) kws.length kc,.slice (some ⟨ib,io,none⟩) ids.length ic] w λe w'=>e=.returned (.tuple #[])/\Ca w dp g n p B C U (Zv kws ids i bs) K M w'
theorem add_zero(kws:List ByteArray)(ids:List Nat)(kb ko kc ib io ic:Nat):Cd kws ids kb ko kc ib io ic 0:=by
 intro w dp g n p i bb bo bc K M bs B C U hpre _ _ _;exfalso;obtain⟨j,hj⟩:=List.exists_mem_of_ne_nil _ hpre.ne;have:=hpre.br j hj;omega
theorem Zjk(kws:List ByteArray)(ids:List Nat)(kb ko kc ib io ic:Nat)(hkeys:Mq kws ids)(D:Nat)(hI:Cd kws ids kb ko kc ib io ic D):Cd kws ids kb ko kc ib io ic (D+1):=by
 intro w dp g n p i bb bo bc K M bs B C U hpre htab hbs hne;have IH:=Hd hI;clear hI;have hlt:∀ j∈bs,j<kws.length/\i<=((kws[j]?).getD ByteArray.empty).size:=λj hj=>⟨(hpre.br j hj).1,(hpre.br j hj).2.1⟩
 have hks:=htab.key;have hkl:=hkeys.short;have hi31:i<=2147483647:=by have:=hpre.i_le;omega
 have hlen:bs.length<=2147483647:=by
  have h1:=hpre.m_le;have h2:=Zd1 (Zv kws ids i bs);have h3:(Zv kws ids i bs).length=bs.length:=by simp[Zv]
  omega
 have HP:=Hd hpre;have HT:=Hd (Ai1 htab (Ai1 hkeys hne));clear hpre htab hne hkeys;have hmm:=@run_makeMap Tryz.prog;have hcv:=λw s=>run_bytes_of_string (P:=Tryz.prog) w 9 55 5 s Tryz.underlying9 Tryz.underlying55 Tryz.underlying5
 obtain⟨iu,hiu,hu0,hu1,hu2⟩:=info_parts Zii;obtain⟨ii,hii,hi0,hi1,hi2⟩:=info_parts Ks;have HB:=Hd hbs;have HK:=Hd hks;have HL:=Hd hlt;clear hbs hks hlt;go_enter Tryz.func260,Tryz.ntmps260
 go_wp2_with fail
 go_loopw [12,25] (λcv iv wr=>∃ k:Nat,k<=bs.length/\iv=.int .i64 k/\Hid (Wt w kws i bs k k cv wr)) (λ_ iv _=>bs.length-(intOf iv).toNat)
 case atStart=>exact⟨0,Nat.zero_le _,rfl,Zf4 w kws i bs⟩
 case round =>
  obtain⟨k,hk,rfl,HG⟩:=hrel;by_cases hlt:k<bs.length
  ·have hck:wr.cell? ⟨bb,bo+k,none⟩=some (.int .i64 ((bs[k]:Nat):Int)):=by
    obtain⟨l,_,_,_,hE,_⟩:=HG.out;exact hE.cell (HB.out k hlt) id
   obtain⟨hjl,hij⟩:=HL.out _ (List.getElem_mem hlt);obtain⟨j,hj⟩:∃ j,j=bs[k]:=⟨_,rfl⟩;rw[<- hj]at hck hjl hij
   have hkw:wr.cell? ⟨kb,ko+j,none⟩=some (.string kws[j]):=by
    obtain⟨l,_,_,_,hE,_⟩:=HG.out;exact hE.cell (HK.out j hjl) id
   have HJ:=Hd hj;clear hj
   go_upto_if 37 with fail
   go_cut [17] from 26 to 70 (λv wx=>v=.int .u8 ((Yr kws i j).toNat:Int)/\Hid (Wt w kws i bs k k u12 wx))
   case first =>
    by_cases hib:i<kws[j].size
    ·have hcell:=Zda wr kws[j] (grownCap wr kws[j].size 0 5) 5 ((bytesRow kws[j] (grownCap wr kws[j].size 0 5)).size,(bytesRow kws[j] (grownCap wr kws[j].size 0 5)).size+1) i hib;rw[<- Zlt hjl hib]at hcell;go_wp2_with fail
     go_meet
     case rel=>exact⟨rfl,(HG.out.alloc _).drew⟩
    ·have h0:=Zeg (i:=i) hjl Om;go_wp2_with fail
     go_meet
     case rel=>exact⟨by rw[h0];rfl,(HG.out.alloc _).drew⟩
   case rest =>
    clear hck hkw HG;obtain⟨rfl,HG⟩:=hcut;obtain⟨ch,hch⟩:∃ ch,ch=Yr kws i j:=⟨_,rfl⟩;rw[<- hch];have HC:=Hd hch;clear hch;go_step;refine wp_seq_k λK hK=>?_
    go_cut [12] from 26 to 70 (λv wx=>Hid (Wt w kws i bs k (k+1) v wx))
    case first =>
     by_cases hnil:dd ((bs.take k).map (Yr kws i))=[]
     ·have hu:u12=.slice none 0 0:=by
       obtain⟨l,_,_,_,_,_,h6⟩:=HG.out;exact h6 hnil
      subst hu;go_wp2_with (first|(at_builtin;refine wpList_append_own_at _ rfl _ _ 55 rfl (w.heap.size+1) 5 iu (.int .u8 0) 1 1 Tryz.underlying55 hiu hu0 hu1 hu2 rfl (by decide) _ _ _ rfl ((Zd8 HG).alloc _) ⟨wc.heap.size,0,none⟩ 1 1 [.int .u8 (ch.toNat:Int)] rfl rfl (cell_one_new _ _ _) (one_cell _ rfl) (by have:=Dh HG;unfold maxLen;omega) (by have:=Dh HG;omega) (by have:=Zax HG;simp;omega) ?_;intro v' w1 hown' hgrow hnil' hat)|fail)
      go_meet
      case rel=>exact Zay HG HC (N7 hlt HJ) hlt (by rw[hnil];simp) hown' hgrow hnil' hat
     ·obtain⟨gc,cap,cl,rfl,hpos,hcl,hcc⟩:=Zis HG hnil;have hlen':=Dh HG;have hn0:(((dd ((bs.take k).map (Yr kws i))).length:Int)==0)=false:=beq_eq_false_iff_ne.2 Om;obtain⟨nd,hnd⟩:∃ nd,nd=(dd ((bs.take k).map (Yr kws i))).length:=⟨_,rfl⟩;rw[<- hnd]at hpos hcc hn0 hlen' HG⊢;have HN:=Hd hnd;have HLL:=Hd hcl;have h256:=cl.toNat_lt;clear hnd hcl hnil;by_cases he:cl=ch
      ·subst he;go_wp2_with fail
       go_meet
       case rel=>exact Zip HG HC (N7 hlt HJ) hlt HLL.out
      ·have hne:((cl.toNat:Int) != (ch.toNat:Int))=true:=by
        simp only[bne_iff_ne,ne_eq];intro e;exact he (UInt8.toNat_inj.1 Om)
       go_wp2_with (first|(at_builtin;refine wpList_append_own_at _ rfl _ _ 55 rfl (w.heap.size+1) 5 iu (.int .u8 0) 1 1 Tryz.underlying55 hiu hu0 hu1 hu2 rfl (by decide) _ _ _ rfl ((Ziq HN HG).alloc _) ⟨wc.heap.size,0,none⟩ 1 1 [.int .u8 (ch.toNat:Int)] rfl rfl (cell_one_new _ _ _) (one_cell _ rfl) (by unfold maxLen;omega) Om (by have:=Zax HG;simp;omega) ?_;intro v' w1 hown' hgrow hnil' hat)|fail)
       go_meet
       case rel=>exact Zay HG HC (N7 hlt HJ) hlt (by rw[HLL.out];intro e;injection e with e;exact he e) (by rw[<- HN.out];exact hown') hgrow hnil' hat
    case rest =>
     clear HG;have HG:=hcut;clear hcut;by_cases h0:ch=0
     ·have hc0:((ch.toNat:Int) != 0)=false:=by rw[h0];rfl
      have HG2:=Zio HG (N7 hlt HJ) (by rw[<- HC.out];exact h0) hlt;clear HG h0;go_wp2_with fail
      go_roundw
      case rel =>
       exact⟨k+1,Om,by go_num,HG2⟩
      case measure=>simp[intOf];omega
     ·have hc0:((ch.toNat:Int) != 0)=true:=by
       simp only[bne_iff_ne,ne_eq];intro e;exact h0 (UInt8.toNat_inj.1 (by simpa using e))
      obtain⟨l,hR,hchs,hap,hE,hsz,hnl⟩:=HG.out
      have hgl:(Nb kws i (bs.take k) ch).length<=k:=by
       have:=List.length_filter_le (λj=>Yr kws i j==ch) (bs.take k);rw[List.length_take]at this;show (List.filter _ _).length<=k;omega
      have HR:=Hd hR;have H2:=Hd (Ai1 hchs (Ai1 hap (Ai1 hE hnl)));clear hR hchs hap hE hnl HG
      go_wp2_with (first
       | (at_lookup;refine Zk rfl _ _ false rfl Zd2 Tryz.underlying407 Tryz.underlying5 (Kw _) rfl HR.out.map ch rfl ?_;simp only[Bool.false_eq_true,if_false])
       | (at_mapUpdate;refine Yj rfl _ _ _ rfl Zd2 Tryz.underlying407 Tryz.underlying5 rfl (HR.out.map_grown hgrow (Nat.lt_succ_self _)) ch _ rfl rfl ?_;intro w2 hm2 hf2 hs2)
       | (at_builtin;refine wpList_append_own_at _ rfl _ _ 23 rfl (w.heap.size+1) 3 ii (.int .i64 0) 1 8 Tryz.underlying23 hii hi0 hi1 hi2 rfl (by decide) _ _ _ rfl ((HR.out.or_nil h0).alloc _) ⟨wc.heap.size,0,none⟩ 1 1 [.int .i64 (j:Int)] rfl rfl (cell_one_new _ _ _) (one_cell _ rfl) (by unfold maxLen;omega) Om (by simp;omega) ?_;intro v' w1 hown' hgrow hnil' hat)
       | fail)
      go_roundw
      case rel =>
       refine⟨k+1,Om,by go_num,?_⟩;exact Zir HR H2 HC (N7 hlt HJ) hlt hsz h0 hown' hgrow hat hm2 hf2
      case measure=>simp[intOf];omega
  ·obtain rfl:k=bs.length:=Om
   have hsg:=Zhh HP.out.srt HP.out.ne;obtain⟨l,hR,hchs,hap,hE,hsz,hnl⟩:=HG.out;rw[List.take_length]at hR hchs;obtain⟨cs,hcs⟩:∃ cs,cs=dd (bs.map (Yr kws i)):=⟨_,rfl⟩;rw[<- hcs]at hsg hchs;clear hnl hcs;have hcpos:0<cs.length:=List.length_pos_iff.2 hsg.ne;obtain⟨cb,cap,rfl,hcb1,hcb2⟩:=hchs.form hcpos
   obtain⟨c0,hc0⟩:∃ c0,cs.head? = some c0:=by
    cases cs with
    | nil=>simp at hcpos
    | cons a t=>exact⟨a,rfl⟩
   have hKn:K+cs.length+3<=n:=by
    have h1:=HP.out.k_le;have h2:=hsg.len;have h3:=Zd1 (Zv kws ids i bs);have h4:(Zv kws ids i bs).length=bs.length:=(by simp[Zv]);omega
   have hM64:M<=67108864:=by have:=HP.out.m_le;omega
   have HS:=Hd hsg;have HR:=Hd hR;have H2:=Hd (Ai1 hchs (Ai1 hE hc0));clear hsg hR hchs hap hE HG hc0;go_wp2_with (go_at_call 279;refine (Zhi _ dp g n p cb 0 cap M c0 cs B C U (HP.out.da.keep H2.out.2.1 id id) HP.out.good HP.out.n_le hM64 HP.out.hp (Kf H2.out.1) (Zeh HS.out.asc) H2.out.2.2 HS.out.asc (by have:=HP.out.da.lt;omega) (by have:=HP.out.da.lt;omega) HP.out.u_lt HP.out.root K HP.out.few hKn).mono ?_;rintro e w5 ⟨rfl,hx⟩;have HX:=Hd hx;clear hx)
   have hcs256:=Zeh HS.out.asc;obtain⟨b,hb⟩:=HX.out;have hm256:=HP.out.m256;have hb1:1<=b:=hb.1;have hb2:b<=M:=by have:=hb.2.1;omega
   have HM:=Hd (Zgq (ks:=Zv kws ids i bs) hb HP.out.ups hm256 (by have:=HP.out.m_le;omega) HP.out.n_le HP.out.u_lt HP.out.hp HP.out.own HP.out.few);clear HX hb;obtain⟨wm,hwm⟩:∃ wm,wm=wr:=⟨_,rfl⟩;subst hwm
   go_loopw [77] (λv wx=>∃ j:Nat,j<=cs.length/\v=.int .i64 j/\Hid (Fk wm dp g n p B C U b cs (Zv kws ids i bs) K M j wx)) (λv _=>cs.length-(intOf v).toNat)
   case atStart=>exact⟨0,Nat.zero_le _,rfl,HM⟩
   case round =>
    clear HM;obtain⟨j,hj,rfl,HA⟩:=hrel;by_cases hjl:j<cs.length
    ·obtain⟨g1,n1,B1,C1,U1,hA⟩:=HA.out;have hdp:=HP.out.da.lt;have hn0:∀ q,w.heap.size<=q->¬ two dp g q:=λq hq e=>e.elim (λe=>Om) (λe=>Om)
     have HF:Hid (Fr (two dp g) wm wr):=hA.2.2.2.2.2.2.2.1
     have hcc:wr.cell? ⟨cb,j,none⟩=some (.int .u8 (cs[j].toNat:Int)):=by
      have:=HF.out.cell (Kf H2.out.1 j hjl) (hn0 cb Om);rwa[Nat.zero_add]at this
     have hpn:p<n1:=hA.2.1.good.lt p (hA.2.1.stay.sub p HP.out.hp);have hqn:b+cs[j].toNat<n1:=hA.2.1.good.lt _ (hA.2.1.sub _ (.inr ⟨_,List.getElem_mem hjl,rfl⟩));have q0:=hA.1.pc;have q1:=hA.1.b p hpn;have hgf:=hA.1.gf;rw[hA.2.1.base]at q1;obtain⟨c,hc⟩:∃ c,c=cs[j]:=⟨_,rfl⟩;rw[<- hc]at hcc hqn;have hc256:=c.toNat_lt;have HA2:=Hd hA;have HC:=Hd hc;have hR2:Hid (Zz Lc w.heap.size l wr):=HR.out.map.keep HF.out (hn0 _ (Nl _));have hM32:M<=33554432:=by have:=HP.out.m_le;omega
     have hn1:n1<=134217728:=hA.2.2.2.2.2.2.1;clear hA hc HA hn0;by_cases h0:c=0
     ·have hl0:look l 0=none:=HR.out.none0;have hc0:c.toNat=0:=by rw[h0];rfl
      have hbpos:0<bs.length:=List.length_pos_iff.2 HP.out.ne;obtain⟨j0,hj0⟩:∃ j0,j0=bs[0]:=⟨_,rfl⟩;have hjk:=(HL.out bs[0] (List.getElem_mem hbpos)).1;have hne2:∀ a,¬ two dp g a->∀ o v,w.cell? ⟨a,o,none⟩=some v->wr.cell? ⟨a,o,none⟩=some v:=λa ha o v h=>HF.out.cell (H2.out.2.1.cell h id) ha
      have hbb:wr.cell? ⟨bb,bo,none⟩=some (.int .i64 (j0:Int)):=by
       rw[hj0];exact hne2 bb HT.out.2.2.1 _ _ (HB.out 0 hbpos)
      rw[<- hj0]at hjk;have hil:ids.length=kws.length:=HT.out.2.1.len;have hji:j0<ids.length:=Om;have hid:wr.cell? ⟨ib,io+j0,none⟩=some (.int .i64 ((ids[j0]:Nat):Int)):=hne2 ib HT.out.2.2.2.2 _ _ (HT.out.1.id j0 hji);have hidb:=HT.out.2.1.id_le _ (List.getElem_mem hji);obtain⟨x,hx⟩:∃ x,x=ids[j0]:=⟨_,rfl⟩;rw[<- hx]at hid hidb;have hids0:((ids.length:Int)==0)=false:=beq_eq_false_iff_ne.2 Om;have q2:=HA2.out.1.b b Om;have hqn2:b<n1:=Om;have H3:=Hd (Ai1 h0 (Ai1 hj0 hx));clear h0 hne2 hj0 hx hqn hil
      go_wp2_with (first
       | (at_lookup;refine Zk rfl _ _ false rfl Zd2 Tryz.underlying407 Tryz.underlying5 (Kw _) rfl hR2.out (0:UInt8) rfl ?_;simp only[Bool.false_eq_true,if_false,hl0,Option.getD_none])
       | fail)
      refine Ud 14 Kr Kr ?_;simp only[List.take_succ_cons,List.take_zero,List.drop_succ_cons,List.drop_zero]
      repeat still_step
      refine wpStill_nil ?_;go_wp2_with fail
      go_roundw
      case rel =>
       refine⟨j+1,Om,by go_num,?_⟩;obtain⟨h0,hj0,hx⟩:=H3.out;exact Zjn hjl (by rw[<- HC.out];exact h0) HP.out.hp HS.out.asc (Zk8 hbpos HP.out.srt hji hj0 hx) HA2.out 1
      case measure=>simp[intOf];omega
     ·obtain⟨v,gb,hl,hv,hgn,hown⟩:=(HR.out.row c).resolve_left (by
       rintro⟨_,h|h⟩
       ·exact h0 h
       ·have hm:=(HS.out.mem c).1 (by rw[HC.out];exact List.getElem_mem hjl);obtain⟨x,hx,hxc⟩:=List.mem_map.1 (mem_hd.1 hm);have:x∈Nb kws i bs c:=List.mem_filter.2 ⟨hx,by simpa using hxc⟩;rw[h]at this
        cases this) |>.2
      have hbpos:0<bs.length:=List.length_pos_iff.2 HP.out.ne;have hgpos:0<(Nb kws i bs c).length:=List.length_pos_iff.2 hgn;obtain⟨gb',cap2,rfl,hgb1,hgb2⟩:=hown.form hgpos;have hl0:(((Nb kws i bs c).length:Int)==0)=false:=beq_eq_false_iff_ne.2 Om
      have hsub:Calls Tryz.prog 260 #[.pointer (some ⟨dp,0,none⟩),.int .i64 ((b+c.toNat:Nat):Int),.int .i64 ((i+1:Nat):Int),.slice (some ⟨gb',0,none⟩) (Nb kws i bs c).length cap2,.slice (some ⟨kb,ko,none⟩) kws.length kc,.slice (some ⟨ib,io,none⟩) ids.length ic] wr λe w'=>e=.returned (.tuple #[]) /\
        Fk wm dp g n p B C U b cs (Zv kws ids i bs) K M (j+1) w':=by
       have hA:=HA2.out;have hd:=Zjo HP.out HS.out hb1 hjl (by rw[<- HC.out];exact h0) hA;rw[<- HC.out]at hd;have hg1:g1=g\/wm.heap.size<=g1:=hA.2.2.2.2.2.2.2.2
       have hoff:∀ q,w.heap.size<=q->q<wm.heap.size->¬ two dp g1 q:=λq h1 h2 e=>e.elim (λe=>Om) (λe=>by
        rcases hg1 with h3|h3
        ·omega
        ·omega)
       have hold:∀ q,¬ two dp g q->q<w.heap.size->¬ two dp g1 q:=λq h1 h2 e=>e.elim (λe=>h1 (.inl e)) (λe=>by
        rcases hg1 with h3|h3
        ·exact h1 (.inr (e.trans h3))
        ·have:=H2.out.2.1.size;omega)
       have hne2:∀ a,¬ two dp g a->∀ o v,w.cell? ⟨a,o,none⟩=some v->wr.cell? ⟨a,o,none⟩=some v:=λa ha o v h=>HF.out.cell (H2.out.2.1.cell h id) ha
       refine (IH.out wr dp g1 n1 (b+c.toNat) (i+1) gb' 0 cap2 _ _ _ B1 C1 U1 hd ⟨λj h=>hne2 kb HT.out.2.2.2.1 _ _ (HT.out.1.key j h),λj h=>hne2 ib HT.out.2.2.2.2 _ _ (HT.out.1.id j h)⟩ (λx hx=>?_) ⟨hoff _ Om Om,?_,?_⟩).mono ?_
       ·refine HF.out.cell ?_ (λe=>e.elim (λe=>?_) (λe=>?_))
        ·rw[Nat.zero_add,hown.cellAt x Om,List.getElem?_map,Ge hx];rfl
        ·simp only at e;omega
        ·simp only at e;omega
       ·exact hold kb HT.out.2.2.2.1 (lt_of_cell (HT.out.1.key 0 (by have:=(HL.out _ (List.getElem_mem hbpos)).1;omega)))
       ·exact hold ib HT.out.2.2.2.2 (lt_of_cell (HT.out.1.id 0 (by have:=(HL.out _ (List.getElem_mem hbpos)).1;have:=HT.out.2.1.len;omega)))
       ·rintro e w' ⟨rfl,hx⟩;refine⟨rfl,Zjm hjl (by rw[<- HC.out];exact h0) hb1 HP.out.hp HP.out.good.root HS.out.nodup hA ?_⟩;rw[<- Qb _ _ _ _ h0]at hx;rw[<- HC.out];exact hx
      have HSub:=Hd hsub;clear hsub hbpos hown hgb1 hgb2 hgn hgpos
      go_wp2_with (first
       | (at_lookup;refine Zk rfl _ _ false rfl Zd2 Tryz.underlying407 Tryz.underlying5 (Kw _) rfl hR2.out c rfl ?_;simp only[Bool.false_eq_true,if_false,hl,Option.getD_some])
       | (go_at_call 260;refine HSub.out.mono ?_;rintro e w7 ⟨rfl,hx⟩;have HX:=Hd hx;clear hx))
      go_roundw
      case rel=>exact⟨j+1,Om,by go_num,HX⟩
      case measure=>simp[intOf];omega
    ·obtain rfl:j=cs.length:=Om
     go_wp2_with fail
     go_end0
     exact⟨rfl,Zjp HA.out hb1 HP.out.hp HS.out.mem HS.out.nodup (by have:=HS.out.len;simp[Zv];exact this) (by have:=HP.out.ne;simpa [Zv] using this) H2.out.2.1⟩
theorem Zei(kws:List ByteArray)(ids:List Nat)(kb ko kc ib io ic:Nat)(hkeys:Mq kws ids):∀ D,Cd kws ids kb ko kc ib io ic D
 | 0=>add_zero kws ids kb ko kc ib io ic
 | D+1=>Zjk kws ids kb ko kc ib io ic hkeys D (Zei kws ids kb ko kc ib io ic hkeys D)
end Go.Proofs.YtlfoalomaofejaaGreatDoor
