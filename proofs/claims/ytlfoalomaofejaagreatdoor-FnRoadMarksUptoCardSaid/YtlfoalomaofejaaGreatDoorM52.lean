/- impl.MetaBytes. · A reader of  -/
import Derived.Test.YtlfoalomaofejaaGreatDoorM49
import Derived.Test.YtlfoalomaofejaaGreatDoorM51
import Derived.Laws.CopyRow
import Derived.Test.YtlfoalomaofejaaGreatDoorM44
set_option linter.all false
set_option maxRecDepth 100000
set_option maxHeartbeats 2000000
namespace Go.Proofs.YtlfoalomaofejaaGreatDoor
section
open Go.RowKit TR DT SP
def Pv(ms:List (ByteArray×Nat)):List Yy:=ms.map λm=>(m.1,(m.2:Int))
theorem Kj{κ β:Type}[DecidableEq κ]:∀ {l:List (κ×β)} {k:κ},k ∉ l.map (·.1)->look l k=none
 | [],_,_=>rfl
 | (a,x)::l,k,h=>by
  rw[List.map_cons,List.mem_cons,not_or]at h;unfold look;rw[if_neg (λe=>h.1 e.symm)];exact Kj h.2
theorem Zgm{l:List (ByteArray×Value)}{k:ByteArray}{v:Value}(h:look l k=none):put l k v=l++[(k,v)]:=by
 induction l with
 | nil=>rfl
 | cons p l ih =>
  obtain⟨a,x⟩:=p;unfold look at h;unfold put
  split at h
  ·cases h
  ·next e=>rw[if_neg e,ih h];rfl
theorem Ca{ms:List (ByteArray×Nat)}(h:(ms.map (·.1)).Nodup):Xj (Pv ms)=Y5 ms:=by
 suffices ∀ r:List (ByteArray×Nat),(r.reverse.map (·.1)).Nodup->Xj (Pv r.reverse)=Y5 r.reverse by
  have:=this ms.reverse (by rwa[List.reverse_reverse]);rwa[List.reverse_reverse]at this
 intro r
 induction r with
 | nil=>intro _;rfl
 | cons m r ih =>
  intro h;rw[List.reverse_cons]at h⊢;rw[List.map_append]at h;obtain⟨h1,_,h3⟩:=List.nodup_append.1 h;have z:Pv (r.reverse++[m])=Pv r.reverse++[(m.1,(m.2:Int))]:=by unfold Pv;rw[List.map_append];rfl
  have q:Y5 (r.reverse++[m])=Y5 r.reverse++[(m.1,.int .i8 (m.2:Int))]:=by unfold Y5;rw[List.map_append];rfl
  rw[z,Po,ih h1,q];refine Zgm (Kj λe=>?_);unfold Y5 at e;rw[List.map_map]at e;exact h3 _ e _ (by simp) rfl
theorem Zgz{r b:Nat}{w:World}{Q:Ending->World->Prop}(h:Calls Tryz.prog 139 #[.iface 108 (.pointer (some ⟨b,0,none⟩)),.map (some r)] w λe w'=>∃ n:Int,e=.returned (.tuple #[.int .i64 n,.nilIface])/\Q (.returned (.tuple #[.int .i64 n,.nilIface])) w') :
  Calls Tryz.prog 105 #[.map (some r),.iface 108 (.pointer (some ⟨b,0,none⟩))] w Q:=by
 have H:=Hd h;clear h;go_enter Tryz.func105,Tryz.ntmps105
 go_wp2_with (first
  | (go_at_call 139;refine H.out.mono ?_;rintro e A ⟨n,rfl,q⟩;have z:=Hd q;clear q)
  | fail)
 exact z.out
theorem Ga(ms:List (ByteArray×Nat))(z:(ms.map (·.1)).Nodup)(V:∀ m∈ms,m.2<=100)(I:ms.length<=1000)(W:(Xg (Wr ms)).length<=1000000000)(A:Option Addr)(c:Nat)(w:World)(hA:∀ j (h:j<ms.length),∃ b o,A=some ⟨b,o,none⟩/\w.cell? ⟨b,o+j*2,none⟩=some (.string ms[j].1)/\w.cell? ⟨b,o+j*2+1,none⟩=some (.int .i64 (ms[j].2:Int))) :
  Calls Tryz.prog 90 #[.slice A ms.length c] w λe w'=>∃ v,e=.returned (.tuple #[v,.int .i64 0])/\w'.ownsRow w.heap.size 5 1 v (Xg (Wr ms)).length (Zp (Xg (Wr ms)))/\Zf w w':=by
 have M:Zf w (w.alloc (.cells #[.slice none 0 0,.int .i64 0,.int .i8 0] Zcd)):=(Fl w).alloc _;have hB:=Lib.fresh_isBuffer Zcd 5 w;have Y:=Za w (.cells #[.slice none 0 0,.int .i64 0,.int .i8 0] Zcd)
 have C1:=Lr (Pv ms) A c (w.alloc (.cells #[.slice none 0 0,.int .i64 0,.int .i8 0] Zcd)) (λj hj=>by
  have X:j<ms.length:=by simpa [Pv] using hj
  obtain⟨b,o,e,h1,h2⟩:=hA j X;refine⟨b,o,e,?_,?_⟩
  ·have:=M.cell h1 id;simpa [Pv] using this
  ·have:=M.cell h2 id
   simpa [Pv] using this) (λm G=>by
  obtain⟨x,K,rfl⟩:=List.mem_map.1 G;have:=V x K
  exact⟨by show (0:Int)<=(x.2:Int);omega,by show (x.2:Int)<=100;omega⟩) (by unfold Pv;rw[List.length_map];omega)
 rw[Ca z,show (Pv ms).length=ms.length from List.length_map ..,Y]at C1;have J:=Hd C1;have U:=Hd (Ai1 M (Ai1 hB Y));have HN:=Hd (Ai1 z V);have ab:8<=(Xg (Wr ms)).length:=by unfold Xg;rw[List.length_append,Yc];omega
 clear C1 M hB Y hA z V;obtain⟨N,L⟩:∃ N,N=w.heap.size:=⟨_,rfl⟩;rw[<- L]at J U⊢;have Z:=Hd L;go_enter Tryz.func90,Tryz.ntmps90
 go_upto_region 2 with fail
 rw[<- L];clear L;generalize w.alloc _=w1 at *;have aa:Hid (∀ q,Zq Yi (N+1) (Y5 ms) q->Zf w1 q->Calls Tryz.prog 105 #[.map (some (N+1)),.iface 108 (.pointer (some ⟨N,0,none⟩))] q λe w'=>e=.returned (.tuple #[.int .i64 ((Xg (Wr ms)).length:Int),.nilIface])/\V9 N N (Xg (Wr ms)) w'/\Fr (λj=>N<=j) q w'):=λq G K=>Zgz ((Ep N N (N+1) [] ms q G HN.out.1 (Oc U.out.2.1 K) (by have:=U.out.2.2;have:=K.size;omega) (G.lt) Om (by simpa using W) (λm G=>by have:=HN.out.2 m G;omega) I).mono λe w' h=>⟨_,h.1,rfl,by simpa using h.2.1,h.2.2⟩)
 go_wp2_with (first
  | (go_at_call 100;refine J.out.mono ?_;rintro e q ⟨rfl,h1,h2⟩;have H2:=Hd (Ai1 h1 h2);clear h1 h2)
  | (go_at_call 105;refine (aa.out q H2.out.1 H2.out.2).mono ?_;rintro e w3 ⟨rfl,h1,h2⟩;have H3:=Hd (Ai1 h1 h2);clear h1 h2)
  | (go_at_call 49;refine (Zny H3.out.1).mono ?_;rintro e w4 ⟨rfl,k,rfl⟩)
  | (go_at_call 52;refine (Zkm (Lib.IsBuffer.drewN H3.out.1 _)).mono ?_;rintro e w4 ⟨v,rfl,ho,k,rfl⟩;have HO:=Hd ho;clear ho)
  | fail)
 first|go_ret|go_ret2
 exact⟨v,rfl,HO.out,((U.out.1.then H2.out.2).trans H3.out.2 (λj hj e=>by have:=Z.out;omega)).drewN _⟩
end
section
open Go.RowKit DT SP
abbrev TRd:TypeId:=193
structure Qu(b g c:Nat)(l:List UInt8)(i:Nat)(w:World):Prop where
 obj:w.heap[b]?=some (.cells #[.slice (some ⟨g,0,none⟩) l.length c,.int .i64 (i:Int),.int .i64 (-1)] TRd (0,0))
 row:∀ j u,(Zp l)[j]?=some u->w.cell? ⟨g,j,none⟩=some u
 lt:g<w.heap.size
 ne:g≠b
 le:i<=l.length
 cap:l.length<=c
 few:l.length<=4294967296
theorem Qu.fr{b g c i:Nat}{l:List UInt8}{w w':World}{S:Nat->Prop}(h:Qu b g c l i w)(f:Fr S w w')(A:¬ S b)(z:¬ S g):Qu b g c l i w' :=
 ⟨f.heap h.obj A,λj u q=>f.cell (h.row j u q) z,Nat.lt_of_lt_of_le h.lt f.size,h.ne,h.le,h.cap,h.few⟩
theorem Zga{ops:Array Oper}{o:Oper}{a:Act}{w:World}{K:Act->World->Prop}{Q:Exit->Act->World->Prop}{E:Prop}(Z:Region.wanted o (yielded ops a.tmps)=true)(d s:Operand)
  (U:o.op=Op.call { callee:=Callee.builtin Builtin.copy,args:=#[d,s],argTypes:=#[55,55] }) (q A I:Nat) (W:Addr) (z G:Nat) (hd:a.eval d=.slice (some ⟨q,0,none⟩) A I) (hs:a.eval s=.slice (some W) z G)
  (h:Array Value) (t:TypeId) (X:w.heap[q]?=some (.cells h t (0,0))) (cs:List Value) (V:cs.length=Nat.min z A) (J:∀ j v,cs[j]?=some v->w.cell? (W.add j)=some v) (Y:cs.length=h.size) (h1:∀ v∈cs,v.oneCell'=true)
  (hK:∀ w',w'.heap[q]?=some (.cells cs.toArray t (0,0))->Fr (λj=>j=q) w w'->K (a.put o.dst (.int .i64 (cs.length:Int))) w') :
  if Region.wanted o (yielded ops a.tmps)=true then Oper.wp Tryz.prog o a w K Q else E:=by
 rw[if_pos Z];have M:(Tryz.prog.info? 5).map (·.size)=some 1:=Kr
 have L:=run_copy_row (P:=Tryz.prog) w 55 55 o.type 5 q 0 A I W z G h t cs Tryz.underlying55 M X V J Om h1;unfold Oper.wp;simp only[execOp,U,resolve,invoke,builtin,Sem.run_bind,Sem.run_pure,Result.andThen_ok,List.map_toArray,List.map_cons,List.map_nil,hd,hs,L]
 have e:(h.toList.take 0++cs++h.toList.drop (0+cs.length)).toArray=cs.toArray:=by
  rw[List.take_zero,List.nil_append,Nat.zero_add,List.drop_eq_nil_of_le (by rw[Array.length_toList];omega),List.append_nil]
 rw[e];refine hK _ (setRow_heap w q h _ t _ X) ⟨rfl,rfl,rfl,by simp[World.setRow],λk hk V=>setRow_other w q k _ V⟩
theorem Zcq{l:List UInt8}{i k j:Nat}{u:Value}(h:(Zp ((l.drop i).take k))[j]?=some u):(Zp l)[i+j]?=some u:=by
 unfold Zp at h⊢;rw[List.getElem?_map]at h⊢;rw[List.getElem?_take]at h
 split at h
 ·rwa[List.getElem?_drop]at h
 ·cases h
theorem Ziw{b g c i:Nat}{l:List UInt8}{w:World}(h:Qu b g c l i w)(k q:Nat)(V:Array Value)(hq:w.heap[q]?=some (.cells V 5 (0,0)))(hs:V.size=k)(hk:0<k)(ad:i+k<=l.length)(I:q≠b)(aa:q≠g) :
  Calls Tryz.prog 320 #[.pointer (some ⟨b,0,none⟩),.slice (some ⟨q,0,none⟩) k k] w λe w'=>e=.returned (.tuple #[.int .i64 (k:Int),.nilIface])/\w'.heap[q]?=some (.cells (Zp ((l.drop i).take k)).toArray 5 (0,0))/\Qu b g c l (i+k) w'/\Fr (λj=>j=q\/j=b) w w':=by
 have mixed:Tryz.prog.follows .mixedOrders=true:=Kr
 have q0:=cell_of h.obj 0 _ rfl;have q1:=cell_of h.obj 1 _ rfl;have q2:=cell_of h.obj 2 _ rfl;have qf:=Zi h.obj 2;have lb:=lt_of_cell q0;have hz:¬ (l.length:Int)<=(i:Int):=Om
 have af:(0:Int)<=(i:Int):=Om
 have ac:(i:Int)<=(l.length:Int):=Om
 have H:=Hd h;have HQ:=Hd hq;clear h hq;go_enter Tryz.func320,Tryz.ntmps320
 go_upto_region 1 with fail
 go_quiet (fail)
 go_upto_region 4 with fail
 obtain⟨G,L⟩:∃ G,G=(w.drewN nq).setCell ⟨b,2,none⟩ (.int .i64 (-1)):=⟨_,rfl⟩;have F1:Fr (λj=>j=b) w G:=by rw[L];exact ((Fl w).drewN nq).setCell ⟨b,2,none⟩ _ (λ_=>rfl)
 have O1:G.heap[b]?=some (.cells #[.slice (some ⟨g,0,none⟩) l.length c,.int .i64 (i:Int),.int .i64 (-1)] TRd (0,0)):=by rw[L];exact Yx (w:=w.drewN nq) H.out.obj 2 (.int .i64 (-1))
 have Q1:=F1.heap HQ.out I;have R1:Qu b g c l i G:=⟨O1,λj u Z=>F1.cell (H.out.row j u Z) H.out.ne,Nat.lt_of_lt_of_le H.out.lt F1.size,H.out.ne,H.out.le,H.out.cap,H.out.few⟩;rw[<- L];have X:=Hd (Ai1 F1 (Ai1 Q1 R1));clear L F1 O1 Q1 R1 q0 q1 q2 qf lb;have s0:G.cell? ⟨b,0,none⟩=some (.slice (some ⟨g,0,none⟩) l.length c):=cell_of X.out.2.2.obj 0 _ rfl;have s1:G.cell? ⟨b,1,none⟩=some (.int .i64 (i:Int)):=cell_of X.out.2.2.obj 1 _ rfl;have s2:b<G.heap.size:=lt_of_cell s0;have ag:=H.out.cap;have ae:(i:Int)<=(c:Int):=Om
 have ah:¬ c=i:=Om
 have U:(Zp ((l.drop i).take k)).length=k:=by unfold Zp;rw[List.length_map,List.length_take,List.length_drop];omega
 have M:G.drew.cell? ⟨b,0,none⟩=some (.slice (some ⟨g,0,none⟩) l.length c)/\G.drew.cell? ⟨b,1,none⟩=some (.int .i64 (i:Int))/\b<G.drew.heap.size:=⟨s0,s1,s2⟩;clear s0 s1 s2;refine Ye 11 12 #[false,false,false,false,false,false,false,false,false,false,false,false] (λW=>W.cell? ⟨b,0,none⟩=some (.slice (some ⟨g,0,none⟩) l.length c)/\W.cell? ⟨b,1,none⟩=some (.int .i64 (i:Int))/\b<W.heap.size) mixed rfl rfl (M) (λhS=>?_);refine WL.go [(0,20),(1,21),(2,22),(3,23),(4,24),(5,25),(6,26),(7,27),(8,28),(9,29)] ?_;iterate 10 (refine WL.tk (v:=?_) rfl rfl Kr (λ_ _ _ h=>h) (Or.inl ⟨Rf,?_⟩) (by assumption) ?_;rotate_left;(focus (intro w ab;(try obtain⟨s0,s1,s2⟩:=ab);go_simp;(try with_reducible rfl)));simp only[Act.put,Sa,Sb1,Sc])
 refine WZ.one (i:=10) rfl Kr (by decide) (λK hK=>?_);refine Zga Rf _ _ Rf q k k ⟨g,i,none⟩ (l.length-i) (c-i) Rf Rf V _ X.out.2.1 (Zp ((l.drop i).take k)) (by rw[U];exact (Nat.min_eq_right Om).symm) (λj u Z=>by rw[Addr.add_lit];exact X.out.2.2.row (i+j) u (Zcq Z)) (by rw[U];exact hs.symm) (Vw _) ?_;intro w4 Y A;rw[U];refine hK.out _ _ (⟨A.cell M.1 (λe=>I e.symm),A.cell M.2.1 (λe=>I e.symm),Nat.lt_of_lt_of_le M.2.2 A.size⟩) (λz=>?_);clear hK K;try simp only[Act.put,Sa,Sb1,Sc]
 refine WZ.last rfl Kr Kr (λK hK=>?_);go_simp;refine hK.out _ _ ?_;clear hK K;have J:Qu b g c l i w4:=X.out.2.2.fr ((Fr.refl (λj=>j=q) G).drew.then A) (λe=>I e.symm) (λe=>aa e.symm);have s1:=z.2.1;have s2:=z.2.2;have sf:=Zi J.obj 1;have hw:IntKind.i64.wrap ((i:Int)+(k:Int))=((i+k:Nat):Int):=by rw[IntKind.wrap_i64];have:=H.out.few;omega
 have HR:=Hd (Ai1 J (Ai1 Y A));clear J Y A z;go_wp2_with fail
 first|go_ret|go_ret2
 have F5:Fr (λj=>j=b) w4 (w4.setCell ⟨b,1,none⟩ (.int .i64 ((i:Int)+(k:Int)))):=(Fl w4).setCell ⟨b,1,none⟩ _ (λ_=>rfl);have J:=HR.out.1;exact⟨rfl,F5.heap HR.out.2.1 I,⟨by rw[Int.natCast_add];exact Yx J.obj 1 _,λj u Z=>F5.cell (J.row j u Z) J.ne,Nat.lt_of_lt_of_le J.lt F5.size,J.ne,Om,J.cap,J.few⟩,(((X.out.1.mono (λj _ e=>Or.inr e)).drew.then (HR.out.2.2.mono (λj _ e=>Or.inl e))).then (F5.mono (λj _ e=>Or.inr e)))⟩
end
section
open Go.RowKit DT SP
theorem Zb5{b g c i:Nat}{l:List UInt8}{w:World}(h:Qu b g c l i w)(k q:Nat)(z:Array Value)(L:w.heap[q]?=some (.cells z 5 (0,0)))(K:z.size=k)(I:i+k<=l.length)(G:q≠b)(A:q≠g) :
  Calls Tryz.prog 202 #[.iface 112 (.pointer (some ⟨b,0,none⟩)),.slice (some ⟨q,0,none⟩) k k,.int .i64 (k:Int)] w λe w'=>e=.returned (.tuple #[.int .i64 (k:Int),.nilIface])/\w'.heap[q]?=some (.cells (Zp ((l.drop i).take k)).toArray 5 (0,0))/\Qu b g c l (i+k) w'/\Fr (λj=>j=q\/j=b) w w':=by
 have mixed:Tryz.prog.follows .mixedOrders=true:=Kr
 have hm:∀ (n:Nat) (W:World),(method (n+1) 112 (.pointer (some ⟨b,0,none⟩)) "Read").run Tryz.prog W=.ok (320,.pointer (some ⟨b,0,none⟩)) W:=λ_ _=>by kernel_rfl
 have Z:∀ (n:Nat) (W:World),(nilAhead (n+1) 112 (.pointer (some ⟨b,0,none⟩)) "Read").run Tryz.prog W=.ok (some false) W:=λ_ _=>by kernel_rfl
 have H:=Hd (Ai1 h (Ai1 L K));have M:=h.few;have Y:IntKind.i64.wrap ((0:Int)+(k:Int))=(k:Int):=by rw[IntKind.wrap_i64];omega
 clear h L K;go_enter Tryz.func202,Tryz.ntmps202
 go_wp2_with fail
 go_loopg [6,7,8] 1 (λg1 X V U wr=>∃ (n:Nat) (u:Value),X=.int .i64 (n:Int)/\V=.nilIface/\U=u/\((n=0/\0<k/\1<=g1/\Hid (w=wr))\/(n=k/\Hid (wr.heap[q]?=some (.cells (Zp ((l.drop i).take k)).toArray 5 (0,0))/\Qu b g c l (i+k) wr/\Fr (λj=>j=q\/j=b) w wr))))
 case atStart =>
  rcases Nat.eq_zero_or_pos k with e|e
  ·refine⟨0,_,rfl,rfl,rfl,.inr ⟨e.symm,?_⟩⟩;show _/\_/\_;subst e;refine⟨?_,H.out.1,Fl _⟩;rw[List.take_zero,H.out.2.1];have:z=#[]:=Array.eq_empty_of_size_eq_zero H.out.2.2;rw[this];rfl
  ·exact⟨0,_,rfl,rfl,rfl,.inl ⟨rfl,e,Nl _,show w=w from rfl⟩⟩
 case round =>
  obtain⟨n,u,rfl,rfl,rfl,⟨rfl,hk,ac,HW⟩|⟨rfl,J⟩⟩:=hrel
  ·have aa:(0:Int)<(k:Int):=Om;have ab:(0:Int)<=(k:Int):=Om;have e:=HW.out;subst e;have C:=Hd (Ziw (H.out.1.fr ((Fe w).drew) id id) k q z H.out.2.1 H.out.2.2 hk I G A);go_upto_region 5 with fail
   go_region_law (first|(go_simp;go_at_call 320;refine C.out.mono ?_;rintro e w2 ⟨rfl,h2,h3,h4⟩;have J:=Hd (Ai1 h2 (Ai1 h3 ((Fr.refl (λj=>j=q\/j=b) w).drew.then h4)));clear h2 h3 h4))
   go_wp2_with fail
   go_roundg 0
   case measure=>omega
   case rel=>exact⟨k,_,by go_num,rfl,rfl,.inr ⟨rfl,J.out⟩⟩
  ·go_wp2_with fail
   first|go_ret|go_ret2
   exact⟨rfl,J.out⟩
theorem Rj{b g c i:Nat}{l:List UInt8}{w:World}(h:Qu b g c l i w)(k q:Nat)(z:Array Value)(K:w.heap[q]?=some (.cells z 5 (0,0)))(J:z.size=k)(I:i+k<=l.length)(G:q≠b)(A:q≠g) :
  Calls Tryz.prog 166 #[.iface 112 (.pointer (some ⟨b,0,none⟩)),.slice (some ⟨q,0,none⟩) k k] w λe w'=>e=.returned (.tuple #[.int .i64 (k:Int),.nilIface])/\w'.heap[q]?=some (.cells (Zp ((l.drop i).take k)).toArray 5 (0,0))/\Qu b g c l (i+k) w'/\Fr (λj=>j=q\/j=b) w w':=by
 have C:=Hd (Zb5 h k q z K J I G A);clear h K J;go_enter Tryz.func166,Tryz.ntmps166
 go_wp2_with (first
  | (go_at_call 202;refine C.out.mono ?_;rintro e M ⟨rfl,h2⟩;have L:=Hd h2;clear h2)
  | fail)
 first|go_ret|go_ret2
 exact⟨rfl,L.out⟩
end
section
open Go.RowKit DT SP
theorem Zd9{b g c i:Nat}{l:List UInt8}{w:World}(h:Qu b g c l i w)(v:Nat)(hv:v<=4611686018427387904)(z:Nat)(M:Int)(I:w.heap[z]?=some (.cells #[.int .i64 M] 2 (0,0)))(hl:(l.drop i).take 8=leB 8 v)(W:i+8<=l.length)(hb:z≠b)(hg:z≠g) :
  Calls Tryz.prog 140 #[.iface 112 (.pointer (some ⟨b,0,none⟩)),.pointer (some ⟨z,0,none⟩)] w λe w'=>e=.returned .nilIface/\w'.heap[z]?=some (.cells #[.int .i64 (v:Int)] 2 (0,0))/\Qu b g c l (i+8) w'/\Fr (λj=>j=b\/j=z) w w':=by
 obtain⟨q,J⟩:∃ q,q=w.heap.size:=⟨_,rfl⟩;have Z:=cell_of I 0 _ rfl;have lv:z<w.heap.size:=lt_of_cell Z;have lg:=h.lt;have lb:b<w.heap.size:=lt_of_cell (cell_of h.obj 0 _ rfl);have K:Zf w (w.alloc (.cells (Array.replicate 8 (.int .u8 0)) 5)):=(Fl w).alloc _;have K1:=alloc_at' w (.cells (Array.replicate 8 (.int .u8 0)) 5) J;have C:=Hd (Rj (h.fr K id id) 8 q _ K1 (by simp) W Om Om);have U:(Instr.makeSlice 55 (.int .i64 8) (.int .i64 8)).run Tryz.prog w=.ok (.slice (some ⟨q,0,none⟩) 8 8) (w.alloc (.cells (Array.replicate 8 (.int .u8 0)) 5)):=by rw[J];exact Md 8 (by decide) w
 have HX:=Hd (Ai1 K (K.heap I id));have HN:Hid (q≠z):=by show q≠z;omega
 have HL:=Hd (Ai1 J hl);clear h I K K1 J lg lb hl;go_enter Tryz.func140,Tryz.ntmps140
 go_upto_region 2 with (first
  | (go_at_call 134;refine (Jh _ _).mono ?_;rintro e w' ⟨rfl,rfl⟩)
  | fail)
 clear U
 go_upto_region 5 with (first
  | (go_at_call 166;refine C.out.mono ?_;rintro e A ⟨rfl,h2,h3,h4⟩;have L:=Hd (Ai1 h2 (Ai1 h3 h4));clear h2 h3 h4)
  | fail)
 go_wp2_with fail
 go_loopg [8,26] 8 (λg1 v8 v26 wr=>∃ i:Nat,v26=.int .i64 (i:Int)/\v8=.int .u64 (Sp v i:Int)/\i<=8/\8<=i+g1/\Hid (A=wr))
 case atStart=>exact⟨0,rfl,by unfold Sp;simp[Nat.mod_one],Om,Om,show A=A from rfl⟩
 case round =>
  obtain⟨j,rfl,rfl,hj,ah,HW⟩:=hrel;have e:=HW.out;subst e;by_cases V:j<8
  ·have ag:(j:Int)<8:=Om;have ab:(0:Int)<=(j:Int):=Om
   have qc:A.cell? ⟨q,j,none⟩=some (.int .u8 ((Xb v j).toNat:Int)):=by
    have:=L.out.1;rw[HL.out.2]at this;refine cell_of this j _ ?_;have e2:(Zp (leB 8 v)).toArray[j]?=(Zp (leB 8 v))[j]?:=(by simp);rw[e2];unfold Zp leB;rw[List.getElem?_map,List.getElem?_map,List.getElem?_range V];rfl
   have ql:=lt_of_cell qc;obtain⟨af,ae,ad⟩:=Za8 (v:=v) (j:=j) Om;go_wp2_with fail
   go_roundg (8-(j+1))
   case measure=>omega
   case rel=>exact⟨j+1,by go_num,rfl,Om,Om,show A=A from rfl⟩
  ·obtain rfl:j=8:=Om
   have G:=L.out.2.2.heap (HX.out.2) (λe=>by rcases e with e|e;exact HN.out e.symm;exact hb e);have r0:=cell_of G 0 _ rfl;have rf:=Zi G 0;have rl:=lt_of_cell r0;have aa:Sp v 8=v:=Nat.mod_eq_of_lt Om;have ac:IntKind.i64.wrap (v:Int)=(v:Int):=by rw[IntKind.wrap_i64];omega
   have Y:=Hd G;clear G Z lv;go_wp2_with fail
   first|go_ret|go_ret2
   have F5:Fr (λj=>j=z) A (A.setCell ⟨z,0,none⟩ (.int .i64 (v:Int))):=(Fl A).setCell ⟨z,0,none⟩ _ (λ_=>rfl);have X:Fr (λj=>j=b\/j=z) w A:=(HX.out.1.mono (λ_ _ e=>e.elim)).trans L.out.2.2 (λk hk e=>e.elim (λe=>by have:=HL.out.1;omega) Or.inl);exact⟨rfl,by have:=Yx Y.out 0 (.int .i64 (v:Int));exact this,L.out.2.1.fr F5 (λe=>hb e.symm) (λe=>hg e.symm),X.then (F5.mono (λj _ e=>Or.inr e))⟩
end
section
open Go.RowKit DT SP
theorem Zk8{b g c i:Nat}{l:List UInt8}{w:World}(h:Qu b g c l i w)(v:Nat)(hv:v<=127)(z:Nat)(M:Int)(I:w.heap[z]?=some (.cells #[.int .i8 M] 91 (0,0)))(hl:(l.drop i).take 1=leB 1 v)(W:i+1<=l.length)(hb:z≠b)(hg:z≠g) :
  Calls Tryz.prog 167 #[.iface 112 (.pointer (some ⟨b,0,none⟩)),.pointer (some ⟨z,0,none⟩)] w λe w'=>e=.returned .nilIface/\w'.heap[z]?=some (.cells #[.int .i8 (v:Int)] 91 (0,0))/\Qu b g c l (i+1) w'/\Fr (λj=>j=b\/j=z) w w':=by
 obtain⟨q,J⟩:∃ q,q=w.heap.size:=⟨_,rfl⟩;have Z:=cell_of I 0 _ rfl;have lv:z<w.heap.size:=lt_of_cell Z;have lg:=h.lt;have lb:b<w.heap.size:=lt_of_cell (cell_of h.obj 0 _ rfl);have K:Zf w (w.alloc (.cells (Array.replicate 1 (.int .u8 0)) 5)):=(Fl w).alloc _;have K1:=alloc_at' w (.cells (Array.replicate 1 (.int .u8 0)) 5) J;have C:=Hd (Rj (h.fr K id id) 1 q _ K1 (by simp) W Om Om);have U:(Instr.makeSlice 55 (.int .i64 1) (.int .i64 1)).run Tryz.prog w=.ok (.slice (some ⟨q,0,none⟩) 1 1) (w.alloc (.cells (Array.replicate 1 (.int .u8 0)) 5)):=by rw[J];exact Md 1 (by decide) w
 have HX:=Hd (Ai1 K (K.heap I id));have HN:Hid (q≠z):=by show q≠z;omega
 have HL:=Hd (Ai1 J hl);clear h I K K1 J lg lb hl;go_enter Tryz.func167,Tryz.ntmps167
 go_upto_region 2 with (first
  | (go_at_call 173;refine (Ej _ _).mono ?_;rintro e w' ⟨rfl,rfl⟩)
  | fail)
 clear U
 go_upto_region 5 with (first
  | (go_at_call 166;refine C.out.mono ?_;rintro e A ⟨rfl,h2,h3,h4⟩;have L:=Hd (Ai1 h2 (Ai1 h3 h4));clear h2 h3 h4)
  | fail)
 go_wp2_with fail
 go_loopg [8,26] 1 (λg1 v8 v26 wr=>∃ i:Nat,v26=.int .i64 (i:Int)/\v8=.int .u64 (Sp v i:Int)/\i<=1/\1<=i+g1/\Hid (A=wr))
 case atStart=>exact⟨0,rfl,by unfold Sp;simp[Nat.mod_one],Om,Om,show A=A from rfl⟩
 case round =>
  obtain⟨j,rfl,rfl,hj,ah,HW⟩:=hrel;have e:=HW.out;subst e;by_cases V:j<1
  ·have ag:(j:Int)<1:=Om;have ab:(0:Int)<=(j:Int):=Om
   have qc:A.cell? ⟨q,j,none⟩=some (.int .u8 ((Xb v j).toNat:Int)):=by
    have:=L.out.1;rw[HL.out.2]at this;refine cell_of this j _ ?_;have e2:(Zp (leB 1 v)).toArray[j]?=(Zp (leB 1 v))[j]?:=(by simp);rw[e2];unfold Zp leB;rw[List.getElem?_map,List.getElem?_map,List.getElem?_range V];rfl
   have ql:=lt_of_cell qc;obtain⟨af,ae,ad⟩:=Za8 (v:=v) (j:=j) Om;go_wp2_with fail
   go_roundg (1-(j+1))
   case measure=>omega
   case rel=>exact⟨j+1,by go_num,rfl,Om,Om,show A=A from rfl⟩
  ·obtain rfl:j=1:=Om
   have G:=L.out.2.2.heap (HX.out.2) (λe=>by rcases e with e|e;exact HN.out e.symm;exact hb e);have r0:=cell_of G 0 _ rfl;have rf:=Zi G 0;have rl:=lt_of_cell r0;have aa:Sp v 1=v:=Nat.mod_eq_of_lt Om;have ac:IntKind.i8.wrap (v:Int)=(v:Int):=by simp only[IntKind.wrap,IntKind.bits,IntKind.signed];simp;omega
   have Y:=Hd G;clear G Z lv;go_wp2_with fail
   first|go_ret|go_ret2
   have F5:Fr (λj=>j=z) A (A.setCell ⟨z,0,none⟩ (.int .i8 (v:Int))):=(Fl A).setCell ⟨z,0,none⟩ _ (λ_=>rfl);have X:Fr (λj=>j=b\/j=z) w A:=(HX.out.1.mono (λ_ _ e=>e.elim)).trans L.out.2.2 (λk hk e=>e.elim (λe=>by have:=HL.out.1;omega) Or.inl);exact⟨rfl,by have:=Yx Y.out 0 (.int .i8 (v:Int));exact this,L.out.2.1.fr F5 (λe=>hb e.symm) (λe=>hg e.symm),X.then (F5.mono (λj _ e=>Or.inr e))⟩
end
section
open Go.RowKit TR DT SP
theorem Zls{l:List (ByteArray×Value)}{k:ByteArray}{v:Value}(h:look l k=none):put l k v=l++[(k,v)]:=by
 induction l with
 | nil=>rfl
 | cons p l ih =>
  obtain⟨a,x⟩:=p;unfold look at h;unfold put
  split at h
  ·cases h
  ·next e=>rw[if_neg e,ih h];rfl
theorem Fg:∀ {ms:List (ByteArray×Nat)} {k:ByteArray},k ∉ ms.map (·.1)->look (Y5 ms) k=none
 | [],_,_=>rfl
 | a::ms,k,h=>by
  rw[List.map_cons,List.mem_cons,not_or]at h;show (if a.1=k then _ else _)=_;rw[if_neg (λe=>h.1 e.symm)];exact Fg h.2
theorem Znk(n:Nat)(W:World):(Instr.makeMap 101 (some (.int .i64 (n:Int)))).run Tryz.prog W=.ok (.map (some W.heap.size)) (W.alloc (.map #[] 0)):=by
 simp[Instr.makeMap,run_underlying (P:=Tryz.prog) Tryz.underlying101,asInt,asIntOf,Result.andThen]
theorem Zak{b g c:Nat}{z:List (ByteArray×Nat)}{w:World}(h:Qu b g c (Xg z) 0 w)(aj:(z.map (·.1)).Nodup)(hv:∀ m∈z,m.2<=127)(bc:z.length<=1000)(ag:(Xg z).length<=1000000000) :
  Calls Tryz.prog 130 #[.iface 112 (.pointer (some ⟨b,0,none⟩))] w λe w'=>∃ G,e=.returned (.tuple #[.map (some G),.nilIface])/\Zq Yi G (Y5 z) w'/\Fr (λj=>j=b) w w':=by
 obtain⟨n,hn⟩:∃ n,n=z.length:=⟨_,rfl⟩;have bl:b<w.heap.size:=lt_of_cell (cell_of h.obj 0 _ rfl);have bm:=h.lt;have bn:=h.ne;obtain⟨v0,W⟩:∃ v0,v0=w.heap.size:=⟨_,rfl⟩;have X0:Zf w (w.alloc (.cells #[.int .i64 0] 2)):=(Fl w).alloc _;have K0:=alloc_at' w (.cells #[.int .i64 0] 2) W;have X:Xg z=leB 8 n++z.flatMap Xv:=by rw[hn];rfl
 have C0:=Hd (Zd9 (h.fr X0 id id) n Om v0 0 K0 (by rw[X,List.drop_zero];exact List.take_left' (Yc _ _)) (by rw[X,List.length_append,Yc];omega) Om Om);have av:=Hd X0;have HN:=Hd (Ai1 hn (Ai1 aj hv));have HM:=Hd (Ai1 X ag);have HV:=Hd W;have bi:n<=1000:=Om
 clear h aj hv X0 K0 X ag hn;go_enter Tryz.func130,Tryz.ntmps130
 go_upto_region 2 with fail
 rw[<- W];clear W;generalize w.alloc _=w1 at *
 go_upto_region 5 with (first
  | (go_at_call 140;refine C0.out.mono ?_;rintro e M ⟨rfl,h1,h2,h3⟩;have H2:=Hd (Ai1 h1 (Ai1 h2 h3));clear h1 h2 h3)
  | fail)
 clear C0;have q0:=cell_of H2.out.1 0 _ rfl;have ql:=lt_of_cell q0;have az:=Znk n M;go_upto_region 7 with fail
 obtain⟨G,ac⟩:∃ G,G=M.heap.size:=⟨_,rfl⟩;rw[<- ac];have M3:Zq Yi G ([]:List (ByteArray×Value)) (M.alloc (.map #[] 0)):=by rw[ac];exact Zq.made Yi M
 have X3:Zf M (M.alloc (.map #[] 0)):=(Fl M).alloc _;have R3:=H2.out.2.1.fr X3 id id;have F3:Fr (λj=>j=b) w (M.alloc (.map #[] 0)):=((av.out.mono (S':=λj=>j=b) (λ_ _ e=>e.elim)).trans H2.out.2.2 (λk hk e=>e.elim id (λe=>by have:=HV.out;omega))).ext X3;have bj:w.heap.size<=G:=by have h1:=av.out.size;have h2:=H2.out.2.2.size;omega
 have H3:=Hd (Ai1 M3 (Ai1 R3 F3));clear M3 X3 R3 F3 ac az q0 ql H2;generalize M.alloc _=w3 at *
 go_loopg [22] n (λg1 v22 wr=>∃ i:Nat,v22=.int .i64 (i:Int)/\i<=n/\n<=i+g1/\Hid (Zq Yi G (Y5 (z.take i)) wr/\Qu b g c (Xg z) (8+((z.take i).flatMap Xv).length) wr/\Fr (λj=>j=b) w wr))
 case atStart=>exact⟨0,rfl,Om,Om,H3.out.1,H3.out.2.1,H3.out.2.2⟩
 case round =>
  obtain⟨i,rfl,hi,bo,HR⟩:=hrel;by_cases a1:i<n
  ·have bk:(i:Int)<(n:Int):=Om;have bh:(0:Int)<=(i:Int):=Om;have J:i<z.length:=by rw[<- HN.out.1];exact a1
   obtain⟨T,hT⟩:∃ T,T=((z.take i).flatMap Xv).length:=⟨_,rfl⟩
   have A:(Xg z).drop (8+T)=Xv z[i]++(z.drop (i+1)).flatMap Xv:=by
    have e:z.flatMap Xv=(z.take i).flatMap Xv++(Xv z[i]++(z.drop (i+1)).flatMap Xv):=by
     conv=>lhs;rw[<- List.take_append_drop i z,List.flatMap_append,List.drop_eq_getElem_cons J,List.flatMap_cons]
    rw[HM.out.1,e,hT,<- List.drop_drop,List.drop_left' (Yc _ _),List.drop_left]
   have Y:=congrArg List.length A;rw[List.length_drop,List.length_append]at Y;have hR:=HR.out;rw[<- hT]at hR;have hv:=HN.out.2.2 _ (List.getElem_mem J)
   have ai:z[i].1 ∉ (z.take i).map (·.1):=λe=>by
    have h1:=HN.out.2.1;rw[<- List.take_append_drop i z,List.map_append,List.drop_eq_getElem_cons J,List.map_cons]at h1;exact (List.nodup_append.1 h1).2.2 _ e _ List.mem_cons_self rfl
   have ab:put (Y5 (z.take i)) z[i].1 (.int .i8 (z[i].2:Int))=Y5 (z.take (i+1)):=by
    rw[Zls (Fg ai),List.take_succ_eq_append_getElem J];unfold Y5;rw[List.map_append];rfl
   have ap:=Fw Xv J;have HP:=Hd (Ai1 ab (Ai1 ap hT));have al:Xv z[i]=leB 8 z[i].1.size++(z[i].1.data.toList++leB 1 z[i].2):=rfl;rw[al]at A Y;clear ai ab ap hT al;generalize z[i]=mk at *;obtain⟨k,v⟩:=mk;simp only at A Y hv;have I:k.data.toList.length=k.size:=Array.length_toList;rw[List.length_append,List.length_append,Yc,Yc,I]at Y;have bt:=HM.out.2;have am:=hR.1.lt;have ar:¬ b=G:=Om;have hA:((Xg z).drop (8+T)).take 8=leB 8 k.size:=by rw[A,List.append_assoc];exact List.take_left' (Yc _ _)
   have hB:((Xg z).drop (8+T+8)).take k.size=k.data.toList:=by
    rw[<- List.drop_drop,A,List.append_assoc,List.drop_left' (Yc _ _),List.append_assoc];exact List.take_left' I
   have hC:((Xg z).drop (8+T+8+k.size)).take 1=leB 1 v:=by
    rw[<- List.drop_drop,<- List.drop_drop,A,List.append_assoc,List.drop_left' (Yc _ _),List.append_assoc,List.drop_left' I];exact List.take_left' (Yc _ _)
   have K:=Hd (Ai1 hA (Ai1 hB hC));clear hA hB hC A;obtain⟨v1,V⟩:∃ v1,v1=wr.heap.size:=⟨_,rfl⟩;have X4:Zf wr (wr.alloc (.cells #[.int .i64 0] 2)):=(Fl wr).alloc _;have K4:=alloc_at' wr (.cells #[.int .i64 0] 2) V;have bs:b<wr.heap.size:=lt_of_cell (cell_of hR.2.1.obj 0 _ rfl);have be:=hR.2.1.lt;have C4:=Hd (Zd9 (hR.2.1.fr X4 id id) k.size Om v1 0 K4 K.out.1 Om Om Om);have aa:=Hd (Ai1 hR X4);clear K4 X4 hR;go_upto_region 9 with fail
   rw[<- V];have a7:=Hd V;clear V;generalize wr.alloc _=w4 at *
   go_upto_region 12 with (first
    | (go_at_call 140;refine C4.out.mono ?_;rintro e w5 ⟨rfl,h1,h2,h3⟩;have H5:=Hd (Ai1 h1 (Ai1 h2 h3));clear h1 h2 h3)
    | fail)
   clear C4;have q0:=cell_of H5.out.1 0 _ rfl;have ql:=lt_of_cell q0;have ak:=Md k.size Om w5;obtain⟨q,hq⟩:∃ q,q=w5.heap.size:=⟨_,rfl⟩;have X6:Zf w5 (w5.alloc (.cells (Array.replicate k.size (.int .u8 0)) 5)):=(Fl w5).alloc _;have K6:=alloc_at' w5 (.cells (Array.replicate k.size (.int .u8 0)) 5) hq;have bu:w4.heap.size<=w5.heap.size:=H5.out.2.2.size;have bv:wr.heap.size<=w4.heap.size:=aa.out.2.size;have C6:=Hd (Rj (H5.out.2.1.fr X6 id id) k.size q _ K6 (by simp) Om Om Om);have a6:=Hd X6;have HQ:=Hd hq;clear X6 K6;go_upto_region 13 with fail
   rw[<- hq];clear hq ak q0 ql;generalize w5.alloc _=w6 at *
   go_upto_region 16 with (first
    | (go_at_call 166;refine C6.out.mono ?_;rintro e L ⟨rfl,h1,h2,h3⟩;have H7:=Hd (Ai1 h1 (Ai1 h2 h3));clear h1 h2 h3)
    | fail)
   clear C6;have af:Fr (λj=>j=b) wr L:=(((aa.out.2.mono (S':=λj=>j=b) (λ_ _ e=>e.elim)).trans H5.out.2.2 (λj hj e=>e.elim id (λe=>by have:=a7.out;omega))).ext a6.out).trans H7.out.2.2 (λj hj e=>e.elim (λe=>by have:=HQ.out;omega) id);obtain⟨v2,U⟩:∃ v2,v2=L.heap.size:=⟨_,rfl⟩;have X8:Zf L (L.alloc (.cells #[.int .i8 0] 91)):=(Fl L).alloc _;have K8:=alloc_at' L (.cells #[.int .i8 0] 91) U;have bf:b<L.heap.size:=lt_of_cell (cell_of H7.out.2.1.obj 0 _ rfl);have bd:=H7.out.2.1.lt;have a8:q<L.heap.size:=(Gs1.1 H7.out.1).1;have bb:G<L.heap.size:=Nat.lt_of_lt_of_le am af.size;have C8:=Hd (Zk8 (H7.out.2.1.fr X8 id id) v Om v2 0 K8 K.out.2.2 Om Om Om);have Z:=Hd (Ai1 X8 af);have aw:=Hd U;have ay:¬ q=b:=by have:=HQ.out;omega
   clear X8 K8 af;go_upto_region 17 with fail
   rw[<- U];clear U;generalize L.alloc _=w8 at *
   go_upto_region 20 with (first
    | (go_at_call 167;refine C8.out.mono ?_;rintro e w9 ⟨rfl,h1,h2,h3⟩;have H9:=Hd (Ai1 h1 (Ai1 h2 h3));clear h1 h2 h3)
    | fail)
   clear C8
   have ah:w9.heap[q]?=some (.cells (Zp k.data.toList).toArray 5 (0,0)):=by
    have h1:=H9.out.2.2.heap (Z.out.1.heap H7.out.1 id) (λe=>e.elim ay (λe=>by have:=aw.out;omega));rwa[K.out.2.1]at h1
   have bq:(convert 55 9 (.slice (some ⟨q,0,none⟩) k.size k.size)).run Tryz.prog w9=.ok (.string k) w9:=by
    have h1:=run_convert_bytes_back (P:=Tryz.prog) w9 55 9 5 ⟨q,0,none⟩ k.size k.data.toList Tryz.underlying55 Tryz.underlying5 Tryz.underlying9 (λj hj=>by
     rw[Addr.add_lit,Nat.zero_add];refine cell_of ah j _ ?_;have e2:(Zp k.data.toList).toArray[j]?=(Zp k.data.toList)[j]?:=(by simp);rw[e2];unfold Zp;rw[List.getElem?_map,Ge hj]
     rfl)
    rw[I,Array.toArray_toList]at h1;exact h1
   have q0:=cell_of H9.out.1 0 _ rfl;have ql:=lt_of_cell q0;have F9:Fr (λj=>j=b) wr w9:=(Z.out.2.ext Z.out.1).trans H9.out.2.2 (λj hj e=>e.elim id (λe=>by have:=aw.out;have:=Z.out.2.size;omega));have au:Zq Yi G (Y5 (z.take i)) w9:=aa.out.1.1.keep F9 (λe=>ar e.symm);have ae:=Hd (Ai1 au (Ai1 H9.out.2.1 F9));clear au F9 ah
   go_wp2_with (first
    | (at_mapUpdate;refine Yd rfl _ _ _ rfl Vv Tryz.underlying101 Tryz.underlying9 rfl ae.out.1 k (.int .i8 (v:Int)) rfl rfl ?_;intro bg ao aq ax;have ad:=Hd (Ai1 ao aq);clear ao aq ax)
    | fail)
   go_roundg (n-(i+1))
   case measure=>omega
   case rel =>
    refine⟨i+1,by go_num,Om,Om,by rw[<- HP.out.1];exact ad.out.1,?_,(aa.out.1.2.2.then ae.out.2.2).trans ad.out.2 (λj hj e=>Om)⟩
    have e:8+((z.take (i+1)).flatMap Xv).length=8+T+8+k.size+1:=by
     rw[HP.out.2.1,List.length_append,<- HP.out.2.2];show 8+(T+(leB 8 k.size++(k.data.toList++leB 1 v)).length)=_;rw[List.length_append,List.length_append,Yc,Yc,I];omega
    rw[e];exact ae.out.2.1.fr ad.out.2 ar (λe=>Om)
  ·obtain rfl:i=n:=Om
   go_wp2_with fail
   first|go_ret|go_ret2
   have h1:=HR.out.1;rw[show z.take i=z by rw[HN.out.1,List.take_length]]at h1;exact⟨G,rfl,h1,HR.out.2.2⟩
end
section
open Go.RowKit Go.Maps Go.Sort Go.Shelf TR DT SP
open Go.WideElems (Fit rd rg)
open Go.WideShapes (sorted_perm)
open Go.WideMaps (keyOf_string_mk)
theorem Znh(m:Nat):AnyZ.SortsIn Tryz.prog YtlfoalomaofejaaGreatDoor.laysSorted_ren Fence.wide m :=
  ⟨λblk off cap ss W z h q=>callsIn_wide.2 (AnyM.slices_Sort_string YtlfoalomaofejaaGreatDoor.laysSortS blk off cap ss W z h q),
   λp cap W=>callsIn_wide.2 (AnyM.slices_Sort_string_none YtlfoalomaofejaaGreatDoor.laysSortS p cap W)⟩
abbrev Zcc:TypeId:=102
theorem Cd(h:Option Nat)(W:World):Calls Tryz.prog 110 #[.map h] W λe w'=>e=.returned (.func (.func 145) #[] #[.pointer (some ⟨W.heap.size,0,none⟩)])/\w'=W.alloc (.cells #[.map h] Zcc) :=
 (callsIn_wide (n:=5)).1 (AnyZ.keys_in YtlfoalomaofejaaGreatDoor.laysKeys Fence.wide 5 trivial rfl h W)
theorem Zc2{r:Nat}{L:List (ByteArray×Value)}{w:World}(h:Zq Yi r L w)(J:∀ p∈L,p.1.size<=maxLen)(V:L.length<=maxLen) :
  ∃ U:DataW Unit,w.ownsMap Tryz.prog 9 (λ_=>some (.nil,[])) r L.length U/\(strKeys U).Perm (L.map (·.1.data.toList))/\Maps.size U=L.length:=by
 obtain⟨z,A,X,I,K⟩:=h;have M:z.size=L.length:=by have:=congrArg List.length I;simpa using this
 have G:∀ x∈z.toList,rd (H:=Unit) Tryz.prog 9 (λ_=>some (.nil,[])) x=some (.string (kOf x).data.toList,.nil):=λx q=>by
  obtain⟨p,hp,h1,_⟩:=Fc I q;have W:=Cj I q;rw[h1]at W;have e:p.1=kOf x:=Value.string.inj W;have h2:=keyOf_string_mk (P:=Tryz.prog) (k:=9) Tryz.underlying9 (s:=kOf x) (by rw[<- e];exact J p hp);unfold Go.WideElems.rd;rw[Cj I q,h2];rfl
 refine⟨_,⟨z,A,X,⟨Om,K,λx q=>⟨_,G x q⟩⟩,Om,rfl⟩,?_,?_⟩
 ·have h1:=(sorted_perm (z.toList.map (rg (H:=Unit) Tryz.prog 9 (λ_=>some (.nil,[]))))).map (λp=>strOf p.1);refine h1.trans ?_;rw[List.map_map]
  have e:z.toList.map ((λp:Lit×DataW Unit=>strOf p.1) ∘ rg (H:=Unit) Tryz.prog 9 (λ_=>some (.nil,[])))=(z.toList.map kOf).map (·.data.toList):=by
   rw[List.map_map];refine List.map_congr_left λx q=>?_
   show strOf (rg (H:=Unit) Tryz.prog 9 (λ_=>some (.nil,[])) x).1=_;unfold Go.WideElems.rg;rw[G x q];rfl
  rw[e,Zbc I,List.map_map];exact List.Perm.refl _
 ·refine (sorted_perm (z.toList.map (rg (H:=Unit) Tryz.prog 9 (λ_=>some (.nil,[]))))).length_eq.trans ?_;rw[List.length_map];simpa using M
theorem J1{r:Nat}{ms:List (ByteArray×Nat)}{w:World}(h:Zq Yi r (Y5 ms) w)(U:∀ m∈ms,m.1.size<=maxLen)(Z:ms.length<=1000) :
  Calls Tryz.prog 109 #[.func (.func 145) #[] #[.pointer (some ⟨w.heap.size,0,none⟩)]] (w.alloc (.cells #[.map (some r)] Zcc)) λe w'=>∃ v,e=.returned v/\w'.ownsRow (w.heap.size+1) 9 1 v ms.length ((Wr ms).map λm=>Value.string m.1)/\Zf (w.alloc (.cells #[.map (some r)] Zcc)) w':=by
 have K:(Y5 ms).length=ms.length:=List.length_map ..;obtain⟨X,z,A,M⟩:=Zc2 h (λp hp=>by obtain⟨m,hm,rfl⟩:=List.mem_map.1 hp;exact U m hm) (by rw[K];unfold maxLen;omega);rw[K]at M;have V:=z.lt
 have J:SeqGives Fence.wide 2 Tryz.prog 145 #[.pointer (some ⟨w.heap.size,0,none⟩)] encStr (λss=>ss.Perm (strKeys X)) (Maps.size X) (w.alloc (.cells #[.map (some r)] Zcc)) :=
  AnyZ.keys_gives (ρ:=YtlfoalomaofejaaGreatDoor.laysKeys_ren) { YtlfoalomaofejaaGreatDoor.laysKeys with } Fence.wide _ trivial rfl Om w.heap.size r _ X _ (by simp) (by simp) (by
   obtain⟨es,I,W,Ft,hs,M⟩:=z
   exact⟨es,I,(Below.heap_alloc _ _ r V).trans W,Ft,hs,M⟩)
 have C:=AnyZ.sorted_in YtlfoalomaofejaaGreatDoor.laysSorted Fence.wide 5 trivial trivial trivial trivial rfl Om (Znh _) (enters_of Tryz.func144 Kr rfl) 145 #[.pointer (some ⟨w.heap.size,0,none⟩)] trivial (enters_of Tryz.func145 Kr rfl) _ _ (by rw[M];unfold maxLen;omega) (by rw[M];omega) _ J;refine ((callsIn_wide (n:=5)).1 C).mono ?_;rintro e w' ⟨v,ss,rfl,hp,q,Y,W⟩
 have L:ss.Perm (ms.map (·.1.data.toList)):=by
  refine hp.trans (A.trans ?_);unfold Y5;rw[List.map_map];exact List.Perm.refl _
 have e1:ss.mergeSort (λx y=>decide (x<=y))=(Wr ms).map (·.1.data.toList):=by
  rw[Iq L];have:=Kn (ks:=ms.map (·.1)) (ms:=ms) (List.Perm.refl _);rwa[List.map_map]at this
 have G:ss.length=ms.length:=by rw[L.length_eq,List.length_map]
 refine⟨v,rfl,?_,Fr.of_below W⟩;rw[e1,G,Fy,Za]at q;exact q
end
section
open Go.RowKit TR DT SP
def gM(m:ByteArray×Nat):GMark:=⟨m.1,(m.2:Int)⟩
theorem Zg5:P0 Tryz.prog 76 2 24:=Rq Kr
theorem Znj(w:World)(a b:Value){T:TypeId}:∀ j u,[a,b][j]?=some u->(w.alloc (.cells #[a,b] T)).cell? ((⟨w.heap.size,0,none⟩:Addr).add j)=some u:=by
 intro j u h;rw[Addr.add_lit,Nat.zero_add];exact cell_of (alloc_at w _) j u (by simpa using h)
theorem Gb{r:Nat}{ms:List (ByteArray×Nat)}{w:World}(h:Zq Yi r (Y5 ms) w)(Y:(ms.map (·.1)).Nodup)(V:∀ m∈ms,m.2<=127)(J:∀ m∈ms,m.1.size<=1000000000)(G:ms.length<=1000) :
  Calls Tryz.prog 54 #[.map (some r)] w λe w'=>∃ v,e=.returned v/\RowK tMark 76 v ((Wr ms).map gM) w.heap.size w'/\Zf w w':=by
 have C1:=Hd (Cd (some r) w);have C2:=Hd (J1 h (λm hm=>by have:=J m hm;unfold maxLen;omega) G);have H:=Hd (Ai1 h (Ai1 Y (Ai1 V J)));obtain⟨n,hn⟩:∃ n,n=ms.length:=⟨_,rfl⟩;rw[<- hn]at C2 G;have HN:=Hd hn;have X1:Zf w (w.alloc (.cells #[.map (some r)] Zcc)):=(Fl w).alloc _;have af:=Hd X1;clear h Y V J hn X1;obtain⟨q,K⟩:∃ q,q=Wr ms:=⟨_,rfl⟩
 have U:Hid (q.length=n/\∀ x∈q,x∈ms):=by
  have h1:=Tg ms;rw[<- K]at h1;exact⟨by rw[h1.length_eq,HN.out],λx hx=>h1.mem_iff.1 hx⟩
 rw[<- K]at C2⊢;clear K;have X:∀ v:Nat,v<=127->IntKind.i64.wrap (v:Int)=(v:Int):=λv V=>by rw[IntKind.wrap_i64];omega
 go_enter Tryz.func54,Tryz.ntmps54
 go_wp2_with (first
  | (go_at_call 110;refine C1.out.mono ?_;rintro e w' ⟨rfl,rfl⟩;clear C1)
  | (go_at_call 109;refine C2.out.mono ?_;rintro e w2 ⟨v,rfl,ho,hx⟩;obtain⟨A,c,ev⟩:=Zm ho;subst ev;have H2:=Hd (Ai1 ho (af.out.then hx));clear ho hx C2)
  | fail)
 go_loopg [3,10] n (λg1 v3 ab wr=>∃ (i:Nat) (u:Value),v3=u/\ab=.int .i64 (i:Int)/\i<=n/\n<=i+g1/\Hid (RowK tMark 76 u ((q.take i).map gM) w2.heap.size wr/\Zf w2 wr))
 case atStart=>exact⟨0,_,rfl,rfl,Om,Om,RowK.nil _,Fl _⟩
 case round =>
  obtain⟨i,u,rfl,rfl,hi,hg,I⟩:=hrel;by_cases ac:i<n
  ·have al:(i:Int)<(n:Int):=Om;have ai:(0:Int)<=(i:Int):=Om;have M:i<q.length:=by rw[U.out.1];exact ac
   obtain⟨g,c',eA,W,_⟩:=V2 (Zr H2.out.1 I.out.2 (λ_ _ e=>e)) i Om;rw[List.getElem?_map,Ge M]at W;simp only[Value.slice.injEq]at eA;obtain⟨rfl,_,rfl⟩:=eA;have W:wr.cell? ⟨g,i,none⟩=some (.string q[i].1):=W;have ql:=lt_of_cell W;have z:=U.out.2 _ (List.getElem_mem M);have L:=Nf H.out.2.1 z;have V:=H.out.2.2.1 _ z;have hs:=H.out.2.2.2 _ z
   have HT:Hid ((q.take (i+1)).map gM=(q.take i).map gM++[gM q[i]]):=by
    show _=_;rw[List.take_succ_eq_append_getElem M,List.map_append];rfl
   have hM:=H.out.1.keep (H2.out.2.then I.out.2) id;have HM:=Hd hM;clear hM z;generalize q[i]=mk at *;obtain⟨k,v⟩:=mk;simp only at W V hs L;have ak:=X v V;have ah:=Hd L;have ae:=T5;clear X L;have ag:=Hd I.out.1.low;have aj:=I.out.2.size
   go_wp2_with (first
    | (at_lookup;refine Zk rfl _ _ false rfl Vv Tryz.underlying102 Tryz.underlying9 (ae _) rfl HM.out k rfl ?_;simp only[Bool.false_eq_true,if_false,ah.out,Option.getD_some])
    | (at_builtin;refine RowK.lst (d:=tMark) (v:=u3) rfl _ _ 27 rfl (gM (k,v)) [.string k,.int .i64 (v:Int)] 24 ⟨wr.heap.size,0,none⟩ Tryz.underlying27 Zg5 (by decide) Om rfl rfl (I.out.1.ext ((Fl wr).alloc _)) (by rw[List.length_map,List.length_take];omega) (by rw[Za];omega) (Znj _ _ _) ⟨[_],[_],rfl,⟨rfl,by show k.size<=_;omega⟩,⟨rfl,by show -9223372036854775808<=(v:Int)/\(v:Int)<=9223372036854775807;omega⟩⟩ ?_;intro v' w6 aa Z ad;have H6:=Hd (Ai1 aa Z);clear aa Z ad)
    | fail)
   go_roundg (n-(i+1))
   case measure=>omega
   case rel=>exact⟨i+1,v',rfl,by go_num,Om,Om,by rw[HT.out];exact H6.out.1,(I.out.2.alloc _).trans H6.out.2 (λj hj e=>by have:=(ag.out j e).1;omega)⟩
  ·obtain rfl:i=n:=Om
   go_wp2_with fail
   first|go_ret|go_ret2
   have h1:=I.out.1;rw[show q.take i=q by rw[<- U.out.1,List.take_length]]at h1;exact⟨_,rfl,h1.base H2.out.2.size,H2.out.2.then I.out.2⟩
end
section
open Go.RowKit TR DT SP
theorem Zic(ms:List (ByteArray×Nat)):(Wr ms).Pairwise (λx y=>decide (x.1.data.toList<=y.1.data.toList)=true) :=
 List.pairwise_mergeSort (λa b c h k=>Zjh a.1.data.toList b.1.data.toList c.1.data.toList h k) (λa b=>Zdg a.1.data.toList b.1.data.toList) ms
theorem Zcs(ms:List (ByteArray×Nat)):Wr (Wr ms)=Wr ms:=List.mergeSort_of_pairwise (Zic ms)
theorem Hz(w:World)(A:Option Addr)(n c:Nat):Calls Tryz.prog 51 #[.slice A n c] w λe w'=>e=.returned (.pointer (some ⟨w.heap.size,0,none⟩))/\w'=w.alloc (.cells #[.slice A n c,.int .i64 0,.int .i64 (-1)] TRd):=by
 go_enter Tryz.func51,Tryz.ntmps51
 go_wp2_with fail
 first|go_ret|go_ret2
 exact⟨rfl,rfl⟩
theorem Zje{b:Nat}{w:World}{Q:Ending->World->Prop}(h:Calls Tryz.prog 130 #[.iface 112 (.pointer (some ⟨b,0,none⟩))] w λe w'=>∃ q,e=.returned (.tuple #[.map (some q),.nilIface])/\Q (.returned (.tuple #[.map (some q),.nilIface])) w') :
  Calls Tryz.prog 91 #[.iface 112 (.pointer (some ⟨b,0,none⟩))] w Q:=by
 have H:=Hd h;clear h;go_enter Tryz.func91,Tryz.ntmps91
 go_wp2_with (first
  | (go_at_call 130;refine H.out.mono ?_;rintro e G ⟨n,rfl,z⟩;have A:=Hd z;clear z)
  | fail)
 exact A.out
theorem Oq(ms:List (ByteArray×Nat))(J:(ms.map (·.1)).Nodup)(hv:∀ m∈ms,m.2<=100)(I:ms.length<=1000)(W:(Xg (Wr ms)).length<=1000000000)(X:∀ m∈ms,m.1.size<=1000000000)(A:Option Addr)(c:Nat)(w:World)(hA:∀ j (h:j<ms.length),∃ b o,A=some ⟨b,o,none⟩/\w.cell? ⟨b,o+j*2,none⟩=some (.string ms[j].1)/\w.cell? ⟨b,o+j*2+1,none⟩=some (.int .i64 (ms[j].2:Int))) :
  Calls Tryz.prog 35 #[.slice A ms.length c] w λe w'=>∃ v,e=.returned (.tuple #[v,.int .i64 0])/\RowK tMark 76 v ((Wr ms).map gM) w.heap.size w'/\Zf w w':=by
 have C1:=Hd (Ga ms J hv I W A c w hA);have hp:=Tg ms;have G:∀ m∈Wr ms,m∈ms:=λm K=>hp.mem_iff.1 K
 have z:((Wr ms).map (·.1)).Nodup:=((hp.map (·.1)).nodup_iff).2 J;have Y:(Wr ms).length<=1000:=by rw[hp.length_eq];exact I
 have H:=Hd (Ai1 G (Ai1 z (Ai1 hv X)));have ab:8<=(Xg (Wr ms)).length:=by unfold Xg;rw[List.length_append,Yc];omega
 have aa:=Hd (Zcs ms);clear hp G z J hv X hA;generalize Wr ms=L at *;go_enter Tryz.func35,Tryz.ntmps35
 go_upto_region 4 with (first
  | (go_at_call 90;refine C1.out.mono ?_;rintro e q ⟨v,rfl,ho,V⟩;obtain⟨g,cg,ev,eg,_⟩:=V2 ho 0 Om;subst ev;have U:=Hd (Ai1 ho V);clear ho V eg C1)
  | fail)
 obtain⟨b,hb⟩:∃ b,b=q.heap.size:=⟨_,rfl⟩;have ad:g<q.heap.size:=(U.out.1.lt g rfl).2;have ac:w.heap.size<=g:=(U.out.1.lt g rfl).1
 have Z:(Xg L).length<=cg:=by
  obtain⟨_,⟨e,_⟩|⟨g',c',ae,e,_,_,hc,_⟩⟩:=U.out.1
  ·cases e
  ·cases e;exact hc
 have X2:Zf q (q.alloc (.cells #[.slice (some ⟨g,0,none⟩) (Xg L).length cg,.int .i64 0,.int .i64 (-1)] TRd)):=(Fl q).alloc _
 have R2:Qu b g cg (Xg L) 0 (q.alloc (.cells #[.slice (some ⟨g,0,none⟩) (Xg L).length cg,.int .i64 0,.int .i64 (-1)] TRd)):=⟨alloc_at' q _ hb,λj u hj=>by
  have h1:=X2.cell (U.out.1.cells (g:=g) rfl j u hj) id
  rwa[Addr.add_lit,Nat.zero_add]at h1,by rw[Za];omega,Om,Nat.zero_le _,Z,Om⟩
 have CR:=Hd (Zje (Q:=λe w'=>∃ M,e=.returned (.tuple #[.map (some M),.nilIface])/\Zq Yi M (Y5 L) w'/\Fr (λj=>j=b) (q.alloc (.cells #[.slice (some ⟨g,0,none⟩) (Xg L).length cg,.int .i64 0,.int .i64 (-1)] TRd)) w') ((Zak R2 H.out.2.1 (λm K=>by have:=H.out.2.2.1 m (H.out.1 m K);omega) Y W).mono λe w' ⟨M,e1,h1,h2⟩=>⟨M,e1,M,rfl,h1,h2⟩));have HX:=Hd (Ai1 X2 hb);clear X2 R2 Z hb
 go_wp2_with (first
  | (go_at_call 51;refine (Hz q _ _ _).mono ?_;rintro e w2 ⟨rfl,rfl⟩;rw[<- HX.out.2])
  | (go_at_call 91;refine CR.out.mono ?_;rintro e w3 ⟨M,rfl,h1,h2⟩;have H3:=Hd (Ai1 h1 h2);clear h1 h2 CR)
  | (go_at_call 54;refine (Gb H3.out.1 H.out.2.1 (λm K=>by have:=H.out.2.2.1 m (H.out.1 m K);omega) (λm K=>H.out.2.2.2 m (H.out.1 m K)) Y).mono ?_;rintro e w4 ⟨v,rfl,hr,V⟩;rw[aa.out]at hr;have H4:=Hd (Ai1 hr V);clear hr V)
  | fail)
 first|go_ret|go_ret2
 have X3:Zf w w3:=(U.out.2.then HX.out.1).trans H3.out.2 (λj hj e=>by have:=HX.out.2;have:=U.out.2.size;omega);exact⟨v,rfl,H4.out.1.base X3.size,X3.then H4.out.2⟩
end
section
open Go.RowKit DT SS TR LT
def Mc(l:List GMark):List (ByteArray×Nat):=l.map λm=>(m.name,m.place.toNat)
def dM(d:Zg):Zg:={ d with meta0:=(Wr (Mc d.meta0)).map gM }
section
variable{d:Zg}
theorem Zop{l:List GMark}(h:∀ m∈l,0<=m.place):(Mc l).map gM=l:=by
 unfold Mc;rw[List.map_map]
 conv=>rhs;rw[<- List.map_id l]
 refine List.map_congr_left λm q=>?_
 have:=h m q;show GMark.mk m.name ((m.place.toNat:Nat):Int)=m;rw[Int.toNat_of_nonneg this]
theorem Zmq(h:∀ m∈d.meta0,0<=m.place):(dM d).meta0.Perm d.meta0:=by
 have h1:=(Tg (Mc d.meta0)).map gM;rw[Zop h]at h1;exact h1
theorem Zmj(hp:(dM d).meta0.Perm d.meta0):Yb (dM d)=Yb d:=by
 have q:Yl (dM d).meta0.length=Yl d.meta0.length:=by rw[hp.length_eq]
 have h:(dM d).meta0.all Xd=d.meta0.all Xd:=hp.all_eq;unfold Yb;rw[q,h];rfl
theorem Ziq(hp:(dM d).meta0.Perm d.meta0):Zl (dM d)=Zl d:=by
 have e:((dM d).meta0++(dM d).unkMeta).all (λx=>!V7 x)=(d.meta0++d.unkMeta).all (λx=>!V7 x):=by
  rw[List.all_append,List.all_append,hp.all_eq];rfl
 unfold Zl;rw[e];rfl
theorem Zmk(hp:(dM d).meta0.Perm d.meta0)(xs:List ByteArray):Uf (dM d) xs=Uf d xs:=by
 have h:Xx (dM d)=Xx d:=by
  unfold Xx;rw[hp.length_eq];rfl
 unfold Uf;rw[h,Ziq hp];rfl
theorem Za3(r:List Yy)(m:Yy)(s:ByteArray):Yu (r++[m]) s=if m.1=s then some m.2 else Yu r s:=by
 unfold Yu;rw[List.foldl_append];rfl
theorem Iu(s:ByteArray)(v:Int){l:List Yy}(h:(l.map (·.1)).Nodup):Yu l s=some v↔(s,v)∈l:=by
 suffices ∀ r:List Yy,(r.reverse.map (·.1)).Nodup->(Yu r.reverse s=some v↔(s,v)∈r.reverse) by
  have:=this l.reverse (by rwa[List.reverse_reverse]);rwa[List.reverse_reverse]at this
 intro r
 induction r with
 | nil=>intro _;exact⟨(λh=>by cases h),(λh=>by cases h)⟩
 | cons m r ih =>
  intro h;rw[List.reverse_cons]at h⊢;rw[List.map_append]at h;obtain⟨h1,_,h3⟩:=List.nodup_append.1 h;rw[Za3,List.mem_append,List.mem_singleton]
  split
  ·next e =>
   subst e;constructor
   ·intro q;have q:=Option.some.inj q;subst q;exact .inr rfl
   ·rintro (q|q)
    ·exact absurd rfl (h3 _ (List.mem_map.2 ⟨_,q,rfl⟩) _ (by simp))
    ·rw[<- q]
  ·next e =>
   rw[ih h1];exact⟨.inl,λq=>q.elim id (λq=>absurd (by rw[<- q]) e)⟩
theorem Za4{l q:List Yy}(hp:l.Perm q)(h:(l.map (·.1)).Nodup)(s:ByteArray):Yu l s=Yu q s:=by
 have z:(q.map (·.1)).Nodup:=((hp.map (·.1)).nodup_iff).1 h;apply Option.ext;intro v;rw[Iu s v h,Iu s v z,hp.mem_iff]
theorem Znw(hp:(dM d).meta0.Perm d.meta0)(q:(d.meta0.map (·.name)).Nodup)(us:List GRec)(t:Y0):Kv (dM d) us t=Kv d us t:=by
 have z:∀ key,Yu (Zj (dM d).meta0) key=Yu (Zj d.meta0) key:=λkey=>by
  refine Za4 (hp.map _) ?_ key;refine (((hp.map (λm:GMark=>(m.name,m.place))).map (·.1)).nodup_iff).2 ?_;rw[List.map_map];exact q
 have h:∀ key,Zo (dM d) us t key=Zo d us t key:=λkey=>by
  unfold Zo;rw[z];rfl
 unfold Kv;rw[h,h,h,h,h];rfl
theorem Za1{l:List GMark}(h:(l.map λm=>m.name.size+1).sum<=1048576)(hl:l.length<=20):(Xg (Wr (Mc l))).length<=1000000000/\∀ m∈Mc l,m.1.size<=1000000000:=by
 have key:∀ ms:List (ByteArray×Nat),(ms.flatMap Xv).length=(ms.map λm=>m.1.size+9).sum:=by
  intro ms
  induction ms with
  | nil=>rfl
  | cons a ms ih =>
   rw[List.flatMap_cons,List.length_append,ih,List.map_cons,List.sum_cons];unfold Xv;rw[List.length_append,List.length_append,Yc,Yc,show a.1.data.toList.length=a.1.size from Array.length_toList];omega
 have z:∀ l:List GMark,((Mc l).map λm=>m.1.size+9).sum=(l.map λm=>m.name.size+1).sum+8*l.length:=by
  intro l
  induction l with
  | nil=>rfl
  | cons a l ih =>
   show a.name.size+9+((Mc l).map λm=>m.1.size+9).sum=a.name.size+1+(l.map λm=>m.name.size+1).sum+8*(l.length+1);omega
 refine⟨?_,λm A=>?_⟩
 ·unfold Xg;rw[List.length_append,Yc,((Tg (Mc l)).flatMap_right Xv).length_eq,key,z];omega
 ·obtain⟨x,q,rfl⟩:=List.mem_map.1 A
  have h1:∀ l:List GMark,x∈l->x.name.size+1<=(l.map λm=>m.name.size+1).sum:=by
   intro l
   induction l with
   | nil=>intro h;cases h
   | cons a l ih =>
    intro h;rw[List.map_cons,List.sum_cons];rcases List.mem_cons.1 h with rfl|h
    ·omega
    ·have:=ih h;omega
  have:=h1 l q;show x.name.size<=_;omega
end
end
section
open Go.RowKit DT
def hasB(xs:List ByteArray)(s:ByteArray):Bool:=xs.any λx=>decide (x=s)
theorem I3{xs:List ByteArray}{s:ByteArray}:hasB xs s=true↔s∈xs:=by simp[hasB]
theorem Zme{w:World}{O:Nat->Prop}{A:Option Addr}{c:Nat}{xs:List ByteArray}(s:ByteArray)(h:strs.R w O xs [.slice A xs.length c]) :
  Calls Tryz.prog 33 #[.slice A xs.length c,.string s] w λe w'=>e=.returned (.bool (hasB xs s))/\Zf w w':=by
 have hm:xs.length<=9223372036854775807:=by obtain⟨_,_,_,_,_,h,_⟩:=h;exact h
 have HC:Hid (xs≠[]->_):=λh1=>Xh h h1
 clear h;obtain⟨n,J⟩:∃ n,n=xs.length:=⟨_,rfl⟩;rw[<- J]at hm⊢;have V:=Hd J;clear J;go_enter Tryz.func33,Tryz.ntmps33
 go_wp2_with fail
 go_loopg [8] n (λg1 W wr=>∃ i:Nat,W=.int .i64 (i:Int)/\i<=n/\n<=i+g1/\Hid (s ∉ xs.take i/\Zf w wr))
 case atStart=>exact⟨0,rfl,Om,Om,by simp,Fl _⟩
 case round =>
  obtain⟨i,rfl,hi,hg,z⟩:=hrel;by_cases K:i<n
  ·have aa:(i:Int)<(n:Int):=Om;have Z:(0:Int)<=(i:Int):=Om;have q:i<xs.length:=by rw[<- V.out];exact K
   obtain⟨b,o,rfl,Y,M⟩:=HC.out (λe=>by rw[e]at q;exact absurd q (by simp))
   have X:wr.cell? ⟨b,o+i,none⟩=some (.string xs[i]):=by
    have:=M i (.string xs[i]) (by rw[List.getElem?_map,Ge q];rfl);rw[Addr.add_lit]at this;exact z.out.2.cell this id
   have l1:b<wr.heap.size:=lt_of_cell X;have U:Hid (xs.take (i+1)=xs.take i++[xs[i]]/\xs[i]∈xs):=⟨List.take_succ_eq_append_getElem q,List.getElem_mem q⟩;clear M Y;generalize xs[i]=x at *;clear q
   cases I:(x.toList==s.toList) with
   | true =>
    have G:x=s:=by
     have:=eq_of_beq I;rw[ByteArray.toList_eq,ByteArray.toList_eq]at this;exact ByteArray.ext (Array.toList_inj.1 this)
    have L:Hid (hasB xs s=true):=I3.2 (G▸U.out.2);clear G;go_wp2_with fail
    go_ret;exact⟨by show Ending.returned (.bool true)=_;rw[L.out],z.out.2⟩
   | false =>
    have L:Hid (x≠s):=λe=>by rw[e]at I;simp at I
    go_wp2_with fail
    go_roundg (n-(i+1))
    case measure=>omega
    case rel=>exact⟨i+1,by go_num,Om,Om,by rw[U.out.1];exact λe=>(List.mem_append.1 e).elim z.out.1 (λe=>L.out (List.mem_singleton.1 e).symm),z.out.2⟩
  ·obtain rfl:i=n:=Om
   go_wp2_with fail
   go_ret;have e:hasB xs s=false:=Bool.eq_false_iff.2 (λe=>by have:=z.out.1;rw[V.out,List.take_length]at this;exact this (I3.1 e));exact⟨by show Ending.returned (.bool false)=_;rw[e],z.out.2⟩
theorem Di{w:World}{O O':Nat->Prop}{A B:Option Addr}{c k:Nat}{xs:List GMark}(h1:tMark.At w O A xs)(h2:tMark.At w O' B xs) :
  Calls Tryz.prog 89 #[.slice A xs.length c,.slice B xs.length k] w λe w'=>e=.returned (.bool true)/\Zf w w':=by
 have K:=h1.1;have H:=Hd (Ai1 h1 h2);clear h1 h2;obtain⟨n,G⟩:∃ n,n=xs.length:=⟨_,rfl⟩;rw[<- G]at K⊢;have U:=Hd G;clear G;go_enter Tryz.func89,Tryz.ntmps89
 go_wp2_with fail
 go_loopg [13] n (λM q wr=>∃ i:Nat,q=.int .i64 (i:Int)/\i<=n/\n<=i+M/\Hid (Zf w wr))
 case atStart=>exact⟨0,rfl,Om,Om,Fl _⟩
 case round =>
  obtain⟨i,rfl,hi,hg,h⟩:=hrel;by_cases I:i<n
  ·have L:(i:Int)<(n:Int):=Om;have J:(0:Int)<=(i:Int):=Om;have z:i<xs.length:=by rw[<- U.out];exact I
   obtain⟨b,o,rfl,_,l1,Y,X⟩:=Rn (Ya H.out.1 h.out) i z;obtain⟨b',Z,rfl,_,l2,W,V⟩:=Rn (Ya H.out.2 h.out) i z;generalize xs[i]=x at *;clear z;go_upto_region 6 with fail
   go_quiet (fail)
   go_wp2_with fail
   go_roundg (n-(i+1))
   case measure=>omega
   case rel=>exact⟨i+1,by go_num,Om,Om,h.out.drewN _⟩
  ·obtain rfl:i=n:=Om
   go_wp2_with fail
   go_ret;exact⟨rfl,h.out⟩
end
section
open Go.RowKit TR DT SP
theorem Zl3{w:World}{O:Nat->Prop}{b:Nat}(q:w.heap[b]?=some (.cells #[.string ⟨#[97]⟩,.int .i64 3] 76 (0,0)))(z:O b):tMark.At w O (some ⟨b,0,none⟩) [gM (⟨#[97]⟩,3)] :=
 Zob tMark q z (cs:=[.string ⟨#[97]⟩,.int .i64 3]) ⟨[_],[_],rfl,⟨rfl,by decide⟩,⟨rfl,by decide⟩⟩ (λj h=>by
  have:j=0\/j=1:=by simp at h;omega
  rcases this with rfl|rfl<;>rfl)
theorem Nc(w:World):Calls Tryz.prog 34 #[] w λe w'=>e=.returned (.bool true)/\Zf w w':=by
 have W:Zf w (w.alloc (.cells #[.string ⟨#[97]⟩,.int .i64 3] 76)):=(Fl w).alloc _;have L:=alloc_at w (.cells #[.string ⟨#[97]⟩,.int .i64 3] 76);have h:Wr [(⟨#[97]⟩,3)]=[((⟨#[97]⟩:ByteArray),3)]:=List.mergeSort_singleton _
 have U:=Oq [(⟨#[97]⟩,3)] (by simp) (by simp) (by simp) (by rw[h];simp[Xg,Xv,Yc]) (by simp;decide) (some ⟨w.heap.size,0,none⟩) 1 (w.alloc (.cells #[.string ⟨#[97]⟩,.int .i64 3] 76)) (λj Z=>by
  have:j=0:=by simpa using Z
  subst this
  exact⟨_,_,rfl,cell_of L 0 _ rfl,cell_of L 1 _ rfl⟩)
 rw[h]at U;have J:=Hd U;have HX:=Hd W;clear U h W L;go_enter Tryz.func34,Tryz.ntmps34
 go_upto_region 2 with (first
  | (go_at_call 35;refine J.out.mono ?_;rintro e q ⟨v,rfl,G,z⟩;obtain⟨A,c,ev⟩:=G.own;subst ev;have X:=Hd (Ai1 G (HX.out.then z));clear G z J)
  | fail)
 have K:Zf q (q.alloc (.cells #[.string ⟨#[97]⟩,.int .i64 3] 76)):=(Fl q).alloc _
 have I:tMark.At q (λ_=>True) A [gM (⟨#[97]⟩,3)]:=by
  obtain⟨A',c',e,_,_,V⟩:=X.out.1.slice;simp only[List.cons.injEq,Value.slice.injEq,and_true]at e;obtain⟨rfl,_,rfl⟩:=e;exact⟨V.1,V.2.imp id (λ⟨b,o,e,_,hl,hc⟩=>⟨b,o,e,trivial,hl,λi hi=>by obtain⟨cs,G,Y⟩:=hc i hi;exact⟨cs,tMark.mono (λ_ _ _=>trivial) G,Y⟩⟩)⟩
 have C3:=Hd (Di (c:=c) (k:=1) (Ya I K) (Zl3 (O:=λ_=>True) (alloc_at q _) trivial));have M:=Hd (X.out.2.then K);clear K I
 go_wp2_with (first
  | (go_at_call 89;refine C3.out.mono ?_;rintro e w4 ⟨rfl,z⟩;have H4:=Hd z;clear z)
  | fail)
 first|go_ret|go_ret2
 exact⟨rfl,M.out.then H4.out⟩
end
end Go.Proofs.YtlfoalomaofejaaGreatDoor
