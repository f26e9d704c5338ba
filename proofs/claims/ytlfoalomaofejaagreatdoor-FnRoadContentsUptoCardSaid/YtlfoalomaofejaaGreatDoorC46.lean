/- Texts cut at a byte and joined -/
import Derived.Lib.Join
import Derived.Test.YtlfoalomaofejaaGreatDoorC42
set_option linter.all false
set_option maxRecDepth 100000
set_option maxHeartbeats 2000000
section
namespace SP
def Rl(b:UInt8):List UInt8->List (List UInt8)
 | []=>[[]]
 | c::l=>if c=b then []::Rl b l else match Rl b l with
  | []=>[[c]]
  | x::r=>(c::x)::r
theorem R2(b c:UInt8)(l:List UInt8):Rl b (c::l)=if c=b then []::Rl b l else match Rl b l with|[]=>[[c]]|x::r=>(c::x)::r:=rfl
theorem Lk{b:UInt8}:∀ {l:List UInt8},b ∉ l->Rl b l=[l]
 | [],_=>rfl
 | c::l,h=>by
  rw[List.mem_cons,not_or]at h;rw[R2,if_neg (λe=>h.1 e.symm),Lk h.2]
theorem Dt{b:UInt8}:∀ (p q:List UInt8),b ∉ p->Rl b (p++b::q)=p::Rl b q
 | [],q,_=>by show Rl b (b::q)=_;rw[R2,if_pos rfl]
 | c::p,q,h=>by
  rw[List.mem_cons,not_or]at h;show Rl b (c::(p++b::q))=_;rw[R2,if_neg (λe=>h.1 e.symm),Dt p q h.2]
theorem Vg(x sep:List UInt8)(r:List (List UInt8)):Go.Lib.joinTail sep (x::r)=sep++x++Go.Lib.joinTail sep r:=by simp[Go.Lib.joinTail]
theorem G0{b:UInt8}:∀ (x:List UInt8) (r:List (List UInt8)),b ∉ x->(∀ y∈r,b ∉ y)->Rl b (x++Go.Lib.joinTail [b] r)=x::r
 | x,[],h,_=>by
  show Rl b (x++(List.map _ []).flatten)=_;rw[List.map_nil,List.flatten_nil,List.append_nil];exact Lk h
 | x,y::r,h,hr=>by
  rw[Vg,show x++([b]++y++Go.Lib.joinTail [b] r)=x++b::(y++Go.Lib.joinTail [b] r) by simp,Dt x _ h,G0 y r (hr y (by simp)) (λz hz=>hr z (by simp[hz]))]
theorem G7{b:UInt8}:∀ (xs:List (List UInt8)),xs≠[]->(∀ x∈xs,b ∉ x)->Rl b (Go.Lib.join xs [b])=xs
 | [],h,_=>absurd rfl h
 | x::r,_,h=>by
  rw[Go.Lib.join_cons];exact G0 x r (h x (by simp)) (λy hy=>h y (by simp[hy]))
def Sp(b:UInt8)(l:List UInt8):Int:=if b∈l then (l.idxOf b:Int) else -1
theorem Dg{b:UInt8}{l:List UInt8}(h:b∈l):l.idxOf b<l.length/\b ∉ l.take (l.idxOf b)/\l=l.take (l.idxOf b)++b::l.drop (l.idxOf b+1):=by
 have h1:l.idxOf b<l.length:=List.idxOf_lt_length_of_mem h;refine⟨h1,λhm=>?_,?_⟩
 ·obtain⟨i,hi,e⟩:=List.getElem_of_mem hm;rw[List.length_take]at hi;rw[List.getElem_take]at e;have h3:i<l.findIdx (· == b):=by have:l.idxOf b=l.findIdx (· == b):=rfl;omega
  have h4:=List.not_of_lt_findIdx h3;rw[e]at h4;simp at h4
 ·have h2:l[l.idxOf b]=b:=List.getElem_idxOf h1
  conv=>lhs;rw[<- List.take_append_drop (l.idxOf b) l,List.drop_eq_getElem_cons h1,h2]
end SP
end
namespace Go.Proofs.YtlfoalomaofejaaGreatDoor
section
open Go.RowKit DT SP
theorem Gz{s:ByteArray}{i:Nat}(h:i<s.size):s.extract i (i+1)=⟨#[s[i]]⟩:=by
 apply ByteArray.ext;apply Array.toList_inj.1;apply List.ext_getElem
 ·simp[ByteArray.data_extract];omega
 ·intro k h1 h2;have hk:k=0:=by simp at h2;omega
  subst hk;simp[ByteArray.data_extract];rfl
theorem Cg(s sub:ByteArray)(b:UInt8)(hb:sub=⟨#[b]⟩)(hs:s.size<=4611686018427387904)(w:World) :
  Calls Tryz.prog 150 #[.string s,.string sub] w λe w'=>e=.returned (.int .i64 (Sp b s.data.toList))/\Zf w w':=by
 have h1:sub.size=1:=by rw[hb];rfl
 have HB:=Hd hb;clear hb
 have HE:Hid (∀ j,j<s.size->s.data.toList[j]? ≠ some b->(s.extract j (j+1)).toList≠sub.toList):=λj hj h e=>by
  rw[Gz hj,HB.out]at e;apply h;rw[ByteArray.toList_eq,ByteArray.toList_eq]at e;have e2:s[j]=b:=by simpa using e
  rw[Ge (by simpa using hj)];rw[<- e2];rfl
 have HF:Hid (∀ j (hj:j<s.size),s.data.toList[j]?=some b->(s.extract j (j+1)).toList=sub.toList):=λj hj h=>by
  rw[Gz hj,HB.out];rw[Ge (by simpa using hj)]at h;have:s[j]=b:=by injection h
  rw[this]
 obtain⟨n,hn⟩:∃ n,n=s.size:=⟨_,rfl⟩;rw[<- hn]at hs HE HF;have HN:=Hd hn;have hsz:s.size=n:=hn.symm;clear hn;go_enter Tryz.func150,Tryz.ntmps150
 go_wp2_with fail
 go_loopg [5] n (λg1 v5 wr=>∃ i:Nat,v5=.int .i64 (i:Int)/\i<=n/\n<=i+g1/\Hid ((∀ j,j<i->s.data.toList[j]? ≠ some b)/\Zf w wr))
 case atStart=>exact⟨0,rfl,Om,Om,λj hj=>absurd hj Om,Fl _⟩
 case round =>
  obtain⟨i,rfl,hi,hg,HR⟩:=hrel;by_cases hlt:i<n
  ·have hw:IntKind.i64.wrap ((i:Int)+1)=(i:Int)+1:=by rw[IntKind.wrap_i64];omega
   have y1:(i:Int)+1<=(n:Int):=Om;have y2:(0:Int)<=(i:Int):=Om;have y3:(i:Int)<=(i:Int)+1:=Om;have y4:((i:Int)+1).toNat=i+1:=Om;by_cases hq:s.data.toList[i]?=some b
   ·have e:((s.extract i (i+1)).toList==sub.toList)=true:=by rw[HF.out i hlt hq];exact beq_self_eq_true _
    have HX:Hid (Sp b s.data.toList=(i:Int)):=by
     show _=_;have hl:i<s.data.toList.length:=(Gl.1 hq).1
     have hm:b∈s.data.toList:=by
      have:=List.getElem_mem hl;rwa[(Gl.1 hq).2]at this
     have hi2:=Dg hm;unfold Sp;rw[if_pos hm];have h3:¬ s.data.toList.idxOf b<i:=λq=>HR.out.1 _ q (by rw[Ge hi2.1,List.getElem_idxOf])
     have h4:¬ i<s.data.toList.idxOf b:=λq=>by
      have:=List.not_of_lt_findIdx (p:=(· == b)) (xs:=s.data.toList) (i:=i) q;rw[(Gl.1 hq).2]at this;simp at this
     omega
    clear hq;go_wp2_with fail
    go_ret;exact⟨by show Ending.returned (.int .i64 (i:Int))=_;rw[HX.out],HR.out.2⟩
   ·have e:((s.extract i (i+1)).toList==sub.toList)=false:=by
     cases q:((s.extract i (i+1)).toList==sub.toList) with
     | false=>rfl
     | true=>exact absurd (eq_of_beq q) (HE.out i hlt hq)
    have HQ:=Hd hq;clear hq;go_wp2_with fail
    go_roundg (n-(i+1))
    case measure=>omega
    case rel=>exact⟨i+1,by go_num,Om,Om,λj hj=>by
     rcases Nat.lt_or_ge j i with q|q
     ·exact HR.out.1 j q
     ·obtain rfl:j=i:=Om
      exact HQ.out,HR.out.2⟩
  ·obtain rfl:i=n:=Om
   have hw:IntKind.i64.wrap ((i:Int)+1)=(i:Int)+1:=by rw[IntKind.wrap_i64];omega
   have y1:¬ (i:Int)+1<=(i:Int):=Om
   have HX:Hid (Sp b s.data.toList = -1):=by
    show _=_;unfold Sp;rw[if_neg];intro hm;obtain⟨j,hj,e⟩:=List.getElem_of_mem hm;exact HR.out.1 j (by rw[HN.out];simpa using hj) (by rw[Ge hj,e])
   go_wp2_with fail
   go_ret;exact⟨by show Ending.returned (.int .i64 (-1))=_;rw[HX.out],HR.out.2⟩
end
section
open Go.RowKit DT SP
def Wz(b:UInt8)(s:ByteArray):List ByteArray:=(Rl b s.data.toList).map λl=>⟨l.toArray⟩
theorem Zne:∃ i,Tryz.prog.info? 9=some i/\∃ z:Value,i.zero=some z/\i.size=1/\i.bytes=16/\z.cells.size=1:=by
 have h:(Tryz.prog.info? 9).map (λi=>(i.zero.map (λz=>z.cells.size),i.size,i.bytes))=some (some 1,1,16):=Kr
 cases hi:Tryz.prog.info? 9 with
 | none=>rw[hi]at h;cases h
 | some i =>
  rw[hi]at h;simp only[Option.map_some,Option.some.injEq,Prod.mk.injEq]at h;obtain⟨h1,h2,h3⟩:=h
  cases hz:i.zero with
  | none=>rw[hz]at h1;cases h1
  | some z =>
   rw[hz]at h1;exact⟨i,rfl,z,hz,h2,h3,by simpa using h1⟩
theorem Zgc{b:UInt8}{s:ByteArray}(h:b ∉ s.data.toList):Wz b s=[s]:=by
 unfold Wz;rw[Lk h];rfl
theorem Zls{b:UInt8}{s:ByteArray}(h:b∈s.data.toList):Wz b s=s.extract 0 (s.data.toList.idxOf b)::Wz b (s.extract (s.data.toList.idxOf b+1) s.size):=by
 obtain⟨h1,h2,h3⟩:=Dg h;unfold Wz
 conv=>lhs;rw[h3]
 rw[Dt _ _ h2,List.map_cons];congr 1
 ·apply ByteArray.ext;apply Array.toList_inj.1;simp[ByteArray.data_extract]
 ·congr 2;simp only[ByteArray.data_extract,Array.toList_extract,List.extract_eq_take_drop];rw[List.take_of_length_le];rw[List.length_drop];have:s.data.toList.length=s.size:=by simp
  omega
theorem Ce(s sep:ByteArray)(b:UInt8)(hb:sep=⟨#[b]⟩)(hs:s.size<=4294967296)(w:World) :
  Calls Tryz.prog 120 #[.string s,.string sep] w λe w'=>∃ A c,e=.returned (.slice A (Wz b s).length c)/\w'.ownsRow w.heap.size 9 1 (.slice A (Wz b s).length c) (Wz b s).length ((Wz b s).map Value.string)/\Zf w w':=by
 obtain⟨is,his,zs,hs0,hs1,hs2,hs3⟩:=Zne;have h1:sep.size=1:=by rw[hb];rfl
 have HB:=Hd hb;clear hb;have CI:Hid (∀ (t:ByteArray) W,t.size<=4294967296->Calls Tryz.prog 150 #[.string t,.string sep] W λe w'=>e=.returned (.int .i64 (Sp b t.data.toList))/\Zf W w'):=λt W ht=>Cg t sep b HB.out Om W
 obtain⟨R,hR⟩:∃ R,R=Wz b s:=⟨_,rfl⟩;rw[<- hR];have HR:=Hd hR;clear hR;go_enter Tryz.func120,Tryz.ntmps120
 go_wp2_with fail
 go_loopg [0,5] (s.size+1) (λg1 v0 v5 wr=>∃ (t:ByteArray) (out:List ByteArray) (A:Option Addr) (c:Nat),v0=.string t/\v5=.slice A out.length c/\t.size+1<=g1/\t.size+out.length<=s.size/\Hid (R=out++Wz b t)/\Hid (wr.ownsRow w.heap.size 9 1 (.slice A out.length c) out.length (out.map Value.string))/\Hid (Zf w wr))
 case atStart=>exact⟨s,[],none,0,rfl,rfl,Nl _,by simp,HR.out,World.ownsRow_nil _ _ _ _,Fl _⟩
 case round =>
  obtain⟨t,out,A,c,rfl,rfl,hg,hl,HC,HO,HX⟩:=hrel;have C:=Hd (CI.out t wr Om);by_cases hm:b∈t.data.toList
  ·have hf:Sp b t.data.toList=((t.data.toList.idxOf b:Nat):Int):=if_pos hm;have hk:=(Dg hm).1;have hk:t.data.toList.idxOf b<t.size:=(by simpa using hk);have HK:=Hd (Zls hm);rw[hf]at C;clear hf hm;generalize t.data.toList.idxOf b=k at *;have y1:¬ (k:Int)<0:=Om;have y2:(0:Int)<=(k:Int):=Om;have y3:(k:Int)<=(t.size:Int):=Om;have y4:IntKind.i64.wrap ((k:Int)+1)=(k:Int)+1:=by rw[IntKind.wrap_i64];omega
   have y5:(k:Int)+1<=(t.size:Int):=Om;have y6:((k:Int)+1).toNat=k+1:=Om;have y7:(0:Int)<=(k:Int)+1:=Om
   go_wp2_with (first
    | (go_at_call 150;refine C.out.mono ?_;rintro e w2 ⟨rfl,hx⟩;have HX2:=Hd hx;clear hx)
    | (at_builtin;refine wpList_append_own_at _ rfl _ _ 34 rfl w.heap.size 9 is zs 1 16 Tryz.underlying34 his hs0 hs1 hs2 hs3 (by decide) _ out.length (out.map Value.string) rfl ((Zs HO.out HX2.out (λ_ _ e=>e)).alloc _) ⟨w2.heap.size,0,none⟩ 1 1 [.string (t.extract 0 k)] rfl rfl (Z0 _ _) (by intro x hx;rw[List.mem_singleton.1 hx];rfl) (by unfold maxLen;omega) Om (by have:=HX.out.size;have:=HX2.out.size;simp only[Za];omega) ?_;intro v' w3 hown hgrow hnil' hat)
    | fail)
   rw[<- List.map_singleton (f:=Value.string),<- List.map_append]at hown;obtain⟨A',c',rfl⟩:=Zl hown;have hsz:(t.extract (k+1) t.size).size=t.size-(k+1):=by rw[ByteArray.size_extract];omega
   have hln:(out++[t.extract 0 k]).length=out.length+1:=(by simp);go_roundg (t.size-k)
   case measure=>omega
   case rel=>exact⟨_,out++[t.extract 0 k],A',c',rfl,by rw[hln],Om,Om,by show _=_;rw[HC.out,HK.out,List.append_assoc];rfl,by rw[hln];exact hown,((HX.out.then HX2.out).alloc _).grown hgrow (λj hj hlt=>absurd hlt (by have:=(HO.out.lt j hj).1;omega))⟩
  ·have hf:Sp b t.data.toList = -1:=if_neg hm;have HK:=Hd (Zgc hm);rw[hf]at C;clear hf hm;have y1:(-1:Int)<0:=Om
   go_wp2_with (first
    | (go_at_call 150;refine C.out.mono ?_;rintro e w2 ⟨rfl,hx⟩;have HX2:=Hd hx;clear hx)
    | (at_builtin;refine wpList_append_own_at _ rfl _ _ 34 rfl w.heap.size 9 is zs 1 16 Tryz.underlying34 his hs0 hs1 hs2 hs3 (by decide) _ out.length (out.map Value.string) rfl ((Zs HO.out HX2.out (λ_ _ e=>e)).alloc _) ⟨w2.heap.size,0,none⟩ 1 1 [.string t] rfl rfl (Z0 _ _) (by intro x hx;rw[List.mem_singleton.1 hx];rfl) (by unfold maxLen;omega) Om (by have:=HX.out.size;have:=HX2.out.size;simp only[Za];omega) ?_;intro v' w3 hown hgrow hnil' hat)
    | fail)
   rw[<- List.map_singleton (f:=Value.string),<- List.map_append]at hown;obtain⟨A',c',rfl⟩:=Zl hown;have hln:(out++[t]).length=out.length+1:=(by simp);go_ret;have e:R=out++[t]:=(by rw[HC.out,HK.out]);rw[e,hln];exact⟨A',c',rfl,hown,((HX.out.then HX2.out).alloc _).grown hgrow (λj hj hlt=>absurd hlt (by have:=(HO.out.lt j hj).1;omega))⟩
end
section
open Go.RowKit DT SP
def Oa(s:ByteArray):List (List ByteArray):=(Wz 10 s).map (Wz 7)
theorem Zmh:∃ i,Tryz.prog.info? 34=some i/\i.zero=some (.slice none 0 0)/\i.size=1/\i.bytes=24:=by
 have h:(Tryz.prog.info? 34).map (λi=>(i.zero,i.size,i.bytes))=some (some (.slice none 0 0),1,24):=Kr
 cases hi:Tryz.prog.info? 34 with
 | none=>rw[hi]at h;cases h
 | some i =>
  rw[hi]at h;simp only[Option.map_some,Option.some.injEq,Prod.mk.injEq]at h;exact⟨i,rfl,h.1,h.2.1,h.2.2⟩
theorem Zib(n:Nat):madeCells #[.slice none 0 0] n=Array.replicate n (.slice none 0 0):=by
 apply Array.ext
 ·simp[madeCells]
 ·intro i h1 h2;simp[madeCells,Nat.mod_one]
theorem Zk6(n:Nat)(hn:n<=8589934592)(W:World):(Instr.makeSlice 38 (.int .i64 (n:Int)) (.int .i64 (n:Int))).run Tryz.prog W=.ok (.slice (some ⟨W.heap.size,0,none⟩) n n) (W.alloc (.cells (Array.replicate n (.slice none 0 0)) 34)):=by
 obtain⟨i,hi,hz,h1,h2⟩:=Zmh;have:=run_make (P:=Tryz.prog) W 38 34 i _ Tryz.underlying38 hi hz .i64 .i64 n n Om Om (by rw[h2];omega) Om;rw[h1]at this;simpa [Value.cells,Zib] using this
theorem Ik{b:UInt8}:∀ {l x:List UInt8},x∈Rl b l->x.length<=l.length
 | [],x,h=>by simp[Rl]at h;simp[h]
 | c::l,x,h=>by
  rw[R2]at h
  split at h
  ·rcases List.mem_cons.1 h with rfl|h
   ·simp
   ·have:=Ik h;simp;omega
  ·have ih:=λy (hy:y∈Rl b l)=>Ik hy
   split at h
   ·rw[List.mem_singleton.1 h];simp
   ·next y r e =>
    rcases List.mem_cons.1 h with rfl|h
    ·have:=ih y (by rw[e];simp);simp;omega
    ·have:=ih x (by rw[e];simp[h]);simp;omega
theorem Za7{b:UInt8}:∀ l:List UInt8,(Rl b l).length<=l.length+1
 | []=>by simp[Rl]
 | c::l=>by
  have ih:=Za7 (b:=b) l;rw[R2]
  split
  ·simp;omega
  ·split
   ·simp
   ·next y r e=>rw[e]at ih;simp at ih⊢;omega
theorem G8{b:UInt8}{s x:ByteArray}(h:x∈Wz b s):x.size<=s.size:=by
 unfold Wz at h;obtain⟨l,hl,rfl⟩:=List.mem_map.1 h;have:=Ik hl;show l.toArray.size<=s.data.size;simpa using this
theorem Zkp{n i:Nat}{z v:Value}{vs:List Value}(h:vs.length=i)(hi:i<n):(vs++List.replicate (n-i) z).toArray.setIfInBounds i v=(vs++[v]++List.replicate (n-(i+1)) z).toArray:=by
 rw[List.setIfInBounds_toArray,List.set_append_right _ _ Om,h,Nat.sub_self,(Om:n-i=(n-(i+1))+1),List.replicate_succ,List.set_cons_zero];simp
theorem Kj(l:List UInt8)(ad:Addr)(cap:Nat)(w:World)(hc:∀ j (hj:j<l.length),w.cell? (ad.add j)=some (.int .u8 (l[j].toNat:Int)))(hl:l.length<=2147483647) :
  Calls Tryz.prog 66 #[.slice (some ad) l.length cap] w λe w'=>∃ A,e=.returned (.slice A (Oa ⟨l.toArray⟩).length (Oa ⟨l.toArray⟩).length)/\strs.At w' (λj=>w.heap.size<=j) A (Oa ⟨l.toArray⟩)/\Zf w w':=by
 have hcv:(convert 55 9 (.slice (some ad) l.length cap)).run Tryz.prog w=.ok (.string ⟨l.toArray⟩) w:=run_convert_bytes_back w _ _ _ ad cap l Tryz.underlying55 Tryz.underlying5 Tryz.underlying9 hc;obtain⟨s,hs⟩:∃ s:ByteArray,s=⟨l.toArray⟩:=⟨_,rfl⟩;rw[<- hs]at hcv⊢;have hsz:s.size<=2147483647:=by rw[hs];show l.toArray.size<=_;simpa using hl
 clear hs hc;have CS:Hid (∀ (t sep:ByteArray) (b:UInt8),sep=⟨#[b]⟩->t.size<=4294967296->∀ W,Calls Tryz.prog 120 #[.string t,.string sep] W λe w'=>∃ A c,e=.returned (.slice A (Wz b t).length c)/\w'.ownsRow W.heap.size 9 1 (.slice A (Wz b t).length c) (Wz b t).length ((Wz b t).map Value.string)/\Zf W w'):=λt sep b h1 h2 W=>Ce t sep b h1 h2 W
 obtain⟨ts,hts⟩:∃ ts,ts=Wz 10 s:=⟨_,rfl⟩;have hrw:Oa s=ts.map (Wz 7):=by rw[hts];rfl
 have C0:=Hd (CS.out s ⟨#[10]⟩ 10 rfl Om w);have HS7:Hid (∀ t∈ts,t.size<=2147483647):=λt ht=>Nt (G8 (by rw[<- hts];exact ht)) hsz
 have hn:ts.length<=4294967296:=by
  rw[hts];unfold Wz;rw[List.length_map];have:=Za7 (b:=10) s.data.toList;have h2:s.data.toList.length=s.size:=by simp
  omega
 rw[hrw,List.length_map];rw[<- hts]at C0;clear hts hrw;go_enter Tryz.func66,Tryz.ntmps66
 go_upto_region 3 with (first
  | (go_at_call 120;refine C0.out.mono ?_;rintro e w1 ⟨A,c,rfl,ho,hx⟩;have HO:=Hd ho;have HX:=Hd hx;clear ho hx)
  | fail)
 obtain⟨n,hne⟩:∃ n,n=ts.length:=⟨_,rfl⟩;rw[<- hne]at hn HO⊢;have HN:=Hd hne;clear hne hcv;have hmk:=Zk6 n Om w1;go_wp2_with fail
 obtain⟨g,hg⟩:∃ g,g=w1.heap.size:=⟨_,rfl⟩;rw[<- hg];have K2:=alloc_at' w1 (.cells (Array.replicate n (.slice none 0 0)) 34) hg;have X2:Zf w1 (w1.alloc (.cells (Array.replicate n (.slice none 0 0)) 34)):=(Fl w1).alloc _;have HK:=Hd (Ai1 K2 (Ai1 X2 hg));clear K2 X2 hmk hg;generalize w1.alloc _=w2 at *
 go_loopg [17] n (λg1 v17 wr=>∃ (i:Nat),v17=.int .i64 (i:Int)/\i<=n/\n<=i+g1/\Hid (∃ vs:List Value,vs.length=i/\wr.heap[g]?=some (.cells (vs++List.replicate (n-i) (Value.slice none 0 0)).toArray 34 (0,0))/\(∀ j (hj:j<vs.length) (hk:j<ts.length),strs.R wr (λk=>g<k) (Wz 7 ts[j]) [vs[j]])/\Fr (λj=>j=g) w2 wr))
 case atStart=>exact⟨0,rfl,Om,Om,[],rfl,by rw[HK.out.1];simp,λj hj=>absurd hj (by simp),Fl _⟩
 case round =>
  obtain⟨i,rfl,hi,hg1,HR⟩:=hrel;by_cases hlt:i<n
  ·have hlz:(i:Int)<(n:Int):=Om;have hz0:(0:Int)<=(i:Int):=Om;have hit:i<ts.length:=by rw[<- HN.out];exact hlt
   obtain⟨vs,hv1,hv2,hv3,hv4⟩:=HR.out;obtain⟨g1',c1,e1,q1,ho1⟩:=Vb HO.out i Om;simp only[Value.slice.injEq,true_and]at e1;obtain⟨rfl,rfl⟩:=e1;have hlg:=(HO.out.lt g1' ho1).2;rw[List.getElem?_map,Ge hit,Option.map_some]at q1;have q1:=hv4.cell (HK.out.2.1.cell q1 id) (by show ¬ g1'=g;have:=HK.out.2.2;omega);have lq:=lt_of_cell q1;have C:=Hd (CS.out ts[i] ⟨#[7]⟩ 7 rfl (by have:=HS7.out _ (List.getElem_mem hit);omega) wr);have HV:=Hd (Ai1 hv1 (Ai1 hv2 (Ai1 hv3 hv4)));have HT:Hid (∀ x∈Wz 7 ts[i],x.size<=9223372036854775807):=λx hx=>by have:=G8 hx;have:=HS7.out _ (List.getElem_mem hit);omega
   have HE:Hid (∀ (vs':List Value) v,vs'.length=i->∀ (W:World),strs.R W (λk=>g<k) (Wz 7 ts[i]) [v]->(∀ j (hj:j<vs'.length) (hk:j<ts.length),strs.R W (λk=>g<k) (Wz 7 ts[j]) [vs'[j]])->∀ j (hj:j<(vs'++[v]).length) (hk:j<ts.length),strs.R W (λk=>g<k) (Wz 7 ts[j]) [(vs'++[v])[j]]):=λvs' v hl W h1 h2 j hj hk=>by
    rcases Nat.lt_or_ge j i with q|q
    ·rw[List.getElem_append_left Om];exact h2 j Om hk
    ·have:j=i:=by simp at hj;omega
     subst this;rw[List.getElem_append_right Om];simpa using h1
   have lg:g<wr.heap.size:=(Gs1.1 hv2).1;clear hv1 hv2 hv3 hv4 HR;generalize ts[i]=ti at *;clear hit
   go_wp2_with (first
    | (go_at_call 120;refine C.out.mono ?_;rintro e w4 ⟨A4,c4,rfl,ho4,hx4⟩;have HO4:=Hd ho4;have HX4:=Hd hx4;clear ho4 hx4;have K4:=HX4.out.heap HV.out.2.1 id;have l4:=(Gs1.1 K4).1;have z4:∃ u,w4.cell? ⟨g,i,none⟩=some u:=⟨Value.slice none 0 0,cell_of K4 i _ (by rw[List.getElem?_toArray];rw[List.getElem?_append_right (by have:=HV.out.1;omega),HV.out.1,Nat.sub_self,List.getElem?_replicate,if_pos Om])⟩;obtain⟨u4,z4⟩:=z4;have p4:w4.frozen? ⟨g,i,none⟩=false:=Zi K4 i)
    | fail)
   have K5:=Yk K4 i (.slice A4 (Wz 7 ti).length c4);rw[Zkp HV.out.1 hlt]at K5;have F5:Fr (λj=>j=g) w4 (w4.setCell ⟨g,i,none⟩ (.slice A4 (Wz 7 ti).length c4)):=(Fr.refl (λj=>j=g) w4).setCell _ _ (λ_=>rfl);have HKF:=Hd (Ai1 K5 F5);clear K5 F5 K4 l4 z4 p4;generalize World.setCell w4 _ _=w5 at *;have h1:strs.R w5 (λk=>g<k) (Wz 7 ti) [.slice A4 (Wz 7 ti).length c4]:=strs.keep (strs.mono (λk _ h=>Nat.lt_of_lt_of_le lg h) (Wq HO4.out HT.out)) HKF.out.2 (λk _ h e=>Om);go_roundg (n-(i+1))
   case measure=>omega
   case rel=>exact⟨i+1,by go_num,Om,Om,vs++[.slice A4 (Wz 7 ti).length c4],by simp[HV.out.1],HKF.out.1,HE.out vs _ HV.out.1 w5 h1 (λj hj hk=>strs.keep (strs.ext (HV.out.2.2.1 j hj hk) HX4.out) HKF.out.2 (λk _ h e=>Om)),(HV.out.2.2.2.trans HX4.out (λ_ _ h=>h.elim)).trans HKF.out.2 (λk _ e=>e)⟩
  ·obtain rfl:i=n:=Om
   go_wp2_with fail
   go_ret;obtain⟨vs,hv1,hv2,hv3,hv4⟩:=HR.out;have hwg:w.heap.size<=g:=by have:=HX.out.size;have:=HK.out.2.2;omega
   rw[<- HN.out];refine⟨some ⟨g,0,none⟩,rfl,⟨by rw[List.length_map,<- HN.out];omega,.inr ⟨g,0,rfl,hwg,(Gs1.1 hv2).1,λj hj=>?_⟩⟩,(HX.out.then HK.out.2.1).trans hv4 (λk hk e=>Om)⟩;have hj2:j<ts.length:=(by simpa using hj);have hj3:j<vs.length:=by rw[hv1,HN.out];exact hj2
   refine⟨[vs[j]],by rw[List.getElem_map];exact strs.mono (λk _ h=>Om) (hv3 j hj3 hj2),λq hq=>?_⟩;have:q=0:=(by simpa using hq);subst this;refine cell_of hv2 _ _ ?_;rw[show 0+j*strs.sz+0=j by show 0+j*1+0=j;omega,List.getElem?_toArray,List.getElem?_append_left hj3,Ge hj3];rfl
end
section
open Go.RowKit DT SP
theorem Ll:∃ i,Tryz.prog.info? 5=some i/\∃ z:Value,i.zero=some z/\i.size=1/\i.bytes=1/\z.cells.size=1:=by
 have h:(Tryz.prog.info? 5).map (λi=>(i.zero.map (λz=>z.cells.size),i.size,i.bytes))=some (some 1,1,1):=Kr
 cases hi:Tryz.prog.info? 5 with
 | none=>rw[hi]at h;cases h
 | some i =>
  rw[hi]at h;simp only[Option.map_some,Option.some.injEq,Prod.mk.injEq]at h;obtain⟨h1,h2,h3⟩:=h
  cases hz:i.zero with
  | none=>rw[hz]at h1;cases h1
  | some z =>
   rw[hz]at h1;exact⟨i,rfl,z,hz,h2,h3,by simpa using h1⟩
theorem Zbe(A:Option Addr)(n c:Nat)(news:List Value)(w:World)(hl:news.length=n*1)(hA:A=none->n=0/\c=0)(hc:∀ a,A=some a->∀ j u,news[j]?=some u->w.cell? (a.add j)=some u)(h1:∀ u∈news,u.oneCell'=true)(hn:n<=2147483647) :
  Calls Tryz.prog 67 #[.slice A n c] w λe w'=>∃ v,e=.returned v/\w'.ownsRow w.heap.size 5 1 v n news/\Zf w w'/\(v=.slice none 0 0↔A=none):=by
 obtain⟨ie,hie,z,hz,hs,hb,hzs⟩:=Ll;have heq:∀ (W:World) (B:Option Addr) (l k:Nat),(binOp .eql 55 (.slice B l k) (.slice none 0 0)).run Tryz.prog W=.ok (.bool B.isNone) W:=λW B l k=>Go.run_eql_slice_nil W _ _ B l k Tryz.underlying55
 cases A with
 | none =>
  obtain⟨rfl,rfl⟩:=hA rfl;have hnil:news=[]:=List.eq_nil_of_length_eq_zero (by simpa using hl);subst hnil;clear hl hA hc h1;go_enter Tryz.func67,Tryz.ntmps67
  go_wp2_with fail
  first|go_ret|go_ret2
  exact⟨_,rfl,World.ownsRow_nil _ _ _ _,Fl _,by simp⟩
 | some a =>
  have hc2:=hc a rfl;have HC:=Hd (Ai1 hc2 h1);clear hA hc hc2 h1;go_enter Tryz.func67,Tryz.ntmps67
  go_wp2_with (first
   | (at_builtin;refine wpList_append_own_at _ rfl _ _ 55 rfl w.heap.size 5 ie z 1 1 Tryz.underlying55 hie hz hs hb hzs (by decide) _ 0 [] rfl (World.ownsRow_made w #[] 0 (Nl _) (by unfold maxLen;omega) (by simp)) a n c news rfl hl (λj u hu=>((Fe w).alloc _).cell (HC.out.1 j u hu) id) HC.out.2 (by unfold maxLen;omega) Om (by simp) ?_;intro v' w1 hown' hgrow hnil' hat)
   | fail)
  first|go_ret|go_ret2
  rw[Nat.zero_add,List.nil_append]at hown';refine⟨v',rfl,hown',((Fe w).alloc _).grown hgrow (λk hk hlt=>?_),?_⟩
  ·have hk':k=w.heap.size:=by
    have:some w.heap.size=some k:=hk;injection this with this
    exact this.symm
   omega
  ·constructor
   ·intro q;have:=(hnil'.1 q).1;cases this
   ·intro q;cases q
theorem Ku{α:Type}{d:Ty α}{w:World}{O O':Nat->Prop}{A:Option Addr}{xs:List α}(hO:∀ k,k<w.heap.size->O k->O' k)(h:d.At w O A xs):d.At w O' A xs :=
 ⟨h.1,h.2.imp id (λ⟨b,o,e,ho,hl,hc⟩=>⟨b,o,e,hO b hl ho,hl,λi hi=>by obtain⟨cs,hr,hq⟩:=hc i hi;exact⟨cs,d.mono hO hr,hq⟩⟩)⟩
def Yv(l:List UInt8):List Value:=l.map λb=>Value.int .u8 (b.toNat:Int)
theorem Pm(l:List UInt8)(hne:l≠[])(ad:Addr)(cap:Nat)(w:World)(hc:∀ j u,(Yv l)[j]?=some u->w.cell? (ad.add j)=some u)(hl:l.length<=2147483647) :
  Calls Tryz.prog 23 #[.slice (some ad) l.length cap] w λe w'=>∃ A,e=.returned (.slice A (Oa ⟨l.toArray⟩).length (Oa ⟨l.toArray⟩).length)/\strs.At w' (λj=>w.heap.size<=j) A (Oa ⟨l.toArray⟩)/\Zf w w':=by
 have hlen:(Yv l).length=l.length:=List.length_map ..;have h1:∀ u∈Yv l,u.oneCell'=true:=λu hu=>by obtain⟨x,_,rfl⟩:=List.mem_map.1 hu;rfl
 have CC:=Hd (Zbe (some ad) l.length cap (Yv l) w (by rw[hlen,Nat.mul_one]) (λh=>by cases h) (λa ha j u hu=>by cases ha;exact hc j u hu) h1 hl);have HL:=Hd (Ai1 hlen hl);have HNE:Hid (0<l.length):=List.length_pos_iff.2 hne;clear hlen h1 hc hl hne;go_enter Tryz.func23,Tryz.ntmps23
 go_wp2_with (first
  | (go_at_call 67;refine CC.out.mono ?_;rintro e w1 ⟨v,rfl,ho,hx,_⟩;have HX:=Hd hx;obtain⟨g,c',ev,_,_⟩:=Vb ho 0 (by have:=HNE.out;omega);subst ev;have HO:=Hd ho;clear ho hx)
  | (go_at_call 66;refine (Kj l ⟨g,0,none⟩ c' w1 (λj hj=>?_) HL.out.2).mono ?_;rotate_left;focus (rintro e w2 ⟨A,rfl,ha,hx⟩;have HA:=Hd (Ai1 ha hx);clear ha hx))
  | fail)
 ·go_ret;exact⟨A,rfl,Ku (λk _ h=>Nt HX.out.size h) HA.out.1,HX.out.then HA.out.2⟩
 ·rw[Addr.add_lit,Nat.zero_add];have:=HO.out.cellAt j Om;rw[this];unfold Yv;rw[List.getElem?_map,Ge hj];rfl
end
section
open Go.RowKit DT SP
abbrev Zl2:TypeId:=94
abbrev Pp(B b:Nat)(l:List UInt8)(w:World):Prop:=Lib.IsBuffer Zl2 5 B b (Yv l) w
abbrev OKb(b:Nat)(w w':World):Prop:=Lib.OthersKept 5 (some b) w w'
theorem Zk4{b:Nat}{w w':World}(h:Zf w w'):OKb b w w':=λ_ _ hk _ _=>h.heap hk id
theorem Iu(l:List UInt8):∀ v∈Yv l,v.oneCell'=true:=λu hu=>by obtain⟨x,_,rfl⟩:=List.mem_map.1 hu;rfl
theorem Zdb(l m:List UInt8):Yv (l++m)=Yv l++Yv m:=List.map_append ..
theorem Ziu{B:Nat}{w w':World}(h:Below B w w'):Fr (λj=>B<=j) w w':=⟨h.os,h.tape,h.output,h.size,λj hj hn=>h.block j (Nat.lt_of_not_le hn)⟩
theorem Lf{B b:Nat}{l:List UInt8}{w w':World}(h:Pp B b l w)(f:Zf w w'):Pp B b l w':=by
 obtain⟨hB,v,lr,hb,ho,hn⟩:=h;exact⟨hB,v,lr,f.heap hb id,Zs ho f (λ_ _ e=>e),hn⟩
theorem Zbr(B b:Nat)(l:List UInt8)(s:ByteArray)(w:World)(h:Pp B b l w)(hB:B<=w.heap.size)(hlim:l.length+s.size<=4294967296) :
  Calls Tryz.prog 118 #[.iface 108 (.pointer (some ⟨b,0,none⟩)),.string s] w λe w'=>e=.returned (.tuple #[.int .i64 s.size,.nilIface])/\Pp B b (l++s.data.toList) w'/\Fr (λj=>B<=j) w w'/\OKb b w w':=by
 have hcv:=run_bytes_of_string (P:=Tryz.prog) w 9 55 5 s Tryz.underlying9 Tryz.underlying55 Tryz.underlying5;have X1:Zf w (w.drew.alloc (.cells (bytesRow s (grownCap w s.size 0 5)) 5 ((bytesRow s (grownCap w s.size 0 5)).size,(bytesRow s (grownCap w s.size 0 5)).size+1))):=((Fl w).drew).alloc _
 have hcl:∀ j v,(Yv s.data.toList)[j]?=some v->(w.drew.alloc (.cells (bytesRow s (grownCap w s.size 0 5)) 5 ((bytesRow s (grownCap w s.size 0 5)).size,(bytesRow s (grownCap w s.size 0 5)).size+1))).cell? ((⟨w.heap.size,0,none⟩:Addr).add j)=some v:=λj v hj=>by
  have hjl:j<s.data.size:=by
   have:=(Gl.1 hj).1;simpa [Yv] using this
  rw[Addr.add_lit,Nat.zero_add]
  have e1:v=.int .u8 (s.data[j].toNat:Int):=by
   unfold Yv at hj;rw[List.getElem?_map,Array.getElem?_toList,Array.getElem?_eq_getElem hjl]at hj;exact (Option.some.inj hj).symm
  rw[e1];have e2:=alloc_at w.drew (.cells (bytesRow s (grownCap w s.size 0 5)) 5 ((bytesRow s (grownCap w s.size 0 5)).size,(bytesRow s (grownCap w s.size 0 5)).size+1));have e2:(w.drew.alloc (.cells (bytesRow s (grownCap w s.size 0 5)) 5 ((bytesRow s (grownCap w s.size 0 5)).size,(bytesRow s (grownCap w s.size 0 5)).size+1))).heap[w.heap.size]?=some (.cells (bytesRow s (grownCap w s.size 0 5)) 5 ((bytesRow s (grownCap w s.size 0 5)).size,(bytesRow s (grownCap w s.size 0 5)).size+1)):=e2;simp only[World.cell?,e2];exact bytesRow_at s _ j hjl
 generalize grownCap w s.size 0 5=cap at *;have hbw:b<w.heap.size:=h.lt;have CW:=Hd (Any.Buffer_Write_any laysBWrite B b (Yv l) (Yv s.data.toList) ⟨w.heap.size,0,none⟩ s.size cap _ (Lf h X1) (by have:=X1.size;omega) (Iu _) (by show (Yv s.data.toList).length=s.data.size;simp[Yv]) (by show w.heap.size≠b;omega) hcl (Iu _) (by show (Yv l).length+s.size<=_;simp only[Yv,List.length_map];omega));have HX:=Hd X1;clear hcl X1 h;generalize hwq:w.drew.alloc _=w1 at *;have hm:∀ (n:Nat) (W:World),(method (n+1) 108 (.pointer (some ⟨b,0,none⟩)) "Write").run Tryz.prog W=.ok (313,.pointer (some ⟨b,0,none⟩)) W:=λ_ _=>by kernel_rfl
 go_enter Tryz.func118,Tryz.ntmps118
 go_wp2_with (first
  | (go_at_call 313;refine CW.out.mono ?_;rintro e w2 ⟨rfl,h2,h3,h4⟩)
  | fail)
 go_ret2
 exact⟨rfl,by show Lib.IsBuffer Zl2 5 B b (Yv (l++s.data.toList)) w2;rw[Zdb];exact h2,(HX.out.mono (λ_ _ h=>h.elim)).then (Ziu h3),(Zk4 HX.out).trans h4⟩
end
end Go.Proofs.YtlfoalomaofejaaGreatDoor
