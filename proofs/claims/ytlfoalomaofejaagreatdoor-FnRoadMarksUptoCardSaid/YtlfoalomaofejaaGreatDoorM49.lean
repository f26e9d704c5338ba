/- Numbers as bytes, the least by -/
import Derived.Test.YtlfoalomaofejaaGreatDoorM48
import Derived.Sort.OwnSorted
import Derived.Test.YtlfoalomaofejaaGreatDoorM45
import Derived.Test.YtlfoalomaofejaaGreatDoorM39
set_option linter.all false
set_option maxRecDepth 100000
set_option maxHeartbeats 2000000
namespace Go.Proofs.YtlfoalomaofejaaGreatDoor
section
open Go.RowKit DT SP
def Xb(v i:Nat):UInt8:=UInt8.ofNat (v / 2 ^ (8*i))
def leB(k v:Nat):List UInt8:=(List.range k).map (Xb v)
theorem Yc(k v:Nat):(leB k v).length=k:=by unfold leB;rw[List.length_map,List.length_range]
theorem Zji(k v:Nat):leB (k+1) v=leB k v++[Xb v k]:=by
 unfold leB;rw[List.range_succ,List.map_append,List.map_cons,List.map_nil]
def Yv(k v i:Nat):Array Value:=(Zp (leB i v)++List.replicate (k-i) (Value.int .u8 0)).toArray
theorem Mi(k v:Nat):Yv k v 0=Array.replicate k (Value.int .u8 0):=by
 unfold Yv;show (([]:List Value)++_).toArray=_;rw[List.nil_append,Nat.sub_zero,List.toArray_replicate]
theorem Mj{k v i:Nat}(h:i<=k):(Yv k v i).size=k:=by
 unfold Yv Zp;simp only[List.size_toArray,List.length_append,List.length_map,List.length_replicate,Yc];omega
theorem Kk{k v i:Nat}(h:i<k):(Yv k v i).setIfInBounds i (Value.int .u8 ((Xb v i).toNat:Int))=Yv k v (i+1):=by
 unfold Yv;have hl:(Zp (leB i v)).length=i:=by unfold Zp;rw[List.length_map,Yc]
 rw[Zji,Qs];obtain⟨m,q⟩:∃ m,k-i=m+1:=⟨k-i-1,Om⟩;rw[q,List.replicate_succ,List.setIfInBounds_toArray,List.set_append_right _ _ Om,hl,Nat.sub_self,List.set_cons_zero,(Om:k-(i+1)=m),List.append_assoc];rfl
theorem Mk(k v:Nat):Yv k v k=(Zp (leB k v)).toArray:=by
 unfold Yv;rw[Nat.sub_self,List.replicate_zero,List.append_nil]
def Sp(v i:Nat):Nat:=v % 2 ^ (8*i)
theorem Zdh(v i:Nat):Sp v i ||| ((Xb v i).toNat*2 ^ (8*i))=Sp v (i+1):=by
 unfold Sp Xb;rw[UInt8.toNat_ofNat',Nat.or_comm,show 2 ^ 8=256 from rfl];have h1:v % 2 ^ (8*i)<2 ^ (8*i):=Nat.mod_lt _ (Nat.two_pow_pos _);rw[<- Nat.shiftLeft_eq,<- Nat.shiftLeft_add_eq_or_of_lt h1,Nat.shiftLeft_eq,(Om:8*(i+1)=8*i+8),Nat.pow_add,Nat.mod_mul];rw[Nat.mul_comm,Nat.add_comm]
theorem Zg6:∃ i,Tryz.prog.info? 5=some i/\i.zero=some (.int .u8 0)/\i.size=1/\i.bytes=1:=by
 have h:(Tryz.prog.info? 5).map (λi=>(i.zero,i.size,i.bytes))=some (some (.int .u8 0),1,1):=Kr
 cases hi:Tryz.prog.info? 5 with
 | none=>rw[hi]at h;cases h
 | some i =>
  rw[hi]at h;simp only[Option.map_some,Option.some.injEq,Prod.mk.injEq]at h;exact⟨i,rfl,h.1,h.2.1,h.2.2⟩
theorem Md(n:Nat)(q:n<=8589934592)(W:World):(Instr.makeSlice 55 (.int .i64 (n:Int)) (.int .i64 (n:Int))).run Tryz.prog W=.ok (.slice (some ⟨W.heap.size,0,none⟩) n n) (W.alloc (.cells (Array.replicate n (.int .u8 0)) 5)):=by
 obtain⟨i,hi,h,h1,h2⟩:=Zg6;have:=run_make (P:=Tryz.prog) W 55 5 i _ Tryz.underlying55 hi h .i64 .i64 n n Om Om (by rw[h2];omega) Om;rw[h1]at this
 have e:madeCells #[.int .u8 0] n=Array.replicate n (.int .u8 0):=by
  apply Array.ext
  ·simp[madeCells]
  ·intro i h1 h2;simp[madeCells,Nat.mod_one]
 simpa [Value.cells,e] using this
theorem Zmw{x y:Nat}(q:x<2 ^ 64)(h:y<2 ^ 64):Go.bits .or .u64 (x:Int) (y:Int)=((x ||| y:Nat):Int):=by
 show IntKind.u64.wrap (((BitVec.ofInt 64 (x:Int) ||| BitVec.ofInt 64 (y:Int)).toNat:Nat):Int)=_;rw[BitVec.ofInt_natCast,BitVec.ofInt_natCast,BitVec.toNat_or,BitVec.toNat_ofNat,BitVec.toNat_ofNat,Nat.mod_eq_of_lt q,Nat.mod_eq_of_lt h,IntKind.wrap_u64];have:=Nat.or_lt_two_pow q h;omega
theorem Za9(v i:Nat):Sp v i<=v:=Nat.mod_le _ _
theorem Za8{v j:Nat}(h:v<=4611686018427387904):IntKind.u64.wrap ((Xb v j).toNat:Int)=((Xb v j).toNat:Int)/\IntKind.u64.wrap (((Xb v j).toNat:Int)*2 ^ (8*j))=((Xb v j).toNat:Int)*2 ^ (8*j)/\Go.bits .or .u64 (Sp v j:Int) (((Xb v j).toNat:Int)*2 ^ (8*j))=(Sp v (j+1):Int):=by
 have h1:=Zdh v j;have h2:(Xb v j).toNat*2 ^ (8*j)<=Sp v (j+1):=by rw[<- h1];exact Nat.right_le_or
 have h3:=Za9 v (j+1);have h4:=Za9 v j;have q:(Xb v j).toNat<256:=(Xb v j).toNat_lt;have e:((Xb v j).toNat:Int)*2 ^ (8*j)=(((Xb v j).toNat*2 ^ (8*j):Nat):Int):=by push_cast;rfl
 rw[e];refine⟨by rw[IntKind.wrap_u64];omega,?_,?_⟩
 ·generalize (Xb v j).toNat*2 ^ (8*j)=z at *;rw[IntKind.wrap_u64];omega
 ·rw[Zmw Om (by generalize (Xb v j).toNat*2 ^ (8*j)=z at *;omega),h1]
end
section
open Go.RowKit DT SP
def Xv(m:ByteArray×Nat):List UInt8:=leB 8 m.1.size++(m.1.data.toList++leB 1 m.2)
def Xg(ms:List (ByteArray×Nat)):List UInt8:=leB 8 ms.length++ms.flatMap Xv
def Wr(ms:List (ByteArray×Nat)):List (ByteArray×Nat):=ms.mergeSort λx y=>decide (x.1.data.toList<=y.1.data.toList)
def Y5(ms:List (ByteArray×Nat)):List (ByteArray×Value):=ms.map λm=>(m.1,.int .i8 (m.2:Int))
theorem Tg(ms:List (ByteArray×Nat)):(Wr ms).Perm ms:=List.mergeSort_perm ms _
theorem Zjh(a b c:List UInt8)(h:decide (a<=b)=true)(k:decide (b<=c)=true):decide (a<=c)=true:=by
 simp only[decide_eq_true_eq] at *;exact List.le_trans h k
theorem Zdg(a b:List UInt8):(decide (a<=b)||decide (b<=a))=true:=by
 simp only[Bool.or_eq_true,decide_eq_true_eq];exact List.le_total a b
theorem Iq{l q:List (List UInt8)}(h:l.Perm q):l.mergeSort (λx y=>decide (x<=y))=q.mergeSort (λx y=>decide (x<=y)) :=
 List.Perm.eq_of_pairwise (le:=λa b=>decide (a<=b)=true) (λa b _ _ h1 h2=>List.le_antisymm (of_decide_eq_true h1) (of_decide_eq_true h2)) (List.pairwise_mergeSort Zjh Zdg _) (List.pairwise_mergeSort Zjh Zdg _) ((List.mergeSort_perm _ _).trans (h.trans (List.mergeSort_perm _ _).symm))
theorem Kn{ks:List ByteArray}{ms:List (ByteArray×Nat)}(h:ks.Perm (ms.map (·.1))):(ks.map (·.data.toList)).mergeSort (λx y=>decide (x<=y))=(Wr ms).map (·.1.data.toList):=by
 rw[Iq (h.map (·.data.toList))];unfold Wr;rw[List.map_mergeSort (s:=λx y=>decide (x<=y)) (f:=λm:ByteArray×Nat=>m.1.data.toList) (λ_ _ _ _=>rfl),List.map_map];rfl
theorem Zfc(s:ByteArray):encStr s.data.toList=.string s:=by
 show Value.string ⟨s.data.toList.toArray⟩=_;rw[Array.toArray_toList]
theorem Zkc(ks:List ByteArray):ks.map Value.string=(ks.map (·.data.toList)).map encStr:=by
 rw[List.map_map];exact List.map_congr_left λs _=>(Zfc s).symm
theorem Fy(h:List (ByteArray×Nat)):(h.map (·.1.data.toList)).map encStr=h.map (λm=>Value.string m.1):=by
 rw[List.map_map];exact List.map_congr_left λm _=>Zfc m.1
theorem Nf:∀ {ms:List (ByteArray×Nat)},(ms.map (·.1)).Nodup->∀ {m:ByteArray×Nat},m∈ms->look (Y5 ms) m.1=some (.int .i8 (m.2:Int))
 | a::ms,h,m,q=>by
  rw[List.map_cons,List.nodup_cons]at h;show (if a.1=m.1 then _ else _)=_;rcases List.mem_cons.1 q with rfl|q
  ·rw[if_pos rfl]
  ·rw[if_neg (λe=>h.1 (by rw[e];exact List.mem_map.2 ⟨m,q,rfl⟩))];exact Nf h.2 q
theorem Fw{α:Type}(f:α->List UInt8){l:List α}{i:Nat}(h:i<l.length):(l.take (i+1)).flatMap f=(l.take i).flatMap f++f l[i]:=by
 rw[List.take_succ_eq_append_getElem h,List.flatMap_append,List.flatMap_cons,List.flatMap_nil,List.append_nil]
theorem Co{α:Type}(f:α->List UInt8)(l:List α)(i:Nat):((l.take i).flatMap f).length<=(l.flatMap f).length:=by
 conv=>rhs;rw[<- List.take_append_drop i l,List.flatMap_append,List.length_append]
 omega
end
section
open Go.RowKit DT SP
theorem Jh(v:Int)(w:World):Calls Tryz.prog 134 #[.int .i64 v] w λe w'=>e=.returned (.int .i64 8)/\w=w':=by
 have z:∀ w,(Instr.typeAssert (.iface 2 (.int .i64 v)) 20 91 true).run Tryz.prog w=.ok (.tuple #[.int .i8 0,.bool false]) w:=λw=>by kernel_rfl
 have q:∀ w,(Instr.typeAssert (.iface 2 (.int .i64 v)) 20 176 true).run Tryz.prog w=.ok (.tuple #[.int .i16 0,.bool false]) w:=λw=>by kernel_rfl
 have h:∀ w,(Instr.typeAssert (.iface 2 (.int .i64 v)) 20 21 true).run Tryz.prog w=.ok (.tuple #[.int .i32 0,.bool false]) w:=λw=>by kernel_rfl
 go_enter Tryz.func134,Tryz.ntmps134
 go_wp2_with fail
 first|go_ret|go_ret2
 exact⟨rfl,rfl⟩
theorem Bg(B b:Nat)(l:List UInt8)(v:Nat)(hv:v<=4611686018427387904)(w:World)(h:V9 B b l w)(hB:B<=w.heap.size)(A:l.length<=4294967296) :
  Calls Tryz.prog 133 #[.iface 108 (.pointer (some ⟨b,0,none⟩)),.int .i64 (v:Int)] w λe w'=>e=.returned .nilIface/\V9 B b (l++leB 8 v) w'/\Fr (λj=>B<=j) w w'/\OKb b w w':=by
 obtain⟨g,G⟩:∃ g,g=w.heap.size:=⟨_,rfl⟩;have ae:b<g:=by rw[G];exact h.lt
 have H:=Hd (Ai1 h (Ai1 hB A));have ab:IntKind.u64.wrap (v:Int)=(v:Int):=by rw[IntKind.wrap_u64];omega
 have hm:∀ (n:Nat) (W:World),(method (n+1) 108 (.pointer (some ⟨b,0,none⟩)) "Write").run Tryz.prog W=.ok (313,.pointer (some ⟨b,0,none⟩)) W:=λ_ _=>by kernel_rfl
 have Z:Zf w (w.alloc (.cells (Yv 8 v 0) 5)):=(Fl w).alloc _;have K1:=alloc_at' w (.cells (Yv 8 v 0) 5) G
 have M:(Instr.makeSlice 55 (.int .i64 8) (.int .i64 8)).run Tryz.prog w=.ok (.slice (some ⟨g,0,none⟩) 8 8) (w.alloc (.cells (Yv 8 v 0) 5)):=by
  rw[Mi,G];exact Md 8 (by decide) w
 have J:=Hd (Ai1 Z K1);have V:g<(w.alloc (.cells (Yv 8 v 0) 5)).heap.size:=by rw[Za,G];omega
 clear h hB A Z K1;go_enter Tryz.func133,Tryz.ntmps133
 go_wp2_with (first
  | (go_at_call 134;refine (Jh _ _).mono ?_;rintro e w' ⟨rfl,rfl⟩)
  | fail)
 rw[<- G];have U:=Hd G;clear G M;generalize w.alloc _=w1 at *
 go_loopg [17] 8 (λg1 L wr=>∃ i:Nat,L=.int .i64 (i:Int)/\i<=8/\8<=i+g1/\Hid (wr.heap[g]?=some (.cells (Yv 8 v i) 5 (0,0))/\Fr (λj=>j=g) w1 wr))
 case atStart=>exact⟨0,rfl,Om,Om,J.out.2,Fl _⟩
 case round =>
  obtain⟨i,rfl,hi,ad,z⟩:=hrel;by_cases I:i<8
  ·have ac:(i:Int)<8:=Om;have aa:(0:Int)<=(i:Int):=Om;have K:(Yv 8 v i)[i]?=some (Yv 8 v i)[i]!:=(by rw[getElem!_pos _ _ (by rw[Mj Om];exact I),Array.getElem?_eq_getElem]);have q:=cell_of z.out.1 i _ K;have qf:=Zi z.out.1 i;have ql:=lt_of_cell q;go_upto_region 6 with fail
   go_wp2_with fail
   go_roundg (8-(i+1))
   case measure=>omega
   case rel =>
    have e:(v:Int) / 2 ^ (8*i) % 256=((Xb v i).toNat:Int):=by
     unfold Xb;rw[UInt8.toNat_ofNat']
     push_cast
     rfl
    have Y:=Yx z.out.1 i (.int .u8 ((Xb v i).toNat:Int));rw[Kk I,<- e]at Y;exact⟨i+1,by go_num,Om,Om,Y,z.out.2.setCell ⟨g,i,none⟩ _ (λ_=>rfl)⟩
  ·obtain rfl:i=8:=Om
   have HB:Hid (V9 B b l wr):=Oc H.out.1 (J.out.1.trans z.out.2 (λk hk e=>by have:=U.out;omega))
   have K:∀ j u,(Zp (leB 8 v))[j]?=some u->wr.cell? ((⟨g,0,none⟩:Addr).add j)=some u:=λj u X=>by
    have:=z.out.1;rw[Mk]at this;rw[Addr.add_lit,Nat.zero_add];exact cell_of this j u (by simpa using X)
   have CW:=Hd (Any.Buffer_Write_any laysBWrite B b (Zp l) (Zp (leB 8 v)) ⟨g,0,none⟩ 8 8 _ HB.out (by have:=J.out.1.size;have:=z.out.2.size;have:=H.out.2.1;omega) (Vw _) (by rw[Zp,List.length_map,Yc]) (by show g≠b;omega) K (Vw _) (by rw[Zp,List.length_map];have:=H.out.2.2;omega));clear K
   go_wp2_with (first
    | (go_at_call 313;refine CW.out.mono ?_;rintro e w2 ⟨rfl,h2,h3,h4⟩)
    | fail)
   first|go_ret|go_ret2
   exact⟨rfl,by show Lib.IsBuffer Zcd 5 B b (Zp (l++leB 8 v)) w2;rw[Qs];exact h2,(((J.out.1.mono (λ_ _ h=>h.elim)).then (z.out.2.mono (λj X e=>by have:=U.out;have:=H.out.2.1;show B<=j;omega)))).then (I4 h3),(D7 (J.out.1.trans z.out.2 (λk hk e=>by have:=U.out;omega))).trans h4⟩
end
section
open Go.RowKit DT SP
theorem Ej(v:Int)(w:World):Calls Tryz.prog 173 #[.int .i8 v] w λe w'=>e=.returned (.int .i64 1)/\w=w':=by
 have h:∀ w,(Instr.typeAssert (.iface 91 (.int .i8 v)) 20 91 true).run Tryz.prog w=.ok (.tuple #[.int .i8 v,.bool true]) w:=λw=>by kernel_rfl
 go_enter Tryz.func173,Tryz.ntmps173
 go_wp2_with fail
 first|go_ret|go_ret2
 exact⟨rfl,rfl⟩
theorem Zhw(B b:Nat)(l:List UInt8)(v:Nat)(hv:v<=127)(w:World)(h:V9 B b l w)(hB:B<=w.heap.size)(A:l.length<=4294967296) :
  Calls Tryz.prog 172 #[.iface 108 (.pointer (some ⟨b,0,none⟩)),.int .i8 (v:Int)] w λe w'=>e=.returned .nilIface/\V9 B b (l++leB 1 v) w'/\Fr (λj=>B<=j) w w'/\OKb b w w':=by
 obtain⟨g,G⟩:∃ g,g=w.heap.size:=⟨_,rfl⟩;have ae:b<g:=by rw[G];exact h.lt
 have H:=Hd (Ai1 h (Ai1 hB A));have ab:IntKind.u64.wrap (v:Int)=(v:Int):=by rw[IntKind.wrap_u64];omega
 have hm:∀ (n:Nat) (W:World),(method (n+1) 108 (.pointer (some ⟨b,0,none⟩)) "Write").run Tryz.prog W=.ok (313,.pointer (some ⟨b,0,none⟩)) W:=λ_ _=>by kernel_rfl
 have Z:Zf w (w.alloc (.cells (Yv 1 v 0) 5)):=(Fl w).alloc _;have K1:=alloc_at' w (.cells (Yv 1 v 0) 5) G
 have M:(Instr.makeSlice 55 (.int .i64 1) (.int .i64 1)).run Tryz.prog w=.ok (.slice (some ⟨g,0,none⟩) 1 1) (w.alloc (.cells (Yv 1 v 0) 5)):=by
  rw[Mi,G];exact Md 1 (by decide) w
 have J:=Hd (Ai1 Z K1);have V:g<(w.alloc (.cells (Yv 1 v 0) 5)).heap.size:=by rw[Za,G];omega
 clear h hB A Z K1;go_enter Tryz.func172,Tryz.ntmps172
 go_wp2_with (first
  | (go_at_call 173;refine (Ej _ _).mono ?_;rintro e w' ⟨rfl,rfl⟩)
  | fail)
 rw[<- G];have U:=Hd G;clear G M;generalize w.alloc _=w1 at *
 go_loopg [17] 1 (λg1 L wr=>∃ i:Nat,L=.int .i64 (i:Int)/\i<=1/\1<=i+g1/\Hid (wr.heap[g]?=some (.cells (Yv 1 v i) 5 (0,0))/\Fr (λj=>j=g) w1 wr))
 case atStart=>exact⟨0,rfl,Om,Om,J.out.2,Fl _⟩
 case round =>
  obtain⟨i,rfl,hi,ad,z⟩:=hrel;by_cases I:i<1
  ·have ac:(i:Int)<1:=Om;have aa:(0:Int)<=(i:Int):=Om;have K:(Yv 1 v i)[i]?=some (Yv 1 v i)[i]!:=(by rw[getElem!_pos _ _ (by rw[Mj Om];exact I),Array.getElem?_eq_getElem]);have q:=cell_of z.out.1 i _ K;have qf:=Zi z.out.1 i;have ql:=lt_of_cell q;go_upto_region 6 with fail
   go_wp2_with fail
   go_roundg (1-(i+1))
   case measure=>omega
   case rel =>
    have e:(v:Int) / 2 ^ (8*i) % 256=((Xb v i).toNat:Int):=by
     unfold Xb;rw[UInt8.toNat_ofNat']
     push_cast
     rfl
    have Y:=Yx z.out.1 i (.int .u8 ((Xb v i).toNat:Int));rw[Kk I,<- e]at Y;exact⟨i+1,by go_num,Om,Om,Y,z.out.2.setCell ⟨g,i,none⟩ _ (λ_=>rfl)⟩
  ·obtain rfl:i=1:=Om
   have HB:Hid (V9 B b l wr):=Oc H.out.1 (J.out.1.trans z.out.2 (λk hk e=>by have:=U.out;omega))
   have K:∀ j u,(Zp (leB 1 v))[j]?=some u->wr.cell? ((⟨g,0,none⟩:Addr).add j)=some u:=λj u X=>by
    have:=z.out.1;rw[Mk]at this;rw[Addr.add_lit,Nat.zero_add];exact cell_of this j u (by simpa using X)
   have CW:=Hd (Any.Buffer_Write_any laysBWrite B b (Zp l) (Zp (leB 1 v)) ⟨g,0,none⟩ 1 1 _ HB.out (by have:=J.out.1.size;have:=z.out.2.size;have:=H.out.2.1;omega) (Vw _) (by rw[Zp,List.length_map,Yc]) (by show g≠b;omega) K (Vw _) (by rw[Zp,List.length_map];have:=H.out.2.2;omega));clear K
   go_wp2_with (first
    | (go_at_call 313;refine CW.out.mono ?_;rintro e w2 ⟨rfl,h2,h3,h4⟩)
    | fail)
   first|go_ret|go_ret2
   exact⟨rfl,by show Lib.IsBuffer Zcd 5 B b (Zp (l++leB 1 v)) w2;rw[Qs];exact h2,(((J.out.1.mono (λ_ _ h=>h.elim)).then (z.out.2.mono (λj X e=>by have:=U.out;have:=H.out.2.1;show B<=j;omega)))).then (I4 h3),(D7 (J.out.1.trans z.out.2 (λk hk e=>by have:=U.out;omega))).trans h4⟩
end
section
open Go.RowKit TR MapKept DT SP
open Go.ChangeMaps (setBlock)
theorem Zdl{S:Nat->Prop}{B b:Nat}{l:List UInt8}{w w':World}(h:V9 B b l w)(f:Fr S w w')(z:∀ j,j<w.heap.size->¬ S j):V9 B b l w':=by
 have hl:=h.lt;obtain⟨hB,v,A,I,q,G⟩:=h;exact⟨hB,v,A,f.heap I (z b hl),Zr q f (λj e=>z j (q.lt j e).2),G⟩
theorem Zl0{b N g T k n c:Nat}{xs:List Value}{w w':World}(h:w.ownsRow N T k (.slice (some ⟨g,0,none⟩) n c) n xs)(z:OKb b w w')(J:T≠5)(A:g≠b):w'.ownsRow N T k (.slice (some ⟨g,0,none⟩) n c) n xs:=by
 obtain⟨hl,⟨e,_⟩|⟨K,c',q,e,I,G,r⟩⟩:=h
 ·cases e
 ·cases e;exact⟨hl,.inr ⟨g,c,q,rfl,I,z g _ G (λe=>A (Option.some.inj e)) (λc' L e=>by cases e;exact J rfl),r⟩⟩
theorem Zl1{b r:Nat}{L:List (ByteArray×Value)}{w w':World}(h:Zq Yi r L w)(A:OKb b w w')(z:r≠b):Zq Yi r L w':=by
 obtain⟨J,q,I,G⟩:=h;exact⟨J,q,A r _ I (λe=>z (Option.some.inj e)) (λc' K e=>by cases e),G⟩
theorem Ep(B b r:Nat)(l:List UInt8)(ms:List (ByteArray×Nat))(w:World)(hM:Zq Yi r (Y5 ms) w)(J:(ms.map (·.1)).Nodup)(hb:V9 B b l w)(hB:B<=w.heap.size)(bq:r<w.heap.size)(cb:r≠b)(L:l.length+(Xg (Wr ms)).length<=1000000000)(hv:∀ m∈ms,m.2<=127)(bv:ms.length<=1000) :
  Calls Tryz.prog 139 #[.iface 108 (.pointer (some ⟨b,0,none⟩)),.map (some r)] w λe w'=>e=.returned (.tuple #[.int .i64 ((Xg (Wr ms)).length:Int),.nilIface])/\V9 B b (l++Xg (Wr ms)) w'/\Fr (λj=>B<=j) w w':=by
 have mixed:Tryz.prog.follows .mixedOrders=true:=Kr
 obtain⟨is,bx,bo,bn,bm⟩:=info_parts V5;obtain⟨n,hn⟩:∃ n,n=ms.length:=⟨_,rfl⟩;have hl:=run_len_map (P:=Tryz.prog) (mty:=101) Tryz.underlying101 hM;rw[show (Y5 ms).length=n by unfold Y5;rw[List.length_map,hn]]at hl;have af:(Instr.makeSlice 34 (.int .i64 0) (.int .i64 (n:Int))).run Tryz.prog w=.ok (.slice (some ⟨w.heap.size,0,none⟩) 0 n) (w.alloc (.cells (madeCells #[.string ⟨#[]⟩] n) 9)):=O9 0 n Om Om w;obtain⟨N,hN⟩:∃ N,N=w.heap.size:=⟨_,rfl⟩;obtain⟨es,z,aj,he,bl⟩:=id hM;have X0:Zf w (w.alloc (.cells (madeCells #[.string ⟨#[]⟩] n) 9)):=(Fl _).alloc _;have O0:=World.ownsRow_made (base:=N) w (madeCells #[.string ⟨#[]⟩] n) (e:=9) (size:=1) n Om (by unfold maxLen;omega) (by rw[So];omega);have S0:=Za w (.cells (madeCells #[.string ⟨#[]⟩] n) 9);have a7:=run_range_map (P:=Tryz.prog) (w.alloc (.cells (madeCells #[.string ⟨#[]⟩] n) 9)) 101 _ _ r es z Tryz.underlying101 (by rw[alloc_old _ _ bq];exact aj);rw[S0]at a7;rw[<- hN]at O0 a7 S0 af;have HE:=Hd (Ai1 he (Ai1 bl aj));have H:=Hd (Ai1 hM (Ai1 hb (Ai1 J hv)));have I:=Hd (Ai1 hB (Ai1 hN hn));have bs:n<=1000:=Om
 clear hM hb J hv he bl aj hN hn;go_enter Tryz.func139,Tryz.ntmps139
 go_upto_region 2 with fail
 generalize w.alloc _=w0 at *;have X1:Zf w (w0.alloc (.mapIter (some r) z #[] z)):=X0.alloc _;have O1:=O0.alloc (.mapIter (some r) z #[] z);have I1:=alloc_at' w0 (.mapIter (some r) z #[] z) S0.symm;have H0:Hid ((w0.alloc (.mapIter (some r) z #[] z)).ownsRow N 9 1 (.slice (some ⟨N,0,none⟩) 0 n) 0 []/\(w0.alloc (.mapIter (some r) z #[] z)).heap[N+1]?=some (.mapIter (some r) z #[] z)/\Zf w (w0.alloc (.mapIter (some r) z #[] z))):=⟨O1,I1,X1⟩;clear X1 O1 I1 X0 O0;go_wp2_with fail
 generalize w0.alloc _=w1 at *
 go_loopw [6] (λv6 wr=>∃ (u:Value) (G:List MapEntry),v6=u/\Hid (wr.ownsRow N 9 1 u G.length ((G.map kOf).map Value.string)/\(∃ g c,u=.slice (some ⟨g,0,none⟩) G.length c/\g≠N+1)/\wr.heap[N+1]?=some (.mapIter (some r) z (G.map (·.born)).toArray z)/\(∀ e∈G,e∈es.toList)/\G.Nodup/\Fr (λj=>N<=j) w wr))
  (λ_ wr=>(leftOf es (wr.iterSeen (N+1))).size)
 case atStart=>exact⟨_,[],rfl,H0.out.1,⟨N,n,rfl,Om⟩,H0.out.2.1,(λe h=>by cases h),List.nodup_nil,H0.out.2.2.mono (λ_ _ e=>e.elim)⟩
 case round =>
  clear H0;obtain⟨u,G,rfl,HI⟩:=hrel;obtain⟨hO,⟨g,c,hu,ai⟩,hI,hm,J,hF⟩:=HI.out;have a8:¬ N<=r:=by have:=I.out.2.1;omega
  have al:wr.heap[r]?=some (.map es z):=hF.heap HE.out.2.2 a8;have b8:=run_next_at (P:=Tryz.prog) wr 0 (N+1) r z z _ es z hI al HE.out.2.1.1 (Nl _);have bb:N+1<wr.heap.size:=(Gs1.1 hI).1;rcases b8 with ⟨h0,U⟩|⟨e,bh,az,ao,U⟩
  ·have hP:=Zii HE.out.2.1 hm J h0;have bc:∀ ty,(Instr.next (.pointer (some ⟨N+1,0,none⟩)) false ty).run Tryz.prog wr=_:=λ_=>U
   have hk:(G.map kOf).Perm (ms.map (·.1)):=by
    have h1:=hP.map kOf;rw[Zbc HE.out.1]at h1;unfold Y5 at h1;rwa[List.map_map]at h1
   have HZ:=Hd (Ai1 hO (Ai1 hF hk));have aj:=al;have ci:=Hd a8;obtain⟨m,aa⟩:∃ m,m=G.length:=⟨_,rfl⟩;rw[<- aa]at hu HZ;have ac:Hid (m=n):=by show m=n;rw[aa,<- List.length_map (f:=kOf),hk.length_eq,List.length_map,I.out.2.2]
   subst hu;generalize cd:G.map kOf=ks at *;clear hO hI hm J hF al bb h0 U hP hk HI aa cd a8 G;go_upto_region 6 with fail
   obtain⟨ss,ap⟩:∃ ss:List (List UInt8),ss=ks.map (·.data.toList):=⟨_,rfl⟩;have K:=HZ.out.1;rw[Zkc,<- ap]at K;have X:ss.length=m:=(by rw[ap,List.length_map,HZ.out.2.2.length_eq,List.length_map,ac.out,I.out.2.2]);rcases K.2 with ⟨e,_⟩|⟨g',c',ch,e,ak,Y,k1,k2,k3,k4⟩
   ·cases e
   cases e;have a6:=Kn HZ.out.2.2;rw[<- ap]at a6;have CS:=AnyM.slices_Sort_string YtlfoalomaofejaaGreatDoor.laysSortS g 0 c ss wr (holds_of_block Y (by rw[X];simpa using k4)) ((Gs1.1 Y).1) (by rw[X,ac.out];omega);rw[a6,X]at CS
   have b2:∀ n os,(Go.Sort.grow (Go.Sort.putRow encStr (Go.Sort.ahead wr n) g 0 ((Wr ms).map (·.1.data.toList)).toArray) os).ownsRow N 9 1 (.slice (some ⟨g,0,none⟩) m c) m ((Wr ms).map (λm=>Value.string m.1))/\Fr (λj=>N<=j) wr (Go.Sort.grow (Go.Sort.putRow encStr (Go.Sort.ahead wr n) g 0 ((Wr ms).map (·.1.data.toList)).toArray) os):=λn os=>by
    have h1:=ownsRow_sorted (n:=n) (os:=os) (ss:=ss) (ts:=(Wr ms).map (·.1.data.toList)) (by rw[List.length_map,(Tg ms).length_eq,X,ac.out,I.out.2.2]) ak Y (by rw[X];exact k1) k2 k3;rw[Fy,X]at h1;exact⟨h1,(Fl wr).grown (grownBy_sorted _) (λk e _=>by have e:=Option.some.inj e;omega)⟩
   have bk:=Hd (Ai1 CS b2);clear CS b2 a6 k1 k2 k3 k4 Y ak K ap X
   go_upto_region 8 with (first
    | (go_at_call 144;refine bk.out.1.mono ?_;rintro e w2 ⟨rfl,nn,os,a1⟩;have V:=Hd (a1▸bk.out.2 nn os);clear a1)
    | fail)
   clear bc bk;obtain⟨A,W⟩:∃ A,A=Wr ms:=⟨_,rfl⟩;rw[<- W]at V L;have c2:B<=b:=H.out.2.1.1;have b0:V9 B b l w2:=Zdl H.out.2.1 (HZ.out.2.1.then V.out.2) (λj hj e=>by have:=I.out.2.1;omega);have aa:Zq Yi r (Y5 ms) w2:=H.out.1.keep (HZ.out.2.1.then V.out.2) ci.out;have Y:g≠b:=λe=>by have h1:=H.out.2.1.lt;have h2:=Yo (g:=g) V.out.1 rfl;have:=I.out.2.1;omega
   have c4:B<=w2.heap.size:=by have h1:=(HZ.out.2.1.then V.out.2).size;omega
   have am:Hid (A.length=m/\∀ x∈A,x∈ms):=by
    have h1:=Tg ms;rw[<- W]at h1;exact⟨by rw[h1.length_eq,ac.out,I.out.2.2],λx hx=>h1.mem_iff.1 hx⟩
   have ax:=Hd (Ai1 V.out.1 (Ai1 b0 (Ai1 aa Y)));have cq:=Hd ((HZ.out.2.1.then V.out.2).mono (S':=λj=>B<=j) (λj _ e=>by have:=I.out.2.1;have:=I.out.1;show B<=j;omega));have ad:leB 8 m++A.flatMap Xv=Xg (Wr ms):=by rw[<- W];unfold Xg;rw[am.out.1]
   have cw:l.length+(8+(A.flatMap Xv).length)<=1000000000:=by rw[W]at L;rw[<- ad]at L;rw[List.length_append,Yc]at L;rw[W];rw[W]at L;omega
   have b6:=Hd ad;have cx:m<=1000:=by rw[ac.out];exact bs
   clear b0 aa W ad Y HZ V L aj ai af hl bq S0 a7 bo bn bm bx HE ac bv bs ch ss
   go_upto_region 12 with (first
    | (go_at_call 133;refine (Bg B b l m Om _ ax.out.2.1 Om Om).mono ?_;rintro e w3 ⟨rfl,h1,h2,h3⟩;have H3:=Hd (Ai1 h1 (Ai1 h2 h3));clear h1 h2 h3)
    | (go_at_call 134;refine (Jh _ _).mono ?_;rintro e w' ⟨rfl,rfl⟩)
    | fail)
   clear nn os;go_wp2_with fail
   go_loopg [4,5,48] m (λg1 v4 v5 b7 wr=>∃ (i q:Nat),b7=.int .i64 (i:Int)/\v4=.int .i64 (q:Int)/\v5=.nilIface/\i<=m/\m<=i+g1/\Hid (q=8+((A.take i).flatMap Xv).length/\V9 B b (l++(leB 8 m++(A.take i).flatMap Xv)) wr/\Fr (λj=>B<=j) w2 wr/\OKb b w2 wr))
   case atStart=>exact⟨0,8,rfl,rfl,rfl,Om,Om,by simp,by simpa using H3.out.1,H3.out.2.1,H3.out.2.2⟩
   case round =>
    obtain⟨i,q,rfl,rfl,rfl,hi,c1,HR⟩:=hrel;by_cases cc:i<m
    ·have cy:(i:Int)<(m:Int):=Om;have cr:(0:Int)<=(i:Int):=Om;have bf:i<A.length:=by rw[am.out.1];exact cc
     have K:=Zl0 ax.out.1 HR.out.2.2.2 (by decide) ax.out.2.2.2
     have qc:wr.cell? ⟨g,i,none⟩=some (.string A[i].1):=by
      have:=K.cellAt i Om;rw[this,List.getElem?_map,Ge bf];rfl
     have ql:=lt_of_cell qc;have be:=am.out.2 _ (List.getElem_mem bf);have ag:=Nf H.out.2.2.1 be;have hv:=H.out.2.2.2 _ be;have bg:=Fw Xv bf;have bw:=Co Xv A (i+1);rw[bg,List.length_append]at bw
     have af:(Xv A[i]).length=8+(A[i].1.size+1):=by
      unfold Xv;rw[List.length_append,List.length_append,Yc,Yc];show 8+(A[i].1.data.toList.length+1)=_;rw[show A[i].1.data.toList.length=A[i].1.size from Array.length_toList]
     have hq:=HR.out.1;have ca:A[i].1.size<=1000000000:=Om;have cu:q<=1000000000:=Om;have HQ:=Hd (Ai1 bg (Ai1 hq af));have co:Hid (l.length+(8+(((A.take i).flatMap Xv).length+(8+(A[i].1.size+1))))<=1000000000):=by show _<=_;omega
     have cg:B<=wr.heap.size:=by have:=HR.out.2.2.1.size;omega
     have cn:=Hd ag;clear K be bg bw af hq ag;obtain⟨L0,av⟩:∃ L0,L0=l++(leB 8 m++(A.take i).flatMap Xv):=⟨_,rfl⟩;have c3:L0.length<=1000000000:=by have:=co.out;rw[av,List.length_append,List.length_append,Yc];omega
     have cp:=Hd av;have bt:Xv A[i]=leB 8 A[i].1.size++(A[i].1.data.toList++leB 1 A[i].2):=rfl;have ck:=Hd bt;have bj:=HR.out.2.1;rw[<- av]at bj;have cj:=Hd bj;clear av bt bj;generalize A[i]=mk at *;obtain⟨k,v⟩:=mk;simp only at qc ca hv;have ao:IntKind.i64.wrap ((q:Int)+8)=(q:Int)+8:=by rw[IntKind.wrap_i64];omega
     have a1:IntKind.i64.wrap ((q:Int)+8+(k.size:Int))=(q:Int)+8+(k.size:Int):=by rw[IntKind.wrap_i64];omega
     have ct:IntKind.i64.wrap ((q:Int)+8+(k.size:Int)+1)=(q:Int)+8+(k.size:Int)+1:=by rw[IntKind.wrap_i64];omega
     have C1:=Hd (Bg B b L0 k.size Om wr cj.out cg Om)
     go_upto_region 20 with (first
      | (go_at_call 133;refine C1.out.mono ?_;rintro e w4 ⟨rfl,h1,h2,h3⟩;have H4:=Hd (Ai1 h1 (Ai1 h2 h3));clear h1 h2 h3)
      | (go_at_call 134;refine (Jh _ _).mono ?_;rintro e w' ⟨rfl,rfl⟩)
      | fail)
     clear C1;have C2:=Hd (Zcg B b (L0++leB 8 k.size) k w4 H4.out.1 (by have:=H4.out.2.1.size;omega) (by rw[List.length_append,Yc];omega))
     go_upto_region 24 with (first
      | (go_at_call 118;refine C2.out.mono ?_;rintro e w5 ⟨rfl,h1,h2,h3⟩;have H5:=Hd (Ai1 h1 (Ai1 h2 h3));clear h1 h2 h3)
      | fail)
     clear C2;have b3:Zq Yi r (Y5 ms) w5:=Zl1 ax.out.2.2.1 ((HR.out.2.2.2.trans H4.out.2.2).trans H5.out.2.2) cb;have cl:=Hd b3;clear b3;have C3:=Hd (Zhw B b (L0++leB 8 k.size++k.data.toList) v hv w5 H5.out.1 (by have:=H4.out.2.1.size;have:=H5.out.2.1.size;omega) (by have e1:k.data.toList.length=k.size:=Array.length_toList;rw[List.length_append,List.length_append,Yc,e1];omega));have ag:=cn.out;have b5:=T5
     go_upto_region 25 with (first
      | (at_lookup;refine Zk rfl _ _ false rfl Vv Tryz.underlying101 Tryz.underlying9 (b5 _) rfl cl.out k rfl ?_;simp only[Bool.false_eq_true,if_false,ag,Option.getD_some])
      | fail)
     clear b5 ag
     go_wp2_with (first
      | (go_at_call 172;refine C3.out.mono ?_;rintro e w6 ⟨rfl,h1,h2,h3⟩;have H6:=Hd (Ai1 h1 (Ai1 h2 h3));clear h1 h2 h3)
      | (go_at_call 173;refine (Ej _ _).mono ?_;rintro e w' ⟨rfl,rfl⟩)
      | fail)
     go_roundg (m-(i+1))
     case measure=>omega
     case rel =>
      refine⟨i+1,q+8+k.size+1,by go_num,by go_num,rfl,Om,Om,?_,?_,((HR.out.2.2.1.then H4.out.2.1).then H5.out.2.1).then H6.out.2.1,((HR.out.2.2.2.trans H4.out.2.2).trans H5.out.2.2).trans H6.out.2.2⟩
      ·rw[HQ.out.1,List.length_append,HQ.out.2.2];have:=HQ.out.2.1;show _=_+(_+(8+(k.size+1)));omega
      ·have h6:=H6.out.1;rw[HQ.out.1,ck.out];have e:l++(leB 8 m++((A.take i).flatMap Xv++(leB 8 k.size++(k.data.toList++leB 1 v))))=L0++leB 8 k.size++k.data.toList++leB 1 v:=by rw[cp.out];simp only[List.append_assoc]
       rw[e];exact h6
    ·obtain rfl:i=m:=Om
     have hq:=HR.out.1;rw[<- am.out.1,List.take_length]at hq;have bi:=HR.out.2.1;rw[show A.take i=A by rw[<- am.out.1,List.take_length],b6.out]at bi;have bu:((Xg (Wr ms)).length:Int)=(q:Int):=(by rw[<- b6.out,List.length_append,Yc,hq]);have HF:=Hd (Ai1 bi (cq.out.then HR.out.2.2.1));have cm:=Hd bu;clear hq bi bu;go_wp2_with fail
     first|go_ret|go_ret2
     exact⟨by show Ending.returned (.tuple #[.int .i64 (q:Int),.nilIface])=_;rw[cm.out],HF.out⟩
  ·obtain⟨Z,ar⟩:=Zde bh;have ay:=Cj HE.out.1 Z
   have aw:Fr (λj=>j=N+1) wr (setBlock az (N+1) (.mapIter (some r) z ((G.map (·.born)).toArray.push e.born) z)):=by
    rcases ao with rfl|rfl
    ·exact Ks _ _ _
    ·exact (Fl wr).drew.then (Ks _ _ _)
   have ab:(setBlock az (N+1) (.mapIter (some r) z ((G.map (·.born)).toArray.push e.born) z)).heap[N+1]?=some (.mapIter (some r) z ((G.map (·.born)).toArray.push e.born) z):=Zab (by rcases ao with rfl|rfl<;>exact bb) _;have bc:∀ ty,(Instr.next (.pointer (some ⟨N+1,0,none⟩)) false ty).run Tryz.prog wr=_:=λ_=>U
   have M:(leftOf es ((G.map (·.born)).toArray.push e.born)).size<(leftOf es (G.map (·.born)).toArray).size:=left_shrinks es _ e bh;have aq:wr.iterSeen (N+1)=(G.map (·.born)).toArray:=by unfold World.iterSeen;rw[hI]
   generalize setBlock az (N+1) _=w2 at *;have cf:=run_entry_at (P:=Tryz.prog) w2 (N+1) r z _ es z e ab (aw.heap al Om) Z HE.out.2.1.2.1;rw[ay]at cf bc;have au:=Zr hO aw (λj e q=>by rw[hu]at e;have e:=Option.some.inj e;have e:g=j:=e;omega);have HZ:=Hd (Ai1 au (Ai1 (Ai1 hu ai) (Ai1 ab (Ai1 (hF.trans aw (λk hk e=>by show N<=k;omega)) (Ai1 M (Ai1 aq (Ai1 Z (Ai1 ar (Ai1 hm J)))))))))
   have cz:G.length<=1000:=by
    have h1:G.length<=es.toList.length:=List.Nodup.length_le_of_subset J hm;have h2:=congrArg List.length HE.out.1;unfold Y5 at h2;rw[List.length_map,List.length_map,List.length_map,<- I.out.2.2]at h2;omega
   clear hO hu ai hI hF al bb U aw ab bh ao ay Z ar M aq au HI hm J
   go_wp2_with (first
    | (at_builtin;refine wpList_append_own_at _ rfl _ _ 34 rfl N 9 is _ 1 16 Tryz.underlying34 bx bo bn bm rfl (by decide) u6 G.length _ rfl (HZ.out.1.alloc _) ⟨w2.heap.size,0,none⟩ 1 1 [.string (kOf e)] rfl rfl (Z2 _ _) (by intro x hx;rw[List.mem_singleton.1 hx];rfl) (by unfold maxLen;omega) Om (by have:=HZ.out.2.2.2.1.size;have:=I.out.2.1;rw[Za];omega) ?_;intro v' w7 ae ah bd b1;have H7:=Hd (Ai1 ae (Ai1 ah b1));clear ae ah bd b1)
    | fail)
   obtain⟨au,⟨hu,ai⟩,ab,hF,M,aq,Z,ar,hm,J⟩:=HZ.out;obtain⟨g',c',b9,_,bz⟩:=V2 H7.out.1 0 Om;have cv:N+1<w2.heap.size:=(Gs1.1 ab).1;have c0:N<=g:=Yo (g:=g) au (by rw[hu];rfl);have F7:Fr (λj=>u6.ownBlock=some j) w2 w7:=((Fl w2).alloc _).grown H7.out.2.1 (λk e _=>e);have b4:=F7.heap ab (λe=>by rw[hu]at e;have e:=Option.some.inj e;have e:g=N+1:=e;exact ai e)
   have ce:g'≠N+1:=by
    rcases H7.out.2.2 with q|q
    ·rw[bz,hu]at q;have e:=Option.some.inj q;have e:g'=g:=e;omega
    ·rw[bz,Za]at q;have e:=Option.some.inj q;omega
   have eb:((G++[e]).map (·.born)).toArray=(G.map (·.born)).toArray.push e.born:=by simp
   go_roundw
   case rel =>
    refine⟨v',G++[e],rfl,?_,⟨g',c',by rw[b9,List.length_append];rfl,ce⟩,by rw[eb];exact b4,λx hx=>?_,?_,hF.trans F7 (λk hk e=>by rw[hu]at e;have e:=Option.some.inj e;have e:g=k:=e;show N<=k;omega)⟩
    ·rw[List.length_append,List.map_append,List.map_append];exact H7.out.1
    ·rcases List.mem_append.1 hx with hx|hx
     ·exact hm x hx
     ·rw[List.mem_singleton.1 hx];exact Z
    ·exact List.nodup_append.2 ⟨J,by simp,λa ha b hb=>by rw[List.mem_singleton.1 hb];exact λq=>ar (q▸ha)⟩
   case measure =>
    have:w7.iterSeen (N+1)=(G.map (·.born)).toArray.push e.born:=by unfold World.iterSeen;rw[b4]
    rw[this,aq];exact M
end
end Go.Proofs.YtlfoalomaofejaaGreatDoor
