/- dict.Contents.WriteTo into a b -/
import Derived.Test.YtlfoalomaofejaaGreatDoorC46
set_option linter.all false
set_option maxRecDepth 100000
set_option maxHeartbeats 600000
namespace Go.Proofs.YtlfoalomaofejaaGreatDoor
open Go.RowKit DT SP
def Ug(xs:List ByteArray):List UInt8:=Lib.join (xs.map (·.data.toList)) [7]
def Vr(ls:List (List ByteArray)):List UInt8:=ls.flatMap λxs=>Ug xs++[10]
structure RowsFit(ls:List (List ByteArray)):Prop where
 two:2<=ls.length
 few:ls.length<=1000
 some:∀ xs∈ls,xs≠[]/\(Ug xs).length<=100000/\xs.length<=100000
theorem Kx{n:Int}(h:0<=n/\n<=1000000000000):wrap64 n=n:=by unfold wrap64;omega
theorem Hy{ls:List (List ByteArray)}(h:∀ xs∈ls,(Ug xs).length<=100000):(Vr ls).length<=ls.length*100001:=by
 induction ls with
 | nil=>simp[Vr]
 | cons a l ih =>
  have h1:=h a (by simp);have h2:=ih (λxs hx=>h xs (by simp[hx]));unfold Vr at *;simp only[List.flatMap_cons,List.length_append,List.length_cons,List.length_nil];omega
theorem Zb8(ls:List (List ByteArray))(xs:List ByteArray):Vr (ls++[xs])=Vr ls++(Ug xs++[10]):=by simp[Vr]
theorem Q6{w:World}{O:Nat->Prop}{A:Option Addr}{ls:List (List ByteArray)}(h:strs.At w O A ls)(i:Nat)(hi:i<ls.length):∃ b o A' c,A=some ⟨b,o,none⟩/\b<w.heap.size/\strs.R w O ls[i] [.slice A' ls[i].length c]/\w.cell? ⟨b,o+i,none⟩=some (.slice A' ls[i].length c):=by
 rcases h.2 with rfl|⟨b,o,rfl,_,hl,hc⟩
 ·simp at hi
 ·obtain⟨cs,hr,hcs⟩:=hc i hi;obtain⟨v,rfl⟩:=Mw hr;obtain⟨A',c,rfl⟩:=Yq hr;have:=hcs 0 (by simp);have e:o+i*strs.sz+0=o+i:=by show o+i*1+0=o+i;omega
  rw[e]at this;exact⟨b,o,A',c,rfl,hl,hr,this⟩
theorem Zl9{w:World}{O:Nat->Prop}{A:Option Addr}{c:Nat}{xs:List ByteArray}(h:strs.R w O xs [.slice A xs.length c])(hne:xs≠[])(hl:(Ug xs).length<=100000/\xs.length<=100000) :
  Calls Tryz.prog 119 #[.slice A xs.length c,.string ⟨#[7]⟩] w λe w'=>e=.returned (.string ⟨(Ug xs).toArray⟩)/\Zf w w':=by
 obtain⟨b,o,rfl,hb,hcc⟩:=Y9 h hne;obtain⟨_,_,e,hcap,_⟩:=h;cases e;refine Zam b o c xs ⟨#[7]⟩ w (λj x hj=>?_) hb Om hcap (by show (Ug xs).length<=_;omega);have:=hcc j (.string x) (by rw[List.getElem?_map,hj];rfl);rwa[Addr.add_lit]at this
theorem Cq(ls:List (List ByteArray))(hf:RowsFit ls)(A:Option Addr)(c B b:Nat)(w:World)(O:Nat->Prop)(h:strs.At w O A ls)(hO:∀ j,O j->j<B)(hb:Pp B b [] w)(hB:B<=w.heap.size) :
  Calls Tryz.prog 65 #[.slice A ls.length c,.iface 108 (.pointer (some ⟨b,0,none⟩))] w λe w'=>∃ m:List UInt8,m=Vr (ls.take (ls.length-1))++Ug (ls.getD (ls.length-1) [])/\e=.returned (.tuple #[.int .i64 m.length,.nilIface])/\Pp B b m w'/\Fr (λj=>B<=j) w w':=by
 have HA:=Hd (Ai1 h hO);have HF:=Hd hf;have HB:=Hd hb;obtain⟨n,hn⟩:∃ n,n=ls.length:=⟨_,rfl⟩;have h2:2<=n:=by rw[hn];exact hf.two
 have h3:n<=1000:=by rw[hn];exact hf.few
 have HN:=Hd hn;rw[<- hn];clear h hO hf hb hn;have CZ:Hid (∀ (l:List UInt8) (s:ByteArray) W,Pp B b l W->B<=W.heap.size->l.length+s.size<=4294967296->Calls Tryz.prog 118 #[.iface 108 (.pointer (some ⟨b,0,none⟩)),.string s] W λe w'=>e=.returned (.tuple #[.int .i64 s.size,.nilIface])/\Pp B b (l++s.data.toList) w'/\Fr (λj=>B<=j) W w'):=λl s W h1 h2 h3=>(Zbr B b l s W h1 h2 h3).mono λ_ _ h=>⟨h.1,h.2.1,h.2.2.1⟩
 have hw1:IntKind.i64.wrap ((n:Int)-1)=(n:Int)-1:=by rw[IntKind.wrap_i64];omega
 obtain⟨m,rfl⟩:∃ m,n=m+1:=⟨n-1,Om⟩;have hm1:((m+1:Nat):Int)-1=(m:Int):=Om
 rw[hm1]at hw1;go_enter Tryz.func65,Tryz.ntmps65
 go_wp2_with fail
 go_loopg [4,15] m (λg1 v4 v15 wr=>∃ (i:Nat) (q:Nat),v15=.int .i64 (i:Int)/\v4=.int .i64 (q:Int)/\i<=m/\m<=i+g1/\q<=200000000/\Hid (q=(Vr (ls.take i)).length/\Pp B b (Vr (ls.take i)) wr/\Fr (λj=>B<=j) w wr))
 case atStart=>exact⟨0,0,rfl,rfl,Om,Om,Om,rfl,HB.out,Fl _⟩
 case round =>
  obtain⟨i,q,rfl,rfl,hi,hg1,hq,HR⟩:=hrel;have AT:Hid (strs.At wr O A ls):=Dw HA.out.1 HR.out.2.2 (λk _ ho e=>by have:=HA.out.2 k ho;omega);have hBr:B<=wr.heap.size:=Nt hB HR.out.2.2.size;by_cases hlt:i<m
  ·have hlz:(i:Int)<(m:Int):=Om;have hz0:(0:Int)<=(i:Int):=Om;have hlz2:(i:Int)<((m+1:Nat):Int):=Om;have hil:i<ls.length:=by have:=HN.out;omega
   obtain⟨gb,go,Ax,cx,rfl,lg,hr,q1⟩:=Q6 AT.out i hil;have hx:=HF.out.some _ (List.getElem_mem hil);have CJ:=Hd (Zl9 hr hx.1 hx.2);have HT:Hid (Vr (ls.take (i+1))=Vr (ls.take i)++(Ug ls[i]++[10])):=by show _=_;rw[List.take_succ_eq_append_getElem hil,Zb8]
   have hrl:=hx.2.1;obtain⟨jb,hjb⟩:∃ jb:ByteArray,jb=⟨(Ug ls[i]).toArray⟩:=⟨_,rfl⟩;rw[<- hjb]at CJ;have hjl:jb.data.toList=Ug ls[i]:=(by rw[hjb]);have hjs:jb.size=(Ug ls[i]).length:=by rw[hjb];show (Ug ls[i]).toArray.size=_;simp
   have hqs:(jb++⟨#[10]⟩).size=jb.size+1:=by rw[ByteArray.size_append];exact congrArg (jb.size + ·) (show (⟨#[10]⟩:ByteArray).size=1 from rfl)
   have hq2:¬ 9223372036854775807<jb.size+1:=Om
   have hbl:(Vr (ls.take (i+1))).length<=200000000:=by
    have:=Hy (ls:=ls.take (i+1)) (λxs hx=>(HF.out.some xs (List.mem_of_mem_take hx)).2.1);have h4:(ls.take (i+1)).length<=1000:=by rw[List.length_take];have:=HF.out.few;omega
    have:=Nat.mul_le_mul_right 100001 h4;omega
   have hqe:(Vr (ls.take (i+1))).length=q+(jb++⟨#[10]⟩).size:=(by rw[HT.out,List.length_append,List.length_append,<- HR.out.1,hqs,hjs,List.length_singleton]);have hq3:q+(jb.size+1)<=200000000:=by rw[<- hqs,<- hqe];exact hbl
   have HJ:Hid (Vr (ls.take i)++(jb++⟨#[10]⟩).data.toList=Vr (ls.take (i+1))):=by show _=_;rw[HT.out];congr 1;rw[ByteArray.data_append,Array.toList_append,hjl]
   have C2:=Hd (λW (f:Zf wr W)=>CZ.out (Vr (ls.take i)) (jb++⟨#[10]⟩) W (Lf HR.out.2.1 f) (Nt hBr f.size) (by have:=HR.out.1;omega));clear hjb hjl hx hr;have hw2:wrap64 ((q:Int)+((jb.size:Int)+1))=((q+(jb.size+1):Nat):Int):=by rw[Kx Om];omega
   have HQE:=Hd hqe;rw[hqs]at HQE;clear hqe hjs hrl hbl hqs
   go_wp2_with (first
    | (go_at_call 119;refine CJ.out.mono ?_;rintro e w1 ⟨rfl,hx⟩;have HX:=Hd hx;clear hx)
    | (go_at_call 118;refine (C2.out _ HX.out).mono ?_;rintro e w2 ⟨rfl,h1,h2⟩;have H2:=Hd (Ai1 h1 h2);clear h1 h2)
    | fail)
   go_roundg (m-(i+1))
   case measure=>omega
   case rel=>exact⟨i+1,q+(jb.size+1),by go_num,by first|rfl|go_num|(rw[hw2]),Om,Om,hq3,by show _=_;exact HQE.out.symm,by have:=H2.out.1;rw[HJ.out]at this;exact this,(HR.out.2.2.trans HX.out (λ_ _ h=>h.elim)).then H2.out.2⟩
  ·obtain rfl:i=m:=Om
   have hil:i<ls.length:=by have:=HN.out;omega
   have hz0:(0:Int)<=(i:Int):=Om;have hlz2:(i:Int)<((i+1:Nat):Int):=Om;have hi0:(0:Int)<(i:Int):=Om;obtain⟨gb,go,Ax,cx,rfl,lg,hr,q1⟩:=Q6 AT.out i hil;have hx:=HF.out.some _ (List.getElem_mem hil);have CJ:=Hd (Zl9 hr hx.1 hx.2);have hrl:=hx.2.1;have HG:Hid (ls.getD i []=ls[i]):=by show _=_;rw[List.getD_eq_getElem?_getD,Ge hil];rfl
   obtain⟨jb,hjb⟩:∃ jb:ByteArray,jb=⟨(Ug ls[i]).toArray⟩:=⟨_,rfl⟩;rw[<- hjb]at CJ;have hjs:jb.size=(Ug ls[i]).length:=by rw[hjb];show (Ug ls[i]).toArray.size=_;simp
   have HJ:Hid (jb.data.toList=Ug ls[i]):=by show _=_;rw[hjb]
   have C2:=Hd (λW (f:Zf wr W)=>CZ.out (Vr (ls.take i)) jb W (Lf HR.out.2.1 f) (Nt hBr f.size) (by have:=HR.out.1;omega));have hw2:wrap64 ((q:Int)+(jb.size:Int))=((q+jb.size:Nat):Int):=by rw[Kx Om];omega
   have HS:=Hd hjs;clear hjb hx hr hjs hrl
   go_wp2_with (first
    | (go_at_call 119;refine CJ.out.mono ?_;rintro e w1 ⟨rfl,hx⟩;have HX:=Hd hx;clear hx)
    | (go_at_call 118;refine (C2.out _ HX.out).mono ?_;rintro e w2 ⟨rfl,h1,h2⟩;have H2:=Hd (Ai1 h1 h2);clear h1 h2)
    | fail)
   go_ret2
   refine⟨Vr (ls.take i)++jb.data.toList,?_,?_,H2.out.1,(HR.out.2.2.trans HX.out (λ_ _ h=>h.elim)).then H2.out.2⟩
   ·rw[show i+1-1=i from rfl,HG.out,HJ.out]
   ·rw[List.length_append,<- HR.out.1];have e:jb.data.toList.length=jb.size:=(by simp);rw[e];first|rfl|(rw[<- hw2];rfl)
end Go.Proofs.YtlfoalomaofejaaGreatDoor
