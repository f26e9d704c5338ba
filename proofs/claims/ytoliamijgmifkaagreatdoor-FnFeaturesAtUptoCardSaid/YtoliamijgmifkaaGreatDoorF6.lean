/- laws.within, clean, few: what they answer. -/
import Derived.Test.YtoliamijgmifkaaGreatDoorF5
set_option linter.all false
set_option maxRecDepth 100000
set_option maxHeartbeats 2000000
namespace Go.Proofs.YtoliamijgmifkaaGreatDoor
open Go.RowKit DT
def inB(s:ByteArray)(c:UInt8):Bool:=s.data.toList.contains c
def Wa(s:ByteArray):Bool:=!inB s 0
def P6(xs:List ByteArray):Bool:=xs.all Wa
def total(xs:List ByteArray):Nat:=(xs.map fun s=>s.size+1).sum
def Pc(ls:List (List ByteArray)):Bool:=decide ((ls.map total).sum<=4000)
theorem Zkh(s:ByteArray)(i:Nat)(h:i<s.size):s.data.toList[i]? = some s[i]:=by
 rw[Array.getElem?_toList];exact Array.getElem?_eq_getElem h
theorem Bn(s:ByteArray)(c:UInt8)(w:World)(hs:s.size<=9223372036854775807):Calls Tryz.prog 74 #[.string s,.int .u8 c.toNat] w fun e w'=>e = .returned (.bool (inB s c))/\w=w':=by
 go_enter Tryz.func74,Tryz.ntmps74
 go_wp2_with fail
 go_loop [8] (fun i=>∃ k:Nat,k<=s.size/\i = .int .i64 k/\Hid (∀ j (h:j<s.size),j<k->s[j]≠c)) (fun i=>s.size-(intOf i).toNat)
 case atStart=>exact⟨0,Nat.zero_le _,rfl,fun j _ h=>by omega⟩
 case round =>
  obtain⟨k,hk,rfl,HZ⟩:=hrel;by_cases hlt:k<s.size
  ·have hltz:(k:Int)<s.size:=by omega
   by_cases h0:s[k]=c
   ·have h0z:((s[k].toNat:Int)==(c.toNat:Int))=true:=by rw[h0];simp
    go_wp2_with fail
    go_ret;refine⟨Zg ?_,rfl⟩;unfold inB;rw[List.contains_iff_mem.2 (h0 ▸ List.mem_of_getElem? (Zkh s k hlt))]
   ·have h0z:((s[k].toNat:Int)==(c.toNat:Int))=false:=by
     simp only[beq_eq_false_iff_ne,ne_eq,Int.natCast_inj];exact fun e=>h0 (UInt8.toNat_inj.1 e)
    go_wp2_with fail
    go_round
    case rel=>exact⟨k+1,by omega,by go_num,fun j h1 h2=>by
     rcases Nat.lt_or_ge j k with q|q
     ·exact HZ.out j h1 q
     ·have:j=k:=by omega
      subst this;exact h0⟩
    case measure=>simp[intOf];omega
  ·have hltz:¬ (k:Int)<s.size:=by omega
   go_wp2_with fail
   go_ret;refine⟨Zg ?_,rfl⟩;unfold inB;rw[eq_comm,Bool.eq_false_iff];intro hm;obtain⟨j,hj,e⟩:=List.getElem_of_mem (List.contains_iff_mem.1 hm);have hj':j<s.size:=by simpa using hj
   exact HZ.out j hj' (by omega) (by have:=Zkh s j hj';rw[List.getElem?_eq_getElem hj]at this;rw[<- Option.some.inj this];exact e)
theorem I5(w:World)(O:Nat->Prop)(A:Option Addr)(c:Nat)(xs:List ByteArray)(h:Ty.str.At w O A xs) :
  Calls Tryz.prog 31 #[.slice A xs.length c] w fun e w'=>e = .returned (.bool (P6 xs))/\w=w':=by
 have hm:=h.1;have HN:=Lib.hid h;clear h;have CW:Hid (∀ (s:ByteArray) (W:World),s.size<=9223372036854775807->Calls Tryz.prog 74 #[.string s,.int .u8 0] W fun e w'=>e = .returned (.bool (inB s 0))/\W=w'):=fun s W hs=>Bn s 0 W hs
 go_enter Tryz.func31,Tryz.ntmps31
 go_wp2_with fail
 go_loop [6] (fun i=>∃ k:Nat,k<=xs.length/\i = .int .i64 k/\Hid ((xs.take k).all Wa=true)) (fun i=>xs.length-(intOf i).toNat)
 case atStart=>exact⟨0,Nat.zero_le _,rfl,rfl⟩
 case round =>
  obtain⟨k,hk,rfl,HA⟩:=hrel;by_cases hlt:k<xs.length
  ·obtain⟨b,o,rfl,_,hbl,c0,hsz⟩:=Vz HN.out k hlt;have C:=Lib.hid (CW.out xs[k] w hsz);obtain⟨q,hq⟩:∃ q,q=inB xs[k] 0:=⟨_,rfl⟩;have hn:Wa xs[k] = !q:=by rw[hq];rfl
   rw[<- hq]at C;clear hq;cases q
   ·go_wp2_with (go_at_call 74;refine C.out.mono ?_;rintro e w' ⟨rfl,rfl⟩)
    go_round
    case rel=>exact⟨k+1,by omega,by go_num,Yr Wa _ _ hlt HA.out hn⟩
    case measure=>simp[intOf];omega
   ·go_wp2_with (go_at_call 74;refine C.out.mono ?_;rintro e w' ⟨rfl,rfl⟩)
    go_ret;exact⟨Zg (by unfold P6;rw[Y0 Wa _ _ hlt hn]),rfl⟩
  ·go_wp2_with fail
   go_ret;exact⟨Zg (by unfold P6;rw[List.take_of_length_le (by omega)]at HA;rw[HA.out]),rfl⟩
theorem L4(xs:List ByteArray)(j:Nat)(h:j<xs.length):total (xs.take (j+1))=total (xs.take j)+(xs[j].size+1):=by
 unfold total;rw[List.take_succ_eq_append_getElem h,List.map_append,List.sum_append];simp
theorem Mv(l:List Nat)(j:Nat):(l.take j).sum<=l.sum:=by
 conv=>rhs;rw[<- List.take_append_drop j l,List.sum_append]
 omega
theorem Zep(xs:List ByteArray)(j:Nat):total (xs.take j)<=total xs:=by
 unfold total;rw[List.map_take];exact Mv _ _
theorem Zeq(ls:List (List ByteArray))(k:Nat)(h:k<ls.length):((ls.take (k+1)).map total).sum=((ls.take k).map total).sum+total ls[k]:=by
 rw[List.take_succ_eq_append_getElem h,List.map_append,List.sum_append];simp
theorem Zji(ls:List (List ByteArray))(k:Nat):((ls.take k).map total).sum<=(ls.map total).sum:=by
 rw[List.map_take];exact Mv _ _
theorem Zb1(w:World)(O:Nat->Prop)(A:Option Addr)(c:Nat)(ls:List (List ByteArray))(hm:ls.length<=9223372036854775807)(hz:(ls.map total).sum<=4611686018427387904)
  (h:∀ k (hk:k<ls.length),∃ b o Ak ck,A=some ⟨b,o,none⟩/\b<w.heap.size/\w.cell? ⟨b,o+k,none⟩=some (.slice Ak ls[k].length ck)/\Ty.str.At w O Ak ls[k]) :
  Calls Tryz.prog 76 #[.slice A ls.length c] w fun e w'=>e = .returned (.bool (Pc ls))/\w=w':=by
 have HN:=Lib.hid h;have HZ:=Lib.hid hz;clear h hz;go_enter Tryz.func76,Tryz.ntmps76
 go_wp2_with fail
 go_loop [3,8] (fun n i=>∃ k S:Nat,k<=ls.length/\i = .int .i64 k/\n = .int .i64 S/\Hid (S=((ls.take k).map total).sum)) (fun n i=>ls.length-(intOf i).toNat)
 case atStart=>exact⟨0,0,Nat.zero_le _,rfl,rfl,rfl⟩
 case round =>
  obtain⟨k,S,hk,rfl,rfl,HS⟩:=hrel;by_cases hlt:k<ls.length
  ·obtain⟨b,o,Ak,ck,rfl,hbl,c0,hA⟩:=HN.out k hlt;have hml:=hA.1;have HA:=Lib.hid hA
   have HB:Hid (S+total ls[k]=((ls.take (k+1)).map total).sum/\S+total ls[k]<=4611686018427387904):=by
    have h1:=Zeq ls k hlt;have h2:=Zji ls (k+1);have h3:=HZ.out;have h4:=HS.out;exact⟨by omega,by omega⟩
   clear HS;generalize ls[k]=xs at *;clear hA;go_wp2_with fail
   go_loop [3,16] (fun n i=>∃ j T:Nat,j<=xs.length/\i = .int .i64 j/\n = .int .i64 (S+T:Nat)/\Hid (T=total (xs.take j))) (fun n i=>xs.length-(intOf i).toNat)
   case atStart=>exact⟨0,0,Nat.zero_le _,rfl,rfl,rfl⟩
   case round =>
    obtain⟨j,T,hj,rfl,rfl,HT⟩:=hrel;by_cases hltj:j<xs.length
    ·obtain⟨b',o',rfl,_,hbl',c0',hsz⟩:=Vz HA.out j hltj
     have hT:S+T+(xs[j].size+1)<=4611686018427387904:=by
      have h1:=L4 xs j hltj;have h2:=Zep xs (j+1);have h3:=HB.out.2;have h4:=HT.out;omega
     have HT':Hid (T+(xs[j].size+1)=total (xs.take (j+1))):=by
      have h1:=L4 xs j hltj;have h4:=HT.out;show _=_;omega
     clear HT;generalize xs[j]=s at *;go_wp2_with fail
     go_round
     case rel=>exact⟨j+1,T+(s.size+1),by omega,by go_num,by go_num,HT'⟩
     case measure=>simp[intOf];omega
    ·have e:T=total xs:=by rw[HT.out,List.take_of_length_le (by omega)]
     subst e;go_wp2_with fail
     go_round
     case rel=>exact⟨k+1,S+total xs,by omega,by go_num,by go_num,HB.out.1⟩
     case measure=>simp[intOf];omega
  ·have e:S=(ls.map total).sum:=by rw[HS.out,List.take_of_length_le (by omega)]
   subst e;have hz:=HZ.out;go_wp2_with fail
   go_ret;exact⟨Zg (by unfold Pc;simp;omega),rfl⟩
end Go.Proofs.YtoliamijgmifkaaGreatDoor
