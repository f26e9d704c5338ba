/- The exchange of two runs (slices.swapRangeCmpFunc). (Printed by wip/gen_sort.py.) · The two parts of -/
import Derived.Test.YtoliamijgmifkaaGreatDoorF1
set_option linter.all false
set_option maxRecDepth 100000
set_option maxHeartbeats 2000000
namespace Go.Proofs.YtoliamijgmifkaaGreatDoor
section
open Go.Shelf Go.RowKit Go.Lib Go.Sort SS
structure SPw(P:Program)(k:Nat):Prop where
 mixed:P.follows .mixedOrders=true
 t0:P.underlying 0=some (.tuple #[])
 a0:∀ w,(isAgg 0).run P w = .ok false w
 z0:∀ w,(Go.sizeOf 0).run P w = .ok 1 w
 v0:∀ w,(zeroValue 0).run P w = .ok (.tuple #[]) w
 t3:P.underlying 3=some (.int .i64)
 a3:∀ w,(isAgg 3).run P w = .ok false w
 z3:∀ w,(Go.sizeOf 3).run P w = .ok 1 w
 v3:∀ w,(zeroValue 3).run P w = .ok (.int .i64 0) w
 t4:P.underlying 4=some .bool
 a4:∀ w,(isAgg 4).run P w = .ok false w
 z4:∀ w,(Go.sizeOf 4).run P w = .ok 1 w
 v4:∀ w,(zeroValue 4).run P w = .ok (.bool false) w
 t246:P.underlying 246=some (.int .u64)
 a246:∀ w,(isAgg 246).run P w = .ok false w
 z246:∀ w,(Go.sizeOf 246).run P w = .ok 1 w
 v246:∀ w,(zeroValue 246).run P w = .ok (.int .u64 0) w
 tS:P.underlying 22=some (.slice 45)
 aS:∀ w,(isAgg 22).run P w = .ok false w
 zS:∀ w,(Go.sizeOf 22).run P w = .ok 1 w
 vS:∀ w,(zeroValue 22).run P w = .ok (.slice none 0 0) w
 tF:P.underlying 203=some (.func #[45,45] #[3] false)
 aF:∀ w,(isAgg 203).run P w = .ok false w
 zF:∀ w,(Go.sizeOf 203).run P w = .ok 1 w
 vF:∀ w,(zeroValue 203).run P w = .ok .nilFunc w
 aE:∀ w,(isAgg 45).run P w = .ok true w
 zE:∀ w,(Go.sizeOf 45).run P w = .ok k w
theorem sp_w:SPw Tryz.prog 6:=by
 constructor <;> first|kernel_rfl|(intro w;kernel_rfl)
theorem Hs{P:Program}{k:Nat}(L:SPw P k)(F:P.funcs[188]? = some Tryz.f188){α:Type}[Inhabited α](enc:α->List Value)(w0 W:World)(blk off cap a b n:Nat)(d0 dk:Array α)(R:RowK enc k w0 blk off d0)(hs:dk.size=d0.size)(h:SWK enc k w0 blk off dk W)
  (hab:a+n<=b) (hb:b+n<=dk.size) (hsz:dk.size<4611686018427387904) (v:Value) :
  Calls P 188 #[.slice (some ⟨blk,off,none⟩) dk.size cap,.int .i64 a,.int .i64 b,.int .i64 n,v] W fun e w'=>e = .returned (.tuple #[])/\∃ d',SwR dk a b n d'/\SWK enc k w0 blk off d' w':=by
 have mixed:=L.mixed;have t0:=L.t0;have a0:=L.a0;have z0:=L.z0;have v0:=L.v0;have t3:=L.t3;have a3:=L.a3;have z3:=L.z3;have v3:=L.v3;have t4:=L.t4;have a4:=L.a4;have z4:=L.z4;have v4:=L.v4;have t246:=L.t246;have a246:=L.a246;have z246:=L.z246;have v246:=L.v246;have tS:=L.tS;have aS:=L.aS;have zS:=L.zS;have vS:=L.vS;have tF:=L.tF;have aF:=L.aF;have zF:=L.zF;have vF:=L.vF;have aE:=L.aE;have zE:=L.zE;have uS:=run_underlying L.tS;have RR:Aside _:=R;have HH:Aside _:=h;have HS:=Lib.hid hs;clear R h hs L;go_enter F,Tryz.ntmps188
 go_wp2
 go_loopg [10] n (fun g1 vi wr=>∃ (i:Nat) (di:Array α),vi = .int .i64 i/\i<=n/\n<=i+g1/\Hid (SwR dk a b i di)/\Hid (SWK enc k w0 blk off di wr))
 case atStart=>exact⟨0,dk,rfl,Nat.zero_le _,by omega,SwR.zero _ _ _,HH.out⟩
 case round =>
  obtain⟨i,di,rfl,hi,hg,HR,HW⟩:=hrel;by_cases hlt:i<n
  ·have hltz:(i:Int)<(n:Int):=by omega
   have hsd:di.size=dk.size:=HR.out.1;have hs0:di.size=d0.size:=hsd.trans HS;have x1:a+i<di.size:=by omega
   have x2:b+i<di.size:=by omega
   obtain⟨ex,hex⟩:∃ c,enc di[a+i]! = c:=⟨_,rfl⟩;obtain⟨ey,hey⟩:∃ c,enc di[b+i]! = c:=⟨_,rfl⟩;have l1:=HW.out.ld1 RR.out hs0 P (b+i) x2;have l2:=HW.out.ld1 RR.out hs0 P (a+i) x1;have s1:=HW.out.st1 RR.out hs0 P (a+i) x1 di[b+i]!;have s2:=HW.out.st2 RR.out hs0 P (a+i) (b+i) x1 x2 di[b+i]! di[a+i]!;have HN:=Lib.hid (HW.out.swapped RR.out (a+i) (b+i) x1 x2);have y1:ex.length=k:=by rw[<- hex];exact RR.out.hk _
   have y2:ey.length=k:=by rw[<- hey];exact RR.out.hk _
   rw[hex]at l2 s2;rw[hey]at l1 s1 s2;have CC:=Lib.hid (And.intro hex hey);have z1:(a:Int)+i<dk.size:=by omega
   have z2:(b:Int)+i<dk.size:=by omega
   clear hex hey hs0;go_wp2_with fail
   go_big_region_o
   all_goals go_wp2
   go_roundg (n-(i+1))
   case measure=>omega
   case rel=>exact⟨i+1,swp di (a+i) (b+i),by go_num,by omega,by omega,HR.out.step (by omega) (by omega),by rw[CC.1,CC.2]at HN;exact HN⟩
  ·have hltz:¬ (i:Int)<(n:Int):=by omega
   go_wp2
   go_end0
   have e:i=n:=by omega
   subst e;exact⟨rfl,di,HR.out,HW.out⟩
end
section
open Go.Shelf Go.RowKit Go.Lib Go.Sort SS
theorem Eo{α:Type}[Inhabited α](enc:α->List Value)(w0 W:World)(blk off cap a b n sz:Nat)(d0 dk:Array α)(R:RowK enc 6 w0 blk off d0)(hs:dk.size=d0.size)(h:SWK enc 6 w0 blk off dk W)
  (hz:sz=dk.size) (hab:a+n<=b) (hb:b+n<=dk.size) (hsz:dk.size<4611686018427387904) (v:Value) :
  Calls Tryz.prog 188 #[.slice (some ⟨blk,off,none⟩) sz cap,.int .i64 a,.int .i64 b,.int .i64 n,v] W fun e w'=>e = .returned (.tuple #[])/\∃ d',SwR dk a b n d'/\SWK enc 6 w0 blk off d' w':=by
 subst hz;exact Hs sp_w Tryz.func188 enc w0 W blk off cap a b n d0 dk R hs h hab hb hsz v
theorem Zfa{α:Type}[Inhabited α](enc:α->List Value)(w0 W:World)(blk off cap a m b sz:Nat)(d0 dk:Array α)(R:RowK enc 6 w0 blk off d0)(hs:dk.size=d0.size)(h:SWK enc 6 w0 blk off dk W)
  (hz:sz=dk.size) (ham:a<m) (hmb:m<b) (hb:b<=dk.size) (hsz:dk.size<4611686018427387904) (v:Value) :
  Calls Tryz.prog 167 #[.slice (some ⟨blk,off,none⟩) sz cap,.int .i64 a,.int .i64 m,.int .i64 b,v] W fun e w'=>e = .returned (.tuple #[])/\∃ d',Wz dk a m b d'/\SWK enc 6 w0 blk off d' w':=by
 have RR:Aside _:=R;have HH:Aside _:=h;have HS:=Lib.hid hs;have HZ:=Lib.hid hz;clear R h hs hz;go_enter Tryz.func167,Tryz.ntmps167
 go_wp2
 go_loopg [10,11] (b-a) (fun g1 vi vj wr=>∃ (i j:Nat) (di:Array α),vi = .int .i64 i/\vj = .int .i64 j/\0<i/\0<j/\i<=m-a/\j<=b-m/\i+j<=g1/\Hid (Pd dk a m b i j di)/\Hid (SWK enc 6 w0 blk off di wr))
 case atStart=>exact⟨m-a,b-m,dk,by go_num,by go_num,by omega,by omega,Nat.le_refl _,Nat.le_refl _,by omega,Pd.start dk (by omega) (by omega),HH.out⟩
 case round =>
  obtain⟨i,j,di,rfl,rfl,hi,hj,hi2,hj2,hg,HR,HW⟩:=hrel;have hsd:di.size=dk.size:=HR.out.1;have HSD:=Lib.hid hsd;have HZD:=Lib.hid (HZ.out.trans hsd.symm)
  have CALL:∀ (W:World) (x y n:Nat) (xi yi ni:Int),xi=x->yi=y->ni=n->SWK enc 6 w0 blk off di W->x+n<=y->y+n<=dk.size ->
    Calls Tryz.prog 188 #[.slice (some ⟨blk,off,none⟩) sz cap,.int .i64 xi,.int .i64 yi,.int .i64 ni,v] W fun e w'=>e = .returned (.tuple #[])/\∃ d',SwR di x y n d'/\SWK enc 6 w0 blk off d' w':=by
   rintro W x y n _ _ _ rfl rfl rfl h1 h2 h3;exact Eo enc w0 W blk off cap x y n sz d0 di RR.out (HSD.trans HS) h1 HZD h2 (by have:=HSD.out;omega) (by have:=HSD.out;omega) v
  clear hsd;by_cases he:i=j
  ·subst he;have C1:=CALL wr (m-i) m i (m-i) m i (by omega) rfl rfl HW.out (by omega) (by omega);clear CALL;go_wp2_with (go_at_call 188;refine C1.mono ?_;rintro e W1 ⟨rfl,d',h1,h2⟩)
   go_end0
   exact⟨rfl,d',HR.out.done (by omega) (by omega) h1,h2⟩
  ·have hez:¬ (i:Int)=(j:Int):=by omega
   have hez2:((i:Int)==(j:Int))=false:=by simpa using hez
   by_cases hgt:j<i
   ·have hgtz:(j:Int)<(i:Int):=by omega
    have C1:=CALL wr (m-i) m j (m-i) m j (by omega) rfl rfl HW.out (by omega) (by omega);clear CALL;go_wp2_with (go_at_call 188;refine C1.mono ?_;rintro e W1 ⟨rfl,d',h1,h2⟩;clear C1)
    go_roundg i
    case measure=>omega
    case rel=>exact⟨i-j,j,d',by go_num,rfl,by omega,by omega,by omega,by omega,by omega,HR.out.left (by omega) (by omega) hgt h1,h2⟩
   ·have hgtz:¬ (j:Int)<(i:Int):=by omega
    have C1:=CALL wr (m-i) (m+j-i) i (m-i) (m+j-i) i (by omega) (by omega) rfl HW.out (by omega) (by omega);clear CALL;go_wp2_with (go_at_call 188;refine C1.mono ?_;rintro e W1 ⟨rfl,d',h1,h2⟩;clear C1)
    go_roundg j
    case measure=>omega
    case rel=>exact⟨i,j-i,d',rfl,by go_num,by omega,by omega,by omega,by omega,by omega,HR.out.right (by omega) (by omega) (by omega) h1,h2⟩
end
end Go.Proofs.YtoliamijgmifkaaGreatDoor
