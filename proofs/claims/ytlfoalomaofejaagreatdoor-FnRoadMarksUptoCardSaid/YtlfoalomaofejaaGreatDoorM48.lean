/- dict.zzText into a buffer. -/
import Derived.Test.YtlfoalomaofejaaGreatDoorM47
import Derived.Lib.Join
import Derived.Test.YtlfoalomaofejaaGreatDoorM10
import Derived.Deep.CutRange
import Derived.Lib.LazyBuf
set_option linter.all false
section
section
namespace SP
end SP
end
namespace Go.Proofs.YtlfoalomaofejaaGreatDoor
section
open Go.RowKit DT SP
end
section
open Go.RowKit DT SP
end
section
open Go.RowKit DT SP
end
section
open Go.RowKit DT SP
def Zp(l:List UInt8):List Value:=l.map λb=>Value.int .u8 (b.toNat:Int)
end
end Go.Proofs.YtlfoalomaofejaaGreatDoor
end
section
set_option maxRecDepth 100000
namespace Go.Proofs.YtlfoalomaofejaaGreatDoor
open Go.RowKit DT SP
abbrev Zcd:TypeId:=94
abbrev V9(B b:Nat)(l:List UInt8)(w:World):Prop:=Lib.IsBuffer Zcd 5 B b (Zp l) w
abbrev OKb(b:Nat)(w w':World):Prop:=Lib.OthersKept 5 (some b) w w'
theorem D7{b:Nat}{w w':World}(h:Zf w w'):OKb b w w':=λ_ _ q _ _=>h.heap q id
theorem Vw(l:List UInt8):∀ v∈Zp l,v.oneCell'=true:=λu h=>by obtain⟨x,_,rfl⟩:=List.mem_map.1 h;rfl
theorem Qs(l m:List UInt8):Zp (l++m)=Zp l++Zp m:=List.map_append ..
theorem I4{B:Nat}{w w':World}(h:Below B w w'):Fr (λj=>B<=j) w w':=⟨h.os,h.tape,h.output,h.size,λj z q=>h.block j (Nat.lt_of_not_le q)⟩
theorem Oc{B b:Nat}{l:List UInt8}{w w':World}(h:V9 B b l w)(f:Zf w w'):V9 B b l w':=by
 obtain⟨hB,v,q,G,z,A⟩:=h;exact⟨hB,v,q,f.heap G id,Zr z f (λ_ _ e=>e),A⟩
theorem Zcg(B b:Nat)(l:List UInt8)(s:ByteArray)(w:World)(h:V9 B b l w)(hB:B<=w.heap.size)(J:l.length+s.size<=4294967296) :
  Calls Tryz.prog 118 #[.iface 108 (.pointer (some ⟨b,0,none⟩)),.string s] w λe w'=>e=.returned (.tuple #[.int .i64 s.size,.nilIface])/\V9 B b (l++s.data.toList) w'/\Fr (λj=>B<=j) w w'/\OKb b w w':=by
 have U:=run_bytes_of_string (P:=Tryz.prog) w 9 55 5 s Tryz.underlying9 Tryz.underlying55 Tryz.underlying5;have G:Zf w (w.drew.alloc (.cells (bytesRow s (grownCap w s.size 0 5)) 5 ((bytesRow s (grownCap w s.size 0 5)).size,(bytesRow s (grownCap w s.size 0 5)).size+1))):=((Fl w).drew).alloc _
 have z:∀ j v,(Zp s.data.toList)[j]?=some v->(w.drew.alloc (.cells (bytesRow s (grownCap w s.size 0 5)) 5 ((bytesRow s (grownCap w s.size 0 5)).size,(bytesRow s (grownCap w s.size 0 5)).size+1))).cell? ((⟨w.heap.size,0,none⟩:Addr).add j)=some v:=λj v A=>by
  have q:j<s.data.size:=by
   have:=(Gl.1 A).1;simpa [Zp] using this
  rw[Addr.add_lit,Nat.zero_add]
  have X:v=.int .u8 (s.data[j].toNat:Int):=by
   unfold Zp at A;rw[List.getElem?_map,Array.getElem?_toList,Array.getElem?_eq_getElem q]at A;exact (Option.some.inj A).symm
  rw[X];have I:=alloc_at w.drew (.cells (bytesRow s (grownCap w s.size 0 5)) 5 ((bytesRow s (grownCap w s.size 0 5)).size,(bytesRow s (grownCap w s.size 0 5)).size+1));have I:(w.drew.alloc (.cells (bytesRow s (grownCap w s.size 0 5)) 5 ((bytesRow s (grownCap w s.size 0 5)).size,(bytesRow s (grownCap w s.size 0 5)).size+1))).heap[w.heap.size]?=some (.cells (bytesRow s (grownCap w s.size 0 5)) 5 ((bytesRow s (grownCap w s.size 0 5)).size,(bytesRow s (grownCap w s.size 0 5)).size+1)):=I;simp only[World.cell?,I];exact bytesRow_at s _ j q
 generalize grownCap w s.size 0 5=cap at *;have V:b<w.heap.size:=h.lt;have Y:=Hd (Any.Buffer_Write_any laysBWrite B b (Zp l) (Zp s.data.toList) ⟨w.heap.size,0,none⟩ s.size cap _ (Oc h G) (by have:=G.size;omega) (Vw _) (by show (Zp s.data.toList).length=s.data.size;simp[Zp]) (by show w.heap.size≠b;omega) z (Vw _) (by show (Zp l).length+s.size<=_;simp only[Zp,List.length_map];omega));have K:=Hd G;clear z G h;generalize M:w.drew.alloc _=Z at *;have hm:∀ (n:Nat) (W:World),(method (n+1) 108 (.pointer (some ⟨b,0,none⟩)) "Write").run Tryz.prog W=.ok (313,.pointer (some ⟨b,0,none⟩)) W:=λ_ _=>by kernel_rfl
 go_enter Tryz.func118,Tryz.ntmps118
 go_wp2_with (first
  | (go_at_call 313;refine Y.out.mono ?_;rintro e L ⟨rfl,h2,h3,h4⟩)
  | fail)
 go_ret2
 exact⟨rfl,by show Lib.IsBuffer Zcd 5 B b (Zp (l++s.data.toList)) L;rw[Qs];exact h2,(K.out.mono (λ_ _ h=>h.elim)).then (I4 h3),(D7 K.out).trans h4⟩
end Go.Proofs.YtlfoalomaofejaaGreatDoor
end
