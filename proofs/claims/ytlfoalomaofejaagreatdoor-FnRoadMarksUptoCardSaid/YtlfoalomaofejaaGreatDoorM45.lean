/- The keys of a map of texts, in -/
import Derived.Test.YtlfoalomaofejaaGreatDoorM16
import Derived.Maps.RangeRun
set_option linter.all false
namespace Go.Proofs.YtlfoalomaofejaaGreatDoor
open Go.RowKit TR MapKept
open Go.ChangeMaps (setBlock)
def kOf(e:MapEntry):ByteArray:=match e.key with | .string s=>s|_=>⟨#[]⟩
theorem Ks(w:World)(q:Nat)(o:Obj):Fr (λj=>j=q) w (setBlock w q o) :=
 ⟨rfl,rfl,rfl,by simp[setBlock],λk z h=>by
  show (w.heap.setIfInBounds q o)[k]?=_
  rw[Array.getElem?_setIfInBounds_ne (λe=>h e.symm)]⟩
theorem Zab{w:World}{q:Nat}(h:q<w.heap.size)(z:Obj):(setBlock w q z).heap[q]?=some z:=by
 show (w.heap.setIfInBounds q z)[q]?=_;rw[Array.getElem?_setIfInBounds_self_of_lt h]
theorem Fc{κ:Type}{kv:κ->Value}{l:List (κ×Value)}{z:Array MapEntry}(A:z.toList.map (λe=>(e.key,e.val))=l.map (λp=>(kv p.1,p.2))){e:MapEntry}(h:e∈z.toList):∃ p∈l,e.key=kv p.1/\e.val=p.2:=by
 have h1:(e.key,e.val)∈z.toList.map (λe=>(e.key,e.val)):=List.mem_map.2 ⟨e,h,rfl⟩;rw[A]at h1;obtain⟨p,hp,q⟩:=List.mem_map.1 h1;simp only[Prod.mk.injEq]at q;exact⟨p,hp,q.1.symm,q.2.symm⟩
theorem Cj{l:List (ByteArray×Value)}{q:Array MapEntry}(z:q.toList.map (λe=>(e.key,e.val))=l.map (λp=>(Yi p.1,p.2))){e:MapEntry}(h:e∈q.toList):e.key=.string (kOf e):=by
 obtain⟨p,_,h1,_⟩:=Fc z h;unfold kOf;rw[h1]
theorem Zbc{l:List (ByteArray×Value)}{h:Array MapEntry}(q:h.toList.map (λe=>(e.key,e.val))=l.map (λp=>(Yi p.1,p.2))):h.toList.map kOf=l.map (·.1):=by
 have h1:=congrArg (List.map (λp:Value×Value=>match p.1 with | .string s=>s|_=>(⟨#[]⟩:ByteArray))) q;rw[List.map_map,List.map_map]at h1;exact h1
theorem Ma{α β:Type}(f:α->β):∀ {l:List α},(l.map f).Nodup->l.Nodup
 | [],_=>List.nodup_nil
 | a::l,h=>by
  rw[List.map_cons,List.nodup_cons]at h;exact List.nodup_cons.2 ⟨λe=>h.1 (List.mem_map.2 ⟨a,e,rfl⟩),Ma f h.2⟩
theorem Zii{z:Array MapEntry}{A:Nat}(G:Stamped z A){q:List MapEntry}(J:∀ e∈q,e∈z.toList)(L:q.Nodup)(V:(leftOf z (q.map (·.born)).toArray).size=0):q.Perm z.toList:=by
 have U:(z.toList.map (·.born)).Nodup:=G.2.1;have M:z.toList.Nodup:=Ma _ U;refine (List.perm_ext_iff_of_nodup L M).2 λe=>⟨J e,λh=>?_⟩
 cases K:(q.map (·.born)).toArray.contains e.born with
 | true =>
  obtain⟨X,I,W⟩:=List.mem_map.1 (show e.born∈q.map (·.born) by simpa using K);rwa[<- Lh G (J X I) h W]
 | false =>
  have:e∈leftOf z (q.map (·.born)).toArray:=Array.mem_filter.2 ⟨by simpa using h,by rw[K];rfl⟩;rw[Array.eq_empty_of_size_eq_zero V]at this;simp at this
theorem Zde{z:Array MapEntry}{q:List MapEntry}{e:MapEntry}(h:e∈(leftOf z (q.map (·.born)).toArray).toList):e∈z.toList/\e ∉ q:=by
 obtain⟨h1,h2⟩:=mem_left h;refine⟨h1,λhl=>?_⟩;have:(q.map (·.born)).toArray.contains e.born=true:=by simpa using ⟨e,hl,rfl⟩
 rw[this]at h2;cases h2
end Go.Proofs.YtlfoalomaofejaaGreatDoor
