/- impl.ContentsBytes. -/
import Derived.Test.YtlfoalomaofejaaGreatDoorM48
import Derived.Test.YtlfoalomaofejaaGreatDoorM2
set_option linter.all false
section
namespace Go.Proofs.YtlfoalomaofejaaGreatDoor
open Go.RowKit DT SP
def Zo1(xs:List ByteArray):List UInt8:=Lib.join (xs.map (·.data.toList)) [7]
structure RowsFit(ls:List (List ByteArray)):Prop where
 two:2<=ls.length
 few:ls.length<=1000
 some:∀ xs∈ls,xs≠[]/\(Zo1 xs).length<=100000/\xs.length<=100000
end Go.Proofs.YtlfoalomaofejaaGreatDoor
end
section
namespace Go.Proofs.YtlfoalomaofejaaGreatDoor
open Go.RowKit DT SP
theorem Zny{B b:Nat}{l:List UInt8}{w:World}(h:V9 B b l w):Calls Tryz.prog 49 #[.pointer (some ⟨b,0,none⟩)] w λe w'=>e=.returned (.int .i64 (l.length:Int))/\∃ n,w'=w.drewN n:=by
 have:=Any.Buffer_Len laysBLen B b (Zp l) w h;rwa[show (Zp l).length=l.length from List.length_map ..]at this
theorem Zkm{B b:Nat}{l:List UInt8}{w:World}(h:V9 B b l w):Calls Tryz.prog 52 #[.pointer (some ⟨b,0,none⟩)] w λe w'=>∃ v,e=.returned v/\w'.ownsRow B 5 1 v l.length (Zp l)/\∃ n,w'=w.drewN n:=by
 have:=Any.Buffer_Bytes laysBBytes B b (Zp l) w h;rwa[show (Zp l).length=l.length from List.length_map ..]at this
end Go.Proofs.YtlfoalomaofejaaGreatDoor
end
