/- The words of this seat's proof -/
import Derived.Test.YtlfoalomaofejaaGreatDoorProg
import Derived.WalkKit
import Derived.Deep.QuietTactic
import Derived.BigQuiet
import Derived.StillTailTactics
import Derived.Outline
import Derived.WalkSpells
import Derived.WalkLawsBesides
import Derived.Deep.LoopGhost
import Derived.Deep.DeepFit
import Derived.Deep.DeepMust
import Derived.Lib.Hide
import Derived.Deep.Slices
import Derived.ChangeMaps5
import Derived.OpenShut
import Derived.Lib.SmallJoins
import Derived.Sort.LotA
import Derived.Shelf.Unicode.DecodeLast
import Derived.Shelf.Unicode.DecodeAny
import Derived.Shelf.Unicode.ValidAny
import Derived.Shelf.Small.Utf8
import Derived.Shelf.Utf8.RuneCount
import Derived.Shelf.Small.Strs
import Derived.Shelf.SlSorted.IsSorted
import Derived.Shelf.SlSortCmp.KitK
import Derived.Laws.AppendOwn
set_option linter.all false
set_option maxRecDepth 100000
set_option maxHeartbeats 1000000
theorem Om{p:Prop}(h:p:=by omega):p:=h
theorem Kr{p:Prop}(h:p:=by kernel_rfl):p:=h
theorem Rf{p:Prop}(h:p:=by rfl):p:=h
theorem Hd{p:Prop}(h:p):Go.RowKit.Hid p:=h
theorem Ai1{a b:Prop}(h:a)(k:b):a∧b:=⟨h,k⟩
theorem Nl(n:Nat):n<=n:=Nat.le_refl n
theorem Nt{a b c:Nat}(h:a<=b)(k:b<=c):a<=c:=Nat.le_trans h k
theorem Ge{α:Type _}{l:List α}{i:Nat}(h:i<l.length):l[i]?=some l[i]:=List.getElem?_eq_getElem h
theorem Gs1{α:Type _}{i:Nat}{b:α}{xs:Array α}:xs[i]?=some b↔∃ h:i<xs.size,xs[i]=b:=Array.getElem?_eq_some_iff
theorem Gl{α:Type _}{i:Nat}{b:α}{l:List α}:l[i]?=some b↔∃ h:i<l.length,l[i]=b:=List.getElem?_eq_some_iff
theorem Sa{α:Type _}(l:List α)(i:Nat)(a:α):l.toArray.setIfInBounds i a=(l.set i a).toArray:=List.setIfInBounds_toArray ..
theorem Sb1{α:Type _}{x:α}{xs:List α}{a:α}:(x::xs).set 0 a=a::xs:=rfl
theorem Sc{α:Type _}{x:α}{xs:List α}{i:Nat}{a:α}:(x::xs).set (i+1) a=x::xs.set i a:=rfl
namespace Go.Proofs.YtlfoalomaofejaaGreatDoor
section
open Go.RowKit
structure Fr(S:Nat->Prop)(w w':World):Prop where
 os:w'.os=w.os
 tape:w'.tape=w.tape
 output:w'.output=w.output
 size:w.heap.size<=w'.heap.size
 block:∀ k,k<w.heap.size->¬ S k->w'.heap[k]?=w.heap[k]?
abbrev Zf(w w':World):Prop:=Fr (λ_=>False) w w'
section
variable{S S':Nat->Prop}{w w1 w2:World}
theorem Fr.refl(S:Nat->Prop)(w:World):Fr S w w:=⟨rfl,rfl,rfl,Nl _,λ_ _ _=>rfl⟩
theorem Fl{S:Nat->Prop}(w:World):Fr S w w:=Fr.refl S w
theorem Fe(w:World):Zf w w:=Fr.refl _ w
theorem Fr.trans(h:Fr S w w1)(k:Fr S' w1 w2)(G:∀ j,j<w.heap.size->S' j->S j):Fr S w w2 :=
 ⟨k.os.trans h.os,k.tape.trans h.tape,k.output.trans h.output,Nt h.size k.size,λj q z =>
  (k.block j (Nat.lt_of_lt_of_le q h.size) (λe=>z (G j q e))).trans (h.block j q z)⟩
theorem Fr.then(h:Fr S w w1)(k:Fr S w1 w2):Fr S w w2:=h.trans k (λ_ _ e=>e)
theorem Fr.ext(h:Fr S w w1)(k:Zf w1 w2):Fr S w w2:=h.trans k (λ_ _ e=>e.elim)
theorem Fr.mono(h:Fr S w w1)(z:∀ j,j<w.heap.size->S j->S' j):Fr S' w w1:=⟨h.os,h.tape,h.output,h.size,λj q G=>h.block j q (λe=>G (z j q e))⟩
theorem Fr.drew(h:Fr S w w1):Fr S w w1.drew:=⟨h.os,h.tape,h.output,h.size,h.block⟩
theorem Fr.drewN(h:Fr S w w1)(n:Nat):Fr S w (w1.drewN n):=⟨h.os,h.tape,h.output,h.size,h.block⟩
theorem Fr.alloc(h:Fr S w w1)(o:Obj):Fr S w (w1.alloc o) :=
 ⟨h.os,h.tape,h.output,by have:=h.size;simp;omega,λj q z=>by
  rw[<- h.block j q z];exact Below.heap_alloc w1 o j (Nat.lt_of_lt_of_le q h.size)⟩
theorem Fr.setCell(h:Fr S w w1)(a:Addr)(v:Value)(G:a.block<w.heap.size->S a.block):Fr S w (w1.setCell a v) :=
 ⟨h.os,h.tape,h.output,by have:=h.size;simp[World.setCell];omega,λj z q=>by
  rw[<- h.block j z q];exact Below.heap_setCell w1 a v j (λe=>q (e▸G (e▸z)))⟩
theorem Fr.setRow(h:Fr S w w1)(g:Nat)(cs:Array Value)(G:g<w.heap.size->S g):Fr S w (w1.setRow g cs) :=
 ⟨h.os,h.tape,h.output,by have:=h.size;simp[World.setRow];omega,λj z q=>by
  rw[<- h.block j z q];simp only[World.setRow,Array.getElem?_modify]
  rw[if_neg (λe:g=j=>q (e▸G (e▸z)))]⟩
theorem Fr.grown{row:Option Nat}(h:Fr S w w1)(g:w1.grownBy w2 row)(G:∀ k,row=some k->k<w.heap.size->S k):Fr S w w2 :=
 ⟨g.os.trans h.os,g.tape.trans h.tape,g.output.trans h.output,Nt h.size g.size,λj q z =>
  (g.block j (Nat.lt_of_lt_of_le q h.size) (λe=>z (G j e.symm q))).trans (h.block j q z)⟩
theorem Fr.of_below(h:Below w.heap.size w w1):Zf w w1:=⟨h.os,h.tape,h.output,h.size,λj q _=>h.block j q⟩
theorem Fr.below(h:Zf w w1):Below w.heap.size w w1:=⟨h.os,h.tape,h.output,h.size,λj q=>h.block j q id⟩
theorem alloc_at(w:World)(o:Obj):(w.alloc o).heap[w.heap.size]?=some o:=by
 show (w.heap.push o)[w.heap.size]?=_;simp
theorem alloc_at'(w:World)(o:Obj){k:Nat}(h:k=w.heap.size):(w.alloc o).heap[k]?=some o:=by rw[h];exact alloc_at w o
theorem alloc_old(w:World)(o:Obj){k:Nat}(h:k<w.heap.size):(w.alloc o).heap[k]?=w.heap[k]?:=Below.heap_alloc w o k h
theorem Za(w:World)(o:Obj):(w.alloc o).heap.size=w.heap.size+1:=by simp
theorem lt_of_cell{w:World}{a:Addr}{v:Value}(h:w.cell? a=some v):a.block<w.heap.size:=World.block_lt_of_cell? w a h
theorem Fr.cell(h:Fr S w w1){a:Addr}{v:Value}(q:w.cell? a=some v)(z:¬ S a.block):w1.cell? a=some v:=by
 rw[<- q];exact World.cell?_of_block (h.block _ (lt_of_cell q) z)
theorem Fr.frozen(h:Fr S w w1){a:Addr}{v:Value}(z:w.cell? a=some v)(q:¬ S a.block):w1.frozen? a=w.frozen? a :=
 World.frozen?_of_block (h.block _ (lt_of_cell z) q)
theorem Fr.heap{o:Obj}(h:Fr S w w1){k:Nat}(q:w.heap[k]?=some o)(z:¬ S k):w1.heap[k]?=some o:=by
 rw[<- q];exact h.block _ (Gs1.1 q).1 z
end
theorem Ul{P:Program}{id:Nat}{Q:Exit->Act->World->Prop}{a:Act}{w:World}{l:List Oper}(n:Nat)(q:P.follows .mixedOrders=true)(hB:Region.lexTailB .any l.toArray n=true)
  (h:wpStill P l.toArray w.drew (λz=>wpList P l.toArray Q (l.drop n) z w.drew) (l.take n) a):(Code.region id l.toArray true).wp P Q a w:=wp_region_still_tail n q hB h
end
section
open Go.RowKit
namespace DT
structure Ty(α:Type) where
 sz:Nat
 R:World->(Nat->Prop)->α->List Value->Prop
 len:∀ {w O x cs},R w O x cs->cs.length=sz
 one:∀ {w O x cs},R w O x cs->∀ u∈cs,u.oneCell'=true
 mono:∀ {w:World} {O O':Nat->Prop} {x cs},(∀ k,k<w.heap.size->O k->O' k)->R w O x cs->R w O' x cs
 move:∀ {w w':World} {O:Nat->Prop} {x cs},w.heap.size<=w'.heap.size->(∀ k,k<w.heap.size->O k->w'.heap[k]?=w.heap[k]?)->R w O x cs->R w' O x cs
theorem Ty.keep{α:Type}(d:Ty α){S O:Nat->Prop}{w w':World}{x:α}{cs:List Value}(h:d.R w O x cs)(f:Fr S w w')(z:∀ k,k<w.heap.size->O k->¬ S k):d.R w' O x cs :=
 d.move f.size (λk q G=>f.block k q (z k q G)) h
theorem Ty.ext{α:Type}(d:Ty α){O:Nat->Prop}{w w':World}{x:α}{cs:List Value}(h:d.R w O x cs)(f:Zf w w'):d.R w' O x cs:=d.keep h f (λ_ _ _=>id)
namespace Ty
def scalar{α:Type}(enc:α->Value)(p:α->Prop)(h1:∀ x,(enc x).oneCell'=true):Ty α where
 sz:=1
 R:=λ_ _ x cs=>cs=[enc x]/\p x
 len:=λh=>by rw[h.1];rfl
 one:=λh u q=>by rw[h.1]at q;rw[List.mem_singleton.1 q];exact h1 _
 mono:=λ_ h=>h
 move:=λ_ _ h=>h
abbrev int:Ty Int:=scalar (Value.int .i64) (λx=>-9223372036854775808<=x/\x<=9223372036854775807) (λ_=>rfl)
abbrev bool:Ty Bool:=scalar Value.bool (λ_=>True) (λ_=>rfl)
abbrev str:Ty ByteArray:=scalar Value.string (λx=>x.size<=9223372036854775807) (λ_=>rfl)
def At{α:Type}(d:Ty α)(w:World)(O:Nat->Prop)(A:Option Addr)(xs:List α):Prop :=
 xs.length<=9223372036854775807/\(xs=[]\/∃ b o,A=some ⟨b,o,none⟩/\O b/\b<w.heap.size /\
  ∀ i (h:i<xs.length),∃ cs,d.R w O xs[i] cs/\∀ j (q:j<cs.length),w.cell? ⟨b,o+i*d.sz+j,none⟩=some cs[j])
def slice{α:Type}(d:Ty α):Ty (List α) where
 sz:=1
 R:=λw O xs cs=>∃ A c,cs=[.slice A xs.length c]/\xs.length<=c/\(A=none->c=0)/\At d w O A xs
 len:=by rintro w O x cs ⟨A,c,rfl,_⟩;rfl
 one:=by
  rintro w O x cs ⟨A,c,rfl,_⟩ u U;rw[List.mem_singleton.1 U];rfl
 mono:=by
  rintro w O O' x cs h ⟨A,c,rfl,K,h2,I,h1⟩;refine⟨A,c,rfl,K,h2,I,h1.imp id ?_⟩;rintro⟨b,o,e,z,hl,J⟩;refine⟨b,o,e,h b hl z,hl,λi hi=>?_⟩;obtain⟨cs,G,q⟩:=J i hi;exact⟨cs,d.mono h G,q⟩
 move:=by
  rintro w w' O x cs M h ⟨A,c,rfl,K,h2,I,h1⟩;refine⟨A,c,rfl,K,h2,I,h1.imp id ?_⟩;rintro⟨b,o,e,z,hl,J⟩;refine⟨b,o,e,z,Nat.lt_of_lt_of_le hl M,λi hi=>?_⟩;obtain⟨cs,G,q⟩:=J i hi;exact⟨cs,d.move M h G,λj V=>by rw[<- q j V];exact World.cell?_of_block (h b hl z)⟩
def pair{α β:Type}(a:Ty α)(b:Ty β):Ty (α×β) where
 sz:=a.sz+b.sz
 R:=λw O x cs=>∃ z q,cs=z++q/\a.R w O x.1 z/\b.R w O x.2 q
 len:=by
  rintro w O x cs ⟨z,q,rfl,G,h1⟩;rw[List.length_append,a.len G,b.len h1]
 one:=by
  rintro w O x cs ⟨z,q,rfl,G,h1⟩ u I;rcases List.mem_append.1 I with I|I
  ·exact a.one G u I
  ·exact b.one h1 u I
 mono:=by
  rintro w O O' x cs h ⟨z,q,rfl,G,h1⟩;exact⟨z,q,rfl,a.mono h G,b.mono h h1⟩
 move:=by
  rintro w w' O x cs J h ⟨z,q,rfl,G,h1⟩;exact⟨z,q,rfl,a.move J h G,b.move J h h1⟩
def iso{α β:Type}(d:Ty α)(f:β->α):Ty β where
 sz:=d.sz
 R:=λw O x cs=>d.R w O (f x) cs
 len:=d.len
 one:=d.one
 mono:=d.mono
 move:=d.move
end Ty
abbrev strs:Ty (List ByteArray):=Ty.slice Ty.str
structure GWord where
 surface:ByteArray
 left:Int
 right:Int
 weight:Int
 pos:List ByteArray
 contents:List ByteArray
structure Tr where
 name:ByteArray
 invoke:Bool
 group:Bool
structure Qv where
 lo:Int
 hi:Int
 cls:Int
structure GUnk where
 cls:Int
 left:Int
 right:Int
 weight:Int
 contents:List ByteArray
structure GMark where
 name:ByteArray
 place:Int
structure GRec where
 text:ByteArray
 tokens:List ByteArray
 yomi:List ByteArray
 pos:ByteArray
structure Zg where
 words:List GWord
 rows:Int
 cols:Int
 costs:List Int
 classes:List Tr
 chars:List Qv
 unknown:List GUnk
 meta0:List GMark
 unkMeta:List GMark
 hasUser:Bool
 user:List GRec
instance:Inhabited GWord:=⟨⟨.empty,0,0,0,[],[]⟩⟩
instance:Inhabited GUnk:=⟨⟨0,0,0,0,[]⟩⟩
instance:Inhabited GRec:=⟨⟨.empty,[],[],.empty⟩⟩
def tWord:Ty GWord:=.iso (.pair .str (.pair .int (.pair .int (.pair .int (.pair strs strs))))) (λx=>(x.surface,x.left,x.right,x.weight,x.pos,x.contents))
def tClass:Ty Tr:=.iso (.pair .str (.pair .bool .bool)) (λx=>(x.name,x.invoke,x.group))
def tChars:Ty Qv:=.iso (.pair .int (.pair .int .int)) (λx=>(x.lo,x.hi,x.cls))
def tUnk:Ty GUnk:=.iso (.pair .int (.pair .int (.pair .int (.pair .int strs)))) (λx=>(x.cls,x.left,x.right,x.weight,x.contents))
def tMark:Ty GMark:=.iso (.pair .str .int) (λx=>(x.name,x.place))
def tRec:Ty GRec:=.iso (.pair .str (.pair strs (.pair strs .str))) (λx=>(x.text,x.tokens,x.yomi,x.pos))
def tDict:Ty Zg:=.iso (.pair (.slice tWord) (.pair .int (.pair .int (.pair (.slice .int) (.pair (.slice tClass) (.pair (.slice tChars) (.pair (.slice tUnk) (.pair (.slice tMark) (.pair (.slice tMark) (.pair .bool (.slice tRec)))))))))))
 (λd=>(d.words,d.rows,d.cols,d.costs,d.classes,d.chars,d.unknown,d.meta0,d.unkMeta,d.hasUser,d.user))
theorem Gw{w:World}{O:Nat->Prop}{x:List ByteArray}{cs:List Value}(h:strs.R w O x cs):∃ v,cs=[v]:=by
 obtain⟨A,c,rfl,_⟩:=h;exact⟨_,rfl⟩
theorem Ti{w:World}{O:Nat->Prop}{x:GWord}{cs:List Value}(h:tWord.R w O x cs) :
  ∃ p q,cs=[.string x.surface,.int .i64 x.left,.int .i64 x.right,.int .i64 x.weight,p,q]/\strs.R w O x.pos [p]/\strs.R w O x.contents [q]/\x.surface.size<=9223372036854775807:=by
 obtain⟨_,_,rfl,⟨rfl,z⟩,_,_,rfl,⟨rfl,_⟩,_,_,rfl,⟨rfl,_⟩,_,_,rfl,⟨rfl,_⟩,_,_,rfl,⟨A,c,rfl,h1⟩,⟨G,c',rfl,h2⟩⟩:=h;exact⟨_,_,rfl,⟨A,c,rfl,h1⟩,⟨G,c',rfl,h2⟩,z⟩
theorem Ph{w:World}{O:Nat->Prop}{x:Tr}{cs:List Value}(h:tClass.R w O x cs):cs=[.string x.name,.bool x.invoke,.bool x.group]:=by
 obtain⟨_,_,rfl,⟨rfl,_⟩,_,_,rfl,⟨rfl,_⟩,⟨rfl,_⟩⟩:=h;rfl
theorem Ah{w:World}{O:Nat->Prop}{x:Qv}{cs:List Value}(h:tChars.R w O x cs):cs=[.int .i64 x.lo,.int .i64 x.hi,.int .i64 x.cls]:=by
 obtain⟨_,_,rfl,⟨rfl,_⟩,_,_,rfl,⟨rfl,_⟩,⟨rfl,_⟩⟩:=h;rfl
theorem Si{w:World}{O:Nat->Prop}{x:GUnk}{cs:List Value}(h:tUnk.R w O x cs) :
  ∃ q,cs=[.int .i64 x.cls,.int .i64 x.left,.int .i64 x.right,.int .i64 x.weight,q]/\strs.R w O x.contents [q]:=by
 obtain⟨_,_,rfl,⟨rfl,_⟩,_,_,rfl,⟨rfl,_⟩,_,_,rfl,⟨rfl,_⟩,_,_,rfl,⟨rfl,_⟩,⟨A,c,rfl,h1⟩⟩:=h;exact⟨_,rfl,⟨A,c,rfl,h1⟩⟩
theorem Oz{w:World}{O:Nat->Prop}{x:GMark}{cs:List Value}(h:tMark.R w O x cs):cs=[.string x.name,.int .i64 x.place]/\x.name.size<=9223372036854775807 /\ -9223372036854775808<=x.place/\x.place<=9223372036854775807:=by
 obtain⟨_,_,rfl,⟨rfl,q⟩,⟨rfl,h1,h2⟩⟩:=h;exact⟨rfl,q,h1,h2⟩
theorem P4{w:World}{O:Nat->Prop}{x:GRec}{cs:List Value}(h:tRec.R w O x cs) :
  ∃ p q,cs=[.string x.text,p,q,.string x.pos]/\strs.R w O x.tokens [p]/\strs.R w O x.yomi [q]/\x.text.size<=9223372036854775807/\x.pos.size<=9223372036854775807:=by
 obtain⟨_,_,rfl,⟨rfl,z⟩,_,_,rfl,⟨A,c,rfl,h1⟩,_,_,rfl,⟨G,c',rfl,h2⟩,⟨rfl,h3⟩⟩:=h;exact⟨_,_,rfl,⟨A,c,rfl,h1⟩,⟨G,c',rfl,h2⟩,z,h3⟩
theorem Y4{w:World}{O:Nat->Prop}{d:Zg}{cs:List Value}(h:tDict.R w O d cs) :
  ∃ A1 U A2 M A3 K Z J Y I X G W z V q,cs=[.slice A1 d.words.length U,.int .i64 d.rows,.int .i64 d.cols,.slice A2 d.costs.length M,.slice A3 d.classes.length K,.slice Z d.chars.length J,.slice Y d.unknown.length I,.slice X d.meta0.length G,.slice W d.unkMeta.length z,.bool d.hasUser,.slice V d.user.length q] /\
   (d.words.length<=U/\(A1=none->U=0)/\tWord.At w O A1 d.words)/\(d.costs.length<=M/\(A2=none->M=0)/\Ty.int.At w O A2 d.costs)/\(d.classes.length<=K/\(A3=none->K=0)/\tClass.At w O A3 d.classes)/\(d.chars.length<=J/\(Z=none->J=0)/\tChars.At w O Z d.chars) /\
   (d.unknown.length<=I/\(Y=none->I=0)/\tUnk.At w O Y d.unknown)/\(d.meta0.length<=G/\(X=none->G=0)/\tMark.At w O X d.meta0)/\(d.unkMeta.length<=z/\(W=none->z=0)/\tMark.At w O W d.unkMeta)/\(d.user.length<=q/\(V=none->q=0)/\tRec.At w O V d.user) /\
   (-9223372036854775808<=d.rows/\d.rows<=9223372036854775807)/\(-9223372036854775808<=d.cols/\d.cols<=9223372036854775807):=by
 obtain⟨_,_,rfl,⟨A1,U,rfl,h1⟩,_,_,rfl,⟨rfl,hr⟩,_,_,rfl,⟨rfl,hc⟩,_,_,rfl,⟨A2,M,rfl,h2⟩,_,_,rfl,⟨A3,K,rfl,h3⟩,_,_,rfl,⟨Z,J,rfl,h4⟩,_,_,rfl,⟨Y,I,rfl,h5⟩,_,_,rfl,⟨X,G,rfl,h6⟩,_,_,rfl,⟨W,z,rfl,h7⟩,_,_,rfl,⟨rfl,_⟩,⟨V,q,rfl,h8⟩⟩:=h;exact⟨_,_,_,_,_,_,_,_,_,_,_,_,_,_,_,_,rfl,h1,h2,h3,h4,h5,h6,h7,h8,hr,hc⟩
section
variable{w:World}{O:Nat->Prop}{A:Option Addr}
theorem Zmy{α:Type}{d:Ty α}{xs:List α}{S:Nat->Prop}{w':World}(h:d.At w O A xs)(f:Fr S w w')(z:∀ k,k<w.heap.size->O k->¬ S k):d.At w' O A xs:=by
 refine⟨h.1,h.2.imp id ?_⟩;rintro⟨b,o,e,G,hl,K⟩;refine⟨b,o,e,G,Nat.lt_of_lt_of_le hl f.size,λi hi=>?_⟩;obtain⟨cs,I,q⟩:=K i hi;exact⟨cs,d.keep I f z,λj J=>f.cell (q j J) (z b hl G)⟩
theorem Ya{α:Type}{d:Ty α}{xs:List α}{w':World}(h:d.At w O A xs)(f:Zf w w'):d.At w' O A xs:=Zmy h f (λ_ _ _=>id)
theorem Uk{xs:List ByteArray}(h:Ty.str.At w O A xs)(k:Nat)(z:k<xs.length):∃ b o,A=some ⟨b,o,none⟩/\O b/\b<w.heap.size/\w.cell? ⟨b,o+k,none⟩=some (.string xs[k])/\xs[k].size<=9223372036854775807:=by
 rcases h.2 with rfl|⟨b,o,rfl,I,hl,G⟩
 ·simp at z
 ·obtain⟨cs,⟨rfl,hp⟩,q⟩:=G k z;have J:=q 0 (by simp);have e:o+k*1+0=o+k:=Om
  exact⟨b,o,rfl,I,hl,by rw[<- e];exact J,hp⟩
theorem Zdm{xs:List Int}(h:Ty.int.At w O A xs)(k:Nat)(z:k<xs.length):∃ b o,A=some ⟨b,o,none⟩/\O b/\b<w.heap.size/\w.cell? ⟨b,o+k,none⟩=some (.int .i64 xs[k]) /\ -9223372036854775808<=xs[k]/\xs[k]<=9223372036854775807:=by
 rcases h.2 with rfl|⟨b,o,rfl,I,hl,G⟩
 ·simp at z
 ·obtain⟨cs,⟨rfl,hp⟩,q⟩:=G k z;have J:=q 0 (by simp);have e:o+k*1+0=o+k:=Om
  exact⟨b,o,rfl,I,hl,by rw[<- e];exact J,hp⟩
theorem Ji{xs:List GWord}(h:tWord.At w O A xs)(k:Nat)(G:k<xs.length):∃ b o p q,A=some ⟨b,o,none⟩/\O b/\b<w.heap.size/\strs.R w O xs[k].pos [p]/\strs.R w O xs[k].contents [q]/\xs[k].surface.size<=9223372036854775807 /\
  w.cell? ⟨b,o+k*6,none⟩=some (.string xs[k].surface)/\w.cell? ⟨b,o+k*6+1,none⟩=some (.int .i64 xs[k].left)/\w.cell? ⟨b,o+k*6+2,none⟩=some (.int .i64 xs[k].right) /\
  w.cell? ⟨b,o+k*6+3,none⟩=some (.int .i64 xs[k].weight)/\w.cell? ⟨b,o+k*6+4,none⟩=some p/\w.cell? ⟨b,o+k*6+5,none⟩=some q:=by
 rcases h.2 with rfl|⟨b,o,rfl,K,hl,J⟩
 ·simp at G
 ·obtain⟨cs,I,z⟩:=J k G;obtain⟨p,q,rfl,h1,h2,h3⟩:=Ti I;exact⟨b,o,p,q,rfl,K,hl,h1,h2,h3,z 0 (by simp),z 1 (by simp),z 2 (by simp),z 3 (by simp),z 4 (by simp),z 5 (by simp)⟩
theorem Zkk{xs:List Tr}(h:tClass.At w O A xs)(k:Nat)(z:k<xs.length):∃ b o,A=some ⟨b,o,none⟩/\O b/\b<w.heap.size /\
  w.cell? ⟨b,o+k*3,none⟩=some (.string xs[k].name)/\w.cell? ⟨b,o+k*3+1,none⟩=some (.bool xs[k].invoke)/\w.cell? ⟨b,o+k*3+2,none⟩=some (.bool xs[k].group):=by
 rcases h.2 with rfl|⟨b,o,rfl,J,hl,I⟩
 ·simp at z
 ·obtain⟨cs,G,q⟩:=I k z;cases Ph G;exact⟨b,o,rfl,J,hl,q 0 (by simp),q 1 (by simp),q 2 (by simp)⟩
theorem Zb1{xs:List Qv}(h:tChars.At w O A xs)(k:Nat)(z:k<xs.length):∃ b o,A=some ⟨b,o,none⟩/\O b/\b<w.heap.size /\
  w.cell? ⟨b,o+k*3,none⟩=some (.int .i64 xs[k].lo)/\w.cell? ⟨b,o+k*3+1,none⟩=some (.int .i64 xs[k].hi)/\w.cell? ⟨b,o+k*3+2,none⟩=some (.int .i64 xs[k].cls):=by
 rcases h.2 with rfl|⟨b,o,rfl,J,hl,I⟩
 ·simp at z
 ·obtain⟨cs,G,q⟩:=I k z;cases Ah G;exact⟨b,o,rfl,J,hl,q 0 (by simp),q 1 (by simp),q 2 (by simp)⟩
theorem Zh0{xs:List GUnk}(h:tUnk.At w O A xs)(k:Nat)(G:k<xs.length):∃ b o q,A=some ⟨b,o,none⟩/\O b/\b<w.heap.size/\strs.R w O xs[k].contents [q] /\
  w.cell? ⟨b,o+k*5,none⟩=some (.int .i64 xs[k].cls)/\w.cell? ⟨b,o+k*5+1,none⟩=some (.int .i64 xs[k].left)/\w.cell? ⟨b,o+k*5+2,none⟩=some (.int .i64 xs[k].right) /\
  w.cell? ⟨b,o+k*5+3,none⟩=some (.int .i64 xs[k].weight)/\w.cell? ⟨b,o+k*5+4,none⟩=some q:=by
 rcases h.2 with rfl|⟨b,o,rfl,K,hl,J⟩
 ·simp at G
 ·obtain⟨cs,I,z⟩:=J k G;obtain⟨q,rfl,h1⟩:=Si I;exact⟨b,o,q,rfl,K,hl,h1,z 0 (by simp),z 1 (by simp),z 2 (by simp),z 3 (by simp),z 4 (by simp)⟩
theorem Rn{xs:List GMark}(h:tMark.At w O A xs)(k:Nat)(z:k<xs.length):∃ b o,A=some ⟨b,o,none⟩/\O b/\b<w.heap.size /\
  w.cell? ⟨b,o+k*2,none⟩=some (.string xs[k].name)/\w.cell? ⟨b,o+k*2+1,none⟩=some (.int .i64 xs[k].place) /\ -9223372036854775808<=xs[k].place/\xs[k].place<=9223372036854775807:=by
 rcases h.2 with rfl|⟨b,o,rfl,J,hl,I⟩
 ·simp at z
 ·obtain⟨cs,G,q⟩:=I k z;obtain⟨rfl,K,h1,h2⟩:=Oz G;exact⟨b,o,rfl,J,hl,q 0 (by simp),q 1 (by simp),h1,h2⟩
theorem Dq{xs:List GRec}(h:tRec.At w O A xs)(k:Nat)(G:k<xs.length):∃ b o p q,A=some ⟨b,o,none⟩/\O b/\b<w.heap.size/\strs.R w O xs[k].tokens [p]/\strs.R w O xs[k].yomi [q]/\xs[k].text.size<=9223372036854775807/\xs[k].pos.size<=9223372036854775807 /\
  w.cell? ⟨b,o+k*4,none⟩=some (.string xs[k].text)/\w.cell? ⟨b,o+k*4+1,none⟩=some p/\w.cell? ⟨b,o+k*4+2,none⟩=some q/\w.cell? ⟨b,o+k*4+3,none⟩=some (.string xs[k].pos):=by
 rcases h.2 with rfl|⟨b,o,rfl,K,hl,J⟩
 ·simp at G
 ·obtain⟨cs,I,z⟩:=J k G;obtain⟨p,q,rfl,h1,h2,h3,h4⟩:=P4 I;exact⟨b,o,p,q,rfl,K,hl,h1,h2,h3,h4,z 0 (by simp),z 1 (by simp),z 2 (by simp),z 3 (by simp)⟩
end
end DT
end
section
open Go.RowKit DT Go.Deep Go.Lib
def Hn{α:Type}(T:TypeId)(D:Ty α):Prop:=∀ {H:Type} (enc:TypeId×Value->H) (w:World) (sp:Nat->Bool) (fuel:Nat) (cs:List Value) (x:DataW H×List MemPlace),DataW.trod enc Tryz.prog w 0 sp true fuel T cs=some x->∃ a,D.R w (λ_=>True) a cs
theorem Ws{T:TypeId}(z:Tryz.prog.underlying T=some (.int .i64)):Hn T Ty.int:=by
 intro H enc w sp fuel cs x h;obtain⟨n,rfl,_,q⟩:=DataW.trod_int z h;exact⟨n,rfl,bounds_i64 q⟩
theorem Jj{T:TypeId}(q:Tryz.prog.underlying T=some .bool):Hn T Ty.bool:=by
 intro H enc w sp fuel cs x h;obtain⟨b,rfl,_⟩:=DataW.trod_bool q h;exact⟨b,rfl,trivial⟩
theorem Ll{T:TypeId}(q:Tryz.prog.underlying T=some .string):Hn T Ty.str:=by
 intro H enc w sp fuel cs x h;obtain⟨s,rfl,_,z⟩:=DataW.trod_string q h;unfold maxLen at z;exact⟨s,rfl,Om⟩
theorem Xt{α:Type}[Inhabited α]{T e:TypeId}{D:Ty α}(ht:Tryz.prog.underlying T=some (.slice e))(hc:Tryz.prog.cellsOf e=D.sz)(hz:0<D.sz)(hd:Hn e D):Hn T (Ty.slice D):=by
 intro H enc w sp fuel cs x h;rcases open_slice ht h with ⟨rfl,_⟩|⟨a,len,cap,m,n,Dd,Pl,rfl,_,hl,hm,K,_,U⟩
 ·exact⟨[],none,0,rfl,Nl _,λ_=>rfl,by simp,.inl rfl⟩
 ·have aa:len<=m:=by rw[K];split<;>omega
  unfold maxLen at hm
  obtain⟨f,X⟩:=choose_lt (α:=α) (n:=len) (p:=λi y=>∃ q,w.cells? 0 (a.add (i*Tryz.prog.cellsOf e)) (Tryz.prog.cellsOf e)=some q/\D.R w (λ_=>True) y q) (λi hi=>by
   obtain⟨q,h1,h2⟩:=U i Om;obtain⟨y,hy⟩:=hd enc w sp n q _ h2
   exact⟨y,q,h1,hy⟩)
  refine⟨(List.range len).map f,some a,cap,by simp,by simpa using hl,(λe=>by cases e),by simp;omega,?_⟩;by_cases h0:len=0
  ·left;subst h0;rfl
  right;obtain⟨b,o,z⟩:=a;obtain⟨W,k1,Z⟩:=X 0 Om;obtain⟨_,k4,Y⟩:=World.cells?_some k1;have ab:=D.len Z;have J:0<W.length:=Om
  have G:=Y 0 Om;rw[Ge J]at G
  have I:z=none:=by
   have:=World.cell?_spot G;simpa [Addr.add] using this
  subst I
  have V:b<w.heap.size:=by
   have:=World.block_lt_of_cell? w _ G;simpa [Addr.add] using this
  refine⟨b,o,rfl,trivial,V,λi hi=>?_⟩;have M:i<len:=by simpa using hi
  obtain⟨q,h1,h2⟩:=X i M;obtain⟨_,h4,h5⟩:=World.cells?_some h1;refine⟨q,by simpa using h2,λj hj=>?_⟩;have:=h5 j Om;rw[Ge hj,hc]at this;rw[<- this];simp only[Go.WideShapes.add_plain]
theorem Zm7{α:Type}{l:List α}(i:Nat)(v:α)(h:l[i]?=some v):(l.drop i).take 1=[v]:=by
 have q:=(Gl.1 h).1;rw[List.drop_eq_getElem_cons q];rw[Ge q]at h;simp[Option.some.inj h]
theorem Sl{T:TypeId}{q:Array Field}(V:Tryz.prog.underlying T=some (.struct q))(z:oneCellFields Tryz.prog q=true)(J:Tryz.prog.cellsOf T=q.size){H:Type}(enc:TypeId×Value->H)(w:World)(sp:Nat->Bool)(fuel:Nat)(cs:List Value)(x:DataW H×List MemPlace)(h:DataW.trod enc Tryz.prog w 0 sp true fuel T cs=some x) :
  cs.length=q.size/\∀ (i:Nat) (f:Field) (v:Value),q[i]?=some f->cs[i]?=some v->∃ n y,DataW.trod enc Tryz.prog w 0 sp true n f.type [v]=some y:=by
 obtain⟨xs,n,rfl,_,hl,M,G⟩:=DataW.trod_struct V h;refine⟨by rw[hl,J],λi f v I U=>?_⟩;obtain⟨o,k⟩:=hone_of z i f I;have h1:=G i f I;have hi:i<q.size:=(Gs1.1 I).1;obtain⟨y,K⟩:∃ y,xs[i]?=some y:=⟨xs[i]' Om,Ge Om⟩;rw[K,o,k]at h1;exact⟨n,y,by rw[<- Zm7 i v U];exact h1⟩
theorem Zjg{α:Type}{l:List α}(h:l.length=2):∃ a b,l=[a,b]:=by
 match l,h with
 | [a,b],_=>exact⟨a,b,rfl⟩
theorem Zm6{α:Type}{l:List α}(h:l.length=3):∃ a b c,l=[a,b,c]:=by
 match l,h with
 | [a,b,c],_=>exact⟨a,b,c,rfl⟩
theorem Zm5{α:Type}{l:List α}(h:l.length=4):∃ a b c d,l=[a,b,c,d]:=by
 match l,h with
 | [a,b,c,d],_=>exact⟨a,b,c,d,rfl⟩
theorem Zol{α:Type}{l:List α}(h:l.length=5):∃ a b c d e,l=[a,b,c,d,e]:=by
 match l,h with
 | [a,b,c,d,e],_=>exact⟨a,b,c,d,e,rfl⟩
theorem Zok{α:Type}{l:List α}(h:l.length=6):∃ a b c d e f,l=[a,b,c,d,e,f]:=by
 match l,h with
 | [a,b,c,d,e,f],_=>exact⟨a,b,c,d,e,f,rfl⟩
theorem Cg{α:Type}{l:List α}(h:l.length=11):∃ a b c d e f g i j k m,l=[a,b,c,d,e,f,g,i,j,k,m]:=by
 match l,h with
 | [a,b,c,d,e,f,g,i,j,k,m],_=>exact⟨a,b,c,d,e,f,g,i,j,k,m,rfl⟩
theorem Ds:Hn 34 strs:=Xt Tryz.underlying34 Kr (by decide) (Ll Tryz.underlying9)
theorem Zeq:Hn 53 tWord:=by
 intro H enc w sp fuel cs x h;obtain⟨hl,q⟩:=Sl Tryz.underlying53 Kr Kr enc w sp fuel cs x h;obtain⟨v0,z,v2,v3,v4,v5,rfl⟩:=Zok hl;obtain⟨_,_,W⟩:=q 0 _ _ rfl rfl;obtain⟨_,_,h1⟩:=q 1 _ _ rfl rfl;obtain⟨_,_,h2⟩:=q 2 _ _ rfl rfl;obtain⟨_,_,h3⟩:=q 3 _ _ rfl rfl;obtain⟨_,_,h4⟩:=q 4 _ _ rfl rfl;obtain⟨_,_,V⟩:=q 5 _ _ rfl rfl;obtain⟨a0,U⟩:=Ll Tryz.underlying9 enc w sp _ _ _ W;obtain⟨X,M⟩:=Ws Tryz.underlying3 enc w sp _ _ _ h1;obtain⟨a2,K⟩:=Ws Tryz.underlying3 enc w sp _ _ _ h2;obtain⟨a3,J⟩:=Ws Tryz.underlying3 enc w sp _ _ _ h3;obtain⟨a4,I⟩:=Ds enc w sp _ _ _ h4;obtain⟨a5,G⟩:=Ds enc w sp _ _ _ V;exact⟨⟨a0,X,a2,a3,a4,a5⟩,[v0],_,rfl,U,[z],_,rfl,M,[v2],_,rfl,K,[v3],_,rfl,J,[v4],[v5],rfl,I,G⟩
theorem Zam:Hn 166 tClass:=by
 intro H enc w sp fuel cs x h;obtain⟨hl,q⟩:=Sl Tryz.underlying166 Kr Kr enc w sp fuel cs x h;obtain⟨v0,z,v2,rfl⟩:=Zm6 hl;obtain⟨_,_,K⟩:=q 0 _ _ rfl rfl;obtain⟨_,_,h1⟩:=q 1 _ _ rfl rfl;obtain⟨_,_,h2⟩:=q 2 _ _ rfl rfl;obtain⟨a0,J⟩:=Ll Tryz.underlying9 enc w sp _ _ _ K;obtain⟨M,I⟩:=Jj Tryz.underlying4 enc w sp _ _ _ h1;obtain⟨a2,G⟩:=Jj Tryz.underlying4 enc w sp _ _ _ h2;exact⟨⟨a0,M,a2⟩,[v0],_,rfl,J,[z],[v2],rfl,I,G⟩
theorem Zan:Hn 121 tChars:=by
 intro H enc w sp fuel cs x h;obtain⟨hl,q⟩:=Sl Tryz.underlying121 Kr Kr enc w sp fuel cs x h;obtain⟨v0,z,v2,rfl⟩:=Zm6 hl;obtain⟨_,_,K⟩:=q 0 _ _ rfl rfl;obtain⟨_,_,h1⟩:=q 1 _ _ rfl rfl;obtain⟨_,_,h2⟩:=q 2 _ _ rfl rfl;obtain⟨a0,J⟩:=Ws Tryz.underlying3 enc w sp _ _ _ K;obtain⟨M,I⟩:=Ws Tryz.underlying3 enc w sp _ _ _ h1;obtain⟨a2,G⟩:=Ws Tryz.underlying3 enc w sp _ _ _ h2;exact⟨⟨a0,M,a2⟩,[v0],_,rfl,J,[z],[v2],rfl,I,G⟩
theorem Ziy:Hn 36 tUnk:=by
 intro H enc w sp fuel cs x h;obtain⟨hl,q⟩:=Sl Tryz.underlying36 Kr Kr enc w sp fuel cs x h;obtain⟨v0,z,v2,v3,v4,rfl⟩:=Zol hl;obtain⟨_,_,U⟩:=q 0 _ _ rfl rfl;obtain⟨_,_,h1⟩:=q 1 _ _ rfl rfl;obtain⟨_,_,h2⟩:=q 2 _ _ rfl rfl;obtain⟨_,_,h3⟩:=q 3 _ _ rfl rfl;obtain⟨_,_,h4⟩:=q 4 _ _ rfl rfl;obtain⟨a0,M⟩:=Ws Tryz.underlying3 enc w sp _ _ _ U;obtain⟨V,K⟩:=Ws Tryz.underlying3 enc w sp _ _ _ h1;obtain⟨a2,J⟩:=Ws Tryz.underlying3 enc w sp _ _ _ h2;obtain⟨a3,I⟩:=Ws Tryz.underlying3 enc w sp _ _ _ h3;obtain⟨a4,G⟩:=Ds enc w sp _ _ _ h4;exact⟨⟨a0,V,a2,a3,a4⟩,[v0],_,rfl,M,[z],_,rfl,K,[v2],_,rfl,J,[v3],[v4],rfl,I,G⟩
theorem Dt:Hn 76 tMark:=by
 intro H enc w sp fuel cs x h;obtain⟨hl,q⟩:=Sl Tryz.underlying76 Kr Kr enc w sp fuel cs x h;obtain⟨v0,z,rfl⟩:=Zjg hl;obtain⟨_,_,J⟩:=q 0 _ _ rfl rfl;obtain⟨_,_,h1⟩:=q 1 _ _ rfl rfl;obtain⟨a0,I⟩:=Ll Tryz.underlying9 enc w sp _ _ _ J;obtain⟨K,G⟩:=Ws Tryz.underlying3 enc w sp _ _ _ h1;exact⟨⟨a0,K⟩,[v0],[z],rfl,I,G⟩
instance:Inhabited Tr:=⟨⟨.empty,false,false⟩⟩
instance:Inhabited Qv:=⟨⟨0,0,0⟩⟩
instance:Inhabited GMark:=⟨⟨.empty,0⟩⟩
end
end Go.Proofs.YtlfoalomaofejaaGreatDoor
section
namespace SS
open Go.Sort
variable{α:Type}[Inhabited α]
def Y3(lt:α->α->Bool)(tag:α->Nat)(x y:α):Bool:=lt x y||(!lt y x&&decide (tag x<tag y))
section
variable{lt:α->α->Bool}{tag:α->Nat}
omit [Inhabited α] in
theorem Mf(h:SWO lt):SWO (Y3 lt tag):=by
 have I:∀ x y,lt x y=true->lt y x=false:=λx y=>h.asymmA
 refine⟨λx=>by simp[Y3,h.irrefl],λx y z h1 h2=>?_,λx y z h1 h2=>?_⟩
 ·simp only[Y3,Bool.or_eq_true,Bool.and_eq_true,Bool.not_eq_true',decide_eq_true_eq]at h1 h2⊢;rcases h1 with h1|⟨h1,G⟩<;>rcases h2 with h2|⟨h2,q⟩
  ·exact .inl (h.trans x y z h1 h2)
  ·refine .inl ?_
   cases e:lt x z with
   | true=>rfl
   | false=>have:=h.ntrans x z y e h2;rw[h1]at this;cases this
  ·refine .inl ?_
   cases e:lt x z with
   | true=>rfl
   | false=>have:=h.ntrans y x z h1 e;rw[h2]at this;cases this
  ·exact .inr ⟨h.ntrans z y x h2 h1,Om⟩
 ·simp only[Y3,Bool.or_eq_false_iff,Bool.and_eq_false_iff,Bool.not_eq_false',decide_eq_false_iff_not]at h1 h2⊢;refine⟨h.ntrans x y z h1.1 h2.1,?_⟩;rcases h1.2 with a|a<;>rcases h2.2 with b|b
  ·exact .inl (h.trans z y x b a)
  ·refine .inl ?_
   cases e:lt z x with
   | true=>rfl
   | false=>have:=h.ntrans y z x h2.1 e;rw[a]at this;cases this
  ·refine .inl ?_
   cases e:lt z x with
   | true=>rfl
   | false=>have:=h.ntrans z x y e h1.1;rw[b]at this;cases this
  ·exact .inr Om
omit [Inhabited α] in
theorem Wc{x y:α}(h:tag y<tag x):Y3 lt tag x y=lt x y:=by
 unfold Y3;have:decide (tag x<tag y)=false:=by simp;omega
 rw[this];simp
def Hm(d:Array α)(a b i:Nat)(d':Array α):Prop :=
 d'.size=d.size/\∀ x,d'[x]! = if a<=x/\x<a+i then d[b+(x-a)]! else if b<=x/\x<b+i then d[a+(x-b)]! else d[x]!
theorem Hm.zero(d:Array α)(a b:Nat):Hm d a b 0 d:=⟨rfl,λx=>by rw[if_neg Om,if_neg Om]⟩
theorem Hm.step{d d':Array α}{a b i:Nat}(h:Hm d a b i d')(q:a+i<b)(z:b+i<d.size):Hm d a b (i+1) (swp d' (a+i) (b+i)):=by
 refine⟨by rw[swp_size];exact h.1,λx=>?_⟩;rw[swp_get d' (by rw[h.1];omega) (by rw[h.1];omega)];simp only[h.2]
 (repeat' split)<;>first|rfl|(exfalso;omega)|(congr 1;omega)
def Vo(d:Array α)(a m b:Nat)(d':Array α):Prop :=
 d'.size=d.size/\∀ x,d'[x]! = if a<=x/\x<a+(b-m) then d[x+(m-a)]! else if a+(b-m)<=x/\x<b then d[x-(b-m)]! else d[x]!
def Oh(d:Array α)(a m b i j:Nat)(h:Array α):Prop:=h.size=d.size/\i<=m-a/\j<=b-m/\∀ d',Vo h (m-i) m (m+j) d'->Vo d a m b d'
theorem Oh.start(d:Array α){a m b:Nat}(h1:a<=m)(h2:m<=b):Oh d a m b (m-a) (b-m) d :=
 ⟨rfl,Nl _,Nl _,λd' h=>by rw[(Om:m-(m-a)=a),(Om:m+(b-m)=b)]at h;exact h⟩
theorem Oh.left{d z G:Array α}{a m b i j:Nat}(h:Oh d a m b i j z)(K:a<=m)(I:m<=b)(J:j<i)(q:Hm z (m-i) m j G):Oh d a m b (i-j) j G:=by
 obtain⟨M,h1,h2,h3⟩:=h;refine⟨q.1.trans M,Om,h2,λd' hd=>h3 d' ⟨hd.1.trans q.1,λx=>?_⟩⟩;rw[hd.2];simp only[q.2]
 (repeat' split)<;>first|rfl|(exfalso;omega)|(congr 1;omega)
theorem Oh.right{d z G:Array α}{a m b i j:Nat}(h:Oh d a m b i j z)(K:a<=m)(I:m<=b)(J:i<j)(q:Hm z (m-i) (m+j-i) i G):Oh d a m b i (j-i) G:=by
 obtain⟨M,h1,h2,h3⟩:=h;refine⟨q.1.trans M,h1,Om,λd' hd=>h3 d' ⟨hd.1.trans q.1,λx=>?_⟩⟩;rw[hd.2];simp only[q.2]
 (repeat' split)<;>first|rfl|(exfalso;omega)|(congr 1;omega)
theorem Oh.done{d G q:Array α}{a m b i:Nat}(h:Oh d a m b i i G)(J:a<=m)(I:m<=b)(z:Hm G (m-i) m i q):Vo d a m b q:=by
 obtain⟨K,h1,h2,h3⟩:=h;refine h3 q ⟨z.1,λx=>?_⟩;rw[z.2]
 (repeat' split)<;>first|rfl|(exfalso;omega)|(congr 1;omega)
end
end SS
end
section
namespace SS
open Go.Sort
variable{α:Type}[Inhabited α]{lt:α->α->Bool}{tag:α->Nat}
theorem Id{d d':Array α}{a m b:Nat}(h:Vo d a m b d')(h1:a<=m)(h2:m<=b)(h3:b<=d.size):PermIn a b d d':=by
 refine⟨h.1,λi hi=>by rw[h.2,if_neg Om,if_neg Om],?_⟩;rw[extract_toList d' a b (by rw[h.1];exact h3),extract_toList d a b h3]
 have G:(List.range' a (b-a)).map (λi=>d'[i]!)=(List.range' m (b-m)).map (λi=>d[i]!)++(List.range' a (m-a)).map (λi=>d[i]!):=by
  apply List.ext_getElem
  ·simp;omega
  ·intro k q I;simp only[List.length_map,List.length_range']at q;simp only[List.getElem_map,List.getElem_range',List.getElem_append,List.length_map,List.length_range',h.2]
   (repeat' split)<;>first|rfl|(exfalso;omega)|(congr 1;omega)
 have z:(List.range' a (b-a)).map (λi=>d[i]!)=(List.range' a (m-a)).map (λi=>d[i]!)++(List.range' m (b-m)).map (λi=>d[i]!):=by
  rw[<- List.map_append];congr 1;have:=List.range'_append_1 (s:=a) (m:=m-a) (n:=b-m);rw[(Om:a+(m-a)=m),(Om:m-a+(b-m)=b-a)]at this;exact this.symm
 rw[G,z];exact List.perm_append_comm
def Mg(L:α->α->Bool)(d:Array α)(a b:Nat)(d':Array α):Prop:=PermIn a b d d'/\SortedIn L a b d'
theorem J3(d:Array α)(a:Nat):Vo d a (a+1) (a+1) d:=⟨rfl,λx=>by (repeat' split)<;>first|rfl|(exfalso;omega)|(congr 1;omega)⟩
theorem J4{d q:Array α}{a k:Nat}(h:Vo d a (a+1) (k+1) q)(G:a<=k)(z:k+1<d.size):Vo d a (a+1) (k+2) (swp q k (k+1)):=by
 refine⟨by rw[swp_size];exact h.1,λx=>?_⟩;rw[swp_get q (by rw[h.1];omega) (by rw[h.1];omega)];simp only[h.2]
 (repeat' split)<;>first|rfl|(exfalso;omega)|(congr 1;omega)
theorem J5(d:Array α)(m:Nat):Vo d m m (m+1) d:=⟨rfl,λx=>by (repeat' split)<;>first|rfl|(exfalso;omega)|(congr 1;omega)⟩
theorem J6{d q:Array α}{m k:Nat}(h:Vo d (k+1) m (m+1) q)(G:k+1<=m)(z:m<d.size):Vo d k m (m+1) (swp q (k+1) k):=by
 refine⟨by rw[swp_size];exact h.1,λx=>?_⟩;rw[swp_get q (by rw[h.1];omega) (by rw[h.1];omega)];simp only[h.2]
 (repeat' split)<;>first|rfl|(exfalso;omega)|(congr 1;omega)
theorem Zc8{L:α->α->Bool}(M:SWO L){d d':Array α}{a i b:Nat}(h:Vo d a (a+1) i d')(h1:a+1<=i)(h2:i<=b)(K:b<=d.size)
  (q:SortedIn L (a+1) b d) (lo:∀ k,a+1<=k->k<i->L d[k]! d[a]! = true) (hi:∀ k,i<=k->k<b->L d[k]! d[a]! = false):Mg L d a b d':=by
 refine⟨permIn_mono _ _ _ _ _ _ (Nl _) h2 K (Id h Om h1 Om),λx y W J V=>?_⟩
 have ex:(d'[x]! = d[x+1]! /\ x<i-1)\/(d'[x]! = d[a]! /\ x=i-1)\/(d'[x]! = d[x]! /\ i<=x):=by
  rw[h.2];by_cases I:x<i-1
  ·rw[if_pos Om];exact .inl ⟨by congr 1;omega,I⟩
  ·rw[if_neg Om];by_cases G:x=i-1
   ·rw[if_pos Om];exact .inr (.inl ⟨by congr 1;omega,G⟩)
   ·rw[if_neg Om];exact .inr (.inr ⟨rfl,Om⟩)
 have U:(d'[y]! = d[y+1]! /\ y<i-1)\/(d'[y]! = d[a]! /\ y=i-1)\/(d'[y]! = d[y]! /\ i<=y):=by
  rw[h.2];by_cases I:y<i-1
  ·rw[if_pos Om];exact .inl ⟨by congr 1;omega,I⟩
  ·rw[if_neg Om];by_cases G:y=i-1
   ·rw[if_pos Om];exact .inr (.inl ⟨by congr 1;omega,G⟩)
   ·rw[if_neg Om];exact .inr (.inr ⟨rfl,Om⟩)
 rcases ex with ⟨e,c⟩|⟨e,c⟩|⟨e,c⟩<;>rcases U with ⟨z,c'⟩|⟨z,c'⟩|⟨z,c'⟩<;>rw[e,z]
 ·exact q _ _ Om Om Om
 ·exact M.asymmA (lo _ Om Om)
 ·exact q _ _ Om Om Om
 ·omega
 ·omega
 ·exact hi _ Om Om
 ·omega
 ·omega
 ·exact q _ _ Om Om Om
theorem Zc7{L:α->α->Bool}(K:SWO L){d d':Array α}{a i m:Nat}(h:Vo d i m (m+1) d')(h1:a<=i)(h2:i<=m)(J:m+1<=d.size)
  (q:SortedIn L a m d) (lo:∀ k,a<=k->k<i->L d[m]! d[k]! = false) (hi:∀ k,i<=k->k<m->L d[m]! d[k]! = true):Mg L d a (m+1) d':=by
 refine⟨permIn_mono _ _ _ _ _ _ h1 (Nl _) J (Id h h2 Om Om),λx y W I V=>?_⟩
 have G:∀ x,(d'[x]! = d[x]! /\ (x<i\/m<x))\/(d'[x]! = d[m]! /\ x=i)\/(d'[x]! = d[x-1]! /\ i<x/\x<=m):=by
  intro x;rw[h.2];by_cases U:x=i
  ·rw[if_pos Om];exact .inr (.inl ⟨by congr 1;omega,U⟩)
  ·rw[if_neg Om];by_cases M:i<x/\x<=m
   ·rw[if_pos Om];exact .inr (.inr ⟨by congr 1;omega,M⟩)
   ·rw[if_neg Om];exact .inl ⟨rfl,Om⟩
 rcases G x with ⟨e,c⟩|⟨e,c⟩|⟨e,c⟩<;>rcases G y with ⟨z,c'⟩|⟨z,c'⟩|⟨z,c'⟩<;>rw[e,z]
 ·exact q _ _ Om Om Om
 ·exact lo _ Om Om
 ·exact q _ _ Om Om Om
 ·omega
 ·omega
 ·exact K.asymmA (hi _ Om Om)
 ·omega
 ·omega
 ·exact q _ _ Om Om Om
theorem Zcz{L:α->α->Bool}(q:SWO L){d:Array α}{a m b n c c':Nat}(hA:SortedIn L a m d)(hB:SortedIn L m b d)(h1:a<=c')(h2:c'<=c)(h3:c<m)(h4:n-1-c'<b)(z:m<=n-1-c)(G:c<n)
  (h:L d[n-1-c]! d[c]! = false):L d[n-1-c']! d[c']! = false:=by
 by_cases e:c'=c
 ·rw[e];exact h
 ·exact q.ntrans _ _ _ (q.ntrans _ _ _ (hB _ _ z Om h4) h) (hA _ _ h1 Om h3)
structure Cut(L:α->α->Bool)(d:Array α)(a m b s e:Nat):Prop where
 h1:a<=s
 h2:s<=m
 h3:m<=e
 h4:e<=b
 hA:SortedIn L a m d
 hB:SortedIn L m b d
 less:∀ i j,s<=i->i<m->m<=j->j<e->L d[j]! d[i]! = true
 more:∀ i j,a<=i->i<s->e<=j->j<b->L d[j]! d[i]! = false
theorem Cut.nth{L:α->α->Bool}{d q:Array α}{a m b s e:Nat}(c:Cut L d a m b s e)(h:Vo d s m e q)(x:Nat) :
  (q[x]! = d[x]! /\ (x<s\/e<=x))\/(q[x]! = d[x+(m-s)]! /\ s<=x/\x<s+(e-m))\/(q[x]! = d[x-(e-m)]! /\ s+(e-m)<=x/\x<e):=by
 have:=c.h1;have:=c.h2;have:=c.h3;have:=c.h4;rw[h.2];by_cases G:s<=x/\x<s+(e-m)
 ·rw[if_pos G];exact .inr (.inl ⟨rfl,G⟩)
 ·rw[if_neg G];by_cases z:s+(e-m)<=x/\x<e
  ·rw[if_pos z];exact .inr (.inr ⟨rfl,z⟩)
  ·rw[if_neg z];exact .inl ⟨rfl,Om⟩
theorem Cut.sorts{L:α->α->Bool}{d G:Array α}{a m b s e:Nat}(c:Cut L d a m b s e)(h:Vo d s m e G) :
  SortedIn L a s G/\SortedIn L s (s+(e-m)) G/\SortedIn L (s+(e-m)) e G/\SortedIn L e b G:=by
 have:=c.h1;have:=c.h2;have:=c.h3;have:=c.h4;refine⟨λx y h1 h2 h3=>?_,λx y h1 h2 h3=>?_,λx y h1 h2 h3=>?_,λx y h1 h2 h3=>?_⟩
 ·rcases c.nth h x with ⟨e,c'⟩|⟨e,c'⟩|⟨e,c'⟩<;>rcases c.nth h y with ⟨z,q⟩|⟨z,q⟩|⟨z,q⟩<;>first|(exfalso;omega)|(rw[e,z];exact c.hA _ _ Om Om Om)
 ·rcases c.nth h x with ⟨e,c'⟩|⟨e,c'⟩|⟨e,c'⟩<;>rcases c.nth h y with ⟨z,q⟩|⟨z,q⟩|⟨z,q⟩<;>first|(exfalso;omega)|(rw[e,z];exact c.hB _ _ Om Om Om)
 ·rcases c.nth h x with ⟨e,c'⟩|⟨e,c'⟩|⟨e,c'⟩<;>rcases c.nth h y with ⟨z,q⟩|⟨z,q⟩|⟨z,q⟩<;>first|(exfalso;omega)|(rw[e,z];exact c.hA _ _ Om Om Om)
 ·rcases c.nth h x with ⟨e,c'⟩|⟨e,c'⟩|⟨e,c'⟩<;>rcases c.nth h y with ⟨z,q⟩|⟨z,q⟩|⟨z,q⟩<;>first|(exfalso;omega)|(rw[e,z];exact c.hB _ _ Om Om Om)
theorem Cut.tags{L:α->α->Bool}{d G:Array α}{a m b s e:Nat}(c:Cut L d a m b s e)(h:Vo d s m e G)(t:∀ i j,a<=i->i<m->m<=j->j<b->tag d[i]! < tag d[j]!) :
  (∀ i j,a<=i->i<s->s<=j->j<s+(e-m)->tag G[i]! < tag G[j]!)/\(∀ i j,s+(e-m)<=i->i<e->e<=j->j<b->tag G[i]! < tag G[j]!):=by
 have:=c.h1;have:=c.h2;have:=c.h3;have:=c.h4;refine⟨λx y h1 h2 h3 h4=>?_,λx y h1 h2 h3 h4=>?_⟩
 ·rcases c.nth h x with ⟨e,c'⟩|⟨e,c'⟩|⟨e,c'⟩<;>rcases c.nth h y with ⟨z,q⟩|⟨z,q⟩|⟨z,q⟩<;>first|(exfalso;omega)|(rw[e,z];exact t _ _ Om Om Om Om)
 ·rcases c.nth h x with ⟨e,c'⟩|⟨e,c'⟩|⟨e,c'⟩<;>rcases c.nth h y with ⟨z,q⟩|⟨z,q⟩|⟨z,q⟩<;>first|(exfalso;omega)|(rw[e,z];exact t _ _ Om Om Om Om)
theorem Zc6{L:α->α->Bool}(hL:SWO L){d I G X:Array α}{a m b s e z:Nat}(c:Cut L d a m b s e)(hm:z=s+(e-m))(h:Vo d s m e I)(hb:b<=d.size)
  (V:Mg L I a z G) (U:Mg L G z b X):Mg L d a b X:=by
 have g1:=c.h1;have g2:=c.h2;have g3:=c.h3;have g4:=c.h4;have s1:I.size=d.size:=h.1;have s2:G.size=d.size:=V.1.1.trans s1;have p1:PermIn a b d I:=permIn_mono _ _ _ _ _ _ g1 g4 hb (Id h g2 g3 Om);have p2:PermIn a b I G:=permIn_mono _ _ _ _ _ _ (Nl _) Om Om V.1;have p3:PermIn a b G X:=permIn_mono _ _ _ _ _ _ Om (Nl _) Om U.1;refine⟨permIn_trans _ _ _ _ _ p1 (permIn_trans _ _ _ _ _ p2 p3),?_⟩
 have M:∀ x y,a<=x->x<z->z<=y->y<b->L I[y]! I[x]! = false:=by
  intro x y x1 x2 y1 Z;rcases c.nth h x with ⟨e,c'⟩|⟨e,c'⟩|⟨e,c'⟩<;>rcases c.nth h y with ⟨e',Y⟩|⟨e',Y⟩|⟨e',Y⟩<;>first|(exfalso;omega)|rw[e,e']
  ·exact c.more _ _ Om Om Om Om
  ·exact c.hA _ _ Om Om Om
  ·exact c.hB _ _ Om Om Om
  ·exact hL.asymmA (c.less _ _ Om Om Om Om)
 have K:∀ y,z<=y->y<b->∀ x,a<=x->x<z->L I[y]! G[x]! = false:=λy y1 Z =>
  permIn_all I G a z (λu=>L I[y]! u=false) Om V.1 (λx x1 x2=>M x y x1 x2 y1 Z)
 have J:∀ x,a<=x->x<z->∀ y,z<=y->y<b->L X[y]! G[x]! = false:=λx x1 x2 =>
  permIn_all G X z b (λu=>L u G[x]! = false) Om U.1 (λy y1 Z=>by rw[V.1.2.1 y Om];exact K y y1 Z x x1 x2)
 intro x y hx W hy;rcases Nat.lt_or_ge y z with q|q
 ·rw[U.1.2.1 x Om,U.1.2.1 y Om];exact V.2 x y hx W q
 ·rcases Nat.lt_or_ge x z with r|r
  ·rw[U.1.2.1 x Om];exact J x hx r y q hy
  ·exact U.2 x y r W hy
end SS
end
section
namespace SS
open Go.Sort
variable{α:Type}[Inhabited α]{lt:α->α->Bool}{tag:α->Nat}
theorem Sd{L:α->α->Bool}(K:SWO L){d:Array α}{a m b s h n lo hi:Nat}(X:h=(a+b) / 2)(hn:n=h+m)
  (z:lo=if m > h then n-b else a) (G:hi=if m > h then h else m) (h1:lo<=s) (h2:s<=hi) (hA:SortedIn L a m d) (hB:SortedIn L m b d)
  (low:∀ c,lo<=c->c<s->L d[n-1-c]! d[c]! = false) (I:∀ c,s<=c->c<hi->L d[n-1-c]! d[c]! = true):Cut L d a m b s (n-s)/\h=s+(n-s-m)/\a<=lo/\hi<=m/\hi<=h:=by
 have f1:a<=lo:=by split at z<;>omega
 have f2:hi<=m:=by split at G<;>omega
 have f3:hi<=h:=by split at G<;>omega
 have f4:n-lo<=b:=by split at z<;>omega
 have Z:m<=n-s:=Om
 refine⟨⟨Om,Om,Z,Om,hA,hB,λi j V i2 U M=>?_,λi j V i2 U M=>?_⟩,Om,f1,f2,f3⟩
 ·have W:s<hi:=by split at G<;>omega
  have F:=I s (Nl _) W
  cases e:L d[j]! d[i]! with
  | true=>rfl
  | false =>
   have J:L d[j]! d[s]! = false:=by
    by_cases q:i=s
    ·rw[<- q];exact e
    ·exact K.ntrans _ _ _ e (hA _ _ Om Om i2)
   have Y:L d[n-1-s]! d[s]! = false:=by
    by_cases q:j=n-1-s
    ·rw[<- q];exact J
    ·exact K.ntrans _ _ _ (hB _ _ U Om Om) J
   rw[F]at Y;cases Y
 ·have W:lo<s:=by split at z<;>omega
  have F:=low (s-1) Om Om;rw[(Om:n-1-(s-1)=n-s)]at F
  have J:L d[j]! d[s-1]! = false:=by
   by_cases q:j=n-s
   ·rw[q];exact F
   ·exact K.ntrans _ _ _ (hB _ _ Z Om M) F
  by_cases q:i=s-1
  ·rw[q];exact J
  ·exact K.ntrans _ _ _ J (hA _ _ V Om Om)
theorem Mo(a:Nat):∀ (j:Nat) (d:Array α),j<d.size->(∀ x,a<=x->x<j->tag d[x]! < tag d[j]!)->insInner lt a j d=insInner (Y3 lt tag) a j d
 | 0,d,_,_=>rfl
 | j+1,d,hs,h=>by
  unfold insInner;by_cases q:j+1 > a
  ·have e:Y3 lt tag d[j+1]! d[j]! = lt d[j+1]! d[j]!:=Wc (h j Om Om);rw[e]
   split
   ·refine Mo a j (swp d (j+1) j) (by rw[swp_size];omega) (λx h1 h2=>?_);rw[swp_get d hs Om,swp_get d hs Om,if_neg Om,if_neg Om,if_pos rfl];exact h x h1 Om
   ·rfl
  ·simp[q]
theorem Mn(I:SWO lt)(a b:Nat):∀ (n i:Nat) (d:Array α),b-i=n->a<=i->b<=d.size->(∀ x y,a<=x->x<y->i<=y->y<b->tag d[x]! < tag d[y]!)->insOuter lt a b i d=insOuter (Y3 lt tag) a b i d
 | 0,i,d,hn,_,_,_=>by
  rw[insOuter];conv=>rhs;rw[insOuter]
  rw[if_neg Om,if_neg Om]
 | n+1,i,d,hn,hai,hb,h=>by
  rw[insOuter];conv=>rhs;rw[insOuter]
  rw[if_pos Om,if_pos Om];have e:=Mo (lt:=lt) (tag:=tag) a i d Om (λx h1 h2=>h x i h1 h2 (Nl _) Om);rw[e]
  have hp:PermIn a (i+1) d (insInner (Y3 lt tag) a i d):=by
   have key:∀ (j:Nat) (d:Array α),a<=j->j<=i->i<d.size->PermIn a (i+1) d (insInner (Y3 lt tag) a j d):=by
    intro j
    induction j with
    | zero=>intro d _ _ _;exact permIn_refl _ _ _
    | succ j ih =>
     intro d h1 h2 h3;unfold insInner
     split
     ·rename_i hc;simp only[Bool.and_eq_true,decide_eq_true_eq]at hc;exact permIn_trans _ _ _ _ _ (swp_permIn d a (i+1) (j+1) j h1 Om Om Om Om) (ih _ Om Om (by rw[swp_size];exact h3))
     ·exact permIn_refl _ _ _
   exact key i d hai (Nl _) Om
  refine Mn I a b n (i+1) _ Om Om (by rw[hp.1];exact hb) (λx y h1 h2 h3 h4=>?_);rw[hp.2.1 y Om];rcases Nat.lt_or_ge x (i+1) with q|q
  ·exact permIn_all d _ a (i+1) (λu=>tag u<tag d[y]!) Om hp (λz G z2=>h z y G Om Om h4) x h1 q
  ·rw[hp.2.1 x Om];exact h x y h1 h2 Om h4
theorem Wq(G:SWO lt)(d:Array α)(a b:Nat)(q:a<=b)(z:b<=d.size)(h:∀ x y,a<=x->x<y->y<b->tag d[x]! < tag d[y]!):Mg (Y3 lt tag) d a b (insertionSort lt d a b):=by
 have e:insertionSort lt d a b=insertionSort (Y3 lt tag) d a b:=by
  unfold insertionSort;exact Mn G a b _ (a+1) d rfl Om z (λx y h1 h2 _ h4=>h x y h1 h2 h4)
 rw[e];exact insertionSort_holds (Mf G) d a b q z
def M7(L:α->α->Bool)(tag:α->Nat)(d:Array α)(s e:Nat):Prop:=SortedIn L s e d/\∀ i,s<=i->i<e->s<=tag d[i]! /\ tag d[i]! < e
theorem M7.far{L:α->α->Bool}{d d':Array α}{s e a b:Nat}(h:M7 L tag d s e)(p:PermIn a b d d')(q:e<=a\/b<=s):M7 L tag d' s e :=
 ⟨λi j h1 h2 h3=>by rw[p.2.1 i Om,p.2.1 j Om];exact h.1 i j h1 h2 h3,λi h1 h2=>by rw[p.2.1 i Om];exact h.2 i h1 h2⟩
theorem M7.merged{L:α->α->Bool}{d d':Array α}{a m b:Nat}(h:M7 L tag d a m)(k:M7 L tag d m b)(G:b<=d.size)(h1:a<=m)(h2:m<=b)(g:Mg L d a b d'):M7 L tag d' a b :=
 ⟨g.2,permIn_all d d' a b (λu=>a<=tag u/\tag u<b) G g.1 (λi z i2=>by
  rcases Nat.lt_or_ge i m with q|q
  ·have:=h.2 i z q;omega
  ·have:=k.2 i q i2;omega)⟩
theorem M7.tags{L:α->α->Bool}{d:Array α}{a m b:Nat}(h:M7 L tag d a m)(k:M7 L tag d m b):∀ i j,a<=i->i<m->m<=j->j<b->tag d[i]! < tag d[j]!:=λi j h1 h2 h3 h4=>by
 have:=h.2 i h1 h2;have:=k.2 j h3 h4;omega
structure L9(L:α->α->Bool)(tag:α->Nat)(n bs k:Nat)(d0 d:Array α):Prop where
 perm:PermIn 0 n d0 d
 done:∀ t,t<k->M7 L tag d (t*(2*bs)) (t*(2*bs)+2*bs)
 todo:∀ t,2*k<=t->t*bs<n->M7 L tag d (t*bs) (min (t*bs+bs) n)
structure Tq(L:α->α->Bool)(tag:α->Nat)(n bs:Nat)(d0 d:Array α):Prop where
 perm:PermIn 0 n d0 d
 blk:∀ t,t*bs<n->M7 L tag d (t*bs) (min (t*bs+bs) n)
variable{L:α->α->Bool}{n bs k:Nat}{d0 d d':Array α}
theorem Tq.start(h:Tq L tag n bs d0 d):L9 L tag n bs 0 d0 d:=⟨h.perm,λt q=>Om,λt _ q=>h.blk t q⟩
theorem Zjc(k bs:Nat):k*(2*bs)=2*k*bs:=by rw[<- Nat.mul_assoc,Nat.mul_comm k 2]
theorem L9.pair(h:L9 L tag n bs k d0 d)(J:n=d0.size)(G:2*k*bs+2*bs<=n) :
  M7 L tag d (2*k*bs) (2*k*bs+bs)/\M7 L tag d (2*k*bs+bs) (2*k*bs+2*bs):=by
 by_cases I:bs=0
 ·subst I;exact⟨⟨λi j h1 h2 h3=>Om,λi h1 h2=>Om⟩,⟨λi j h1 h2 h3=>Om,λi h1 h2=>Om⟩⟩
 have e:(2*k+1)*bs=2*k*bs+bs:=by rw[Nat.add_mul,Nat.one_mul]
 have z:=h.todo (2*k) (Nl _) Om;have q:=h.todo (2*k+1) Om Om;rw[(Om:min (2*k*bs+bs) n=2*k*bs+bs)]at z;rw[e,(Om:min (2*k*bs+bs+bs) n=2*k*bs+2*bs)]at q;exact⟨z,q⟩
theorem L9.step(h:L9 L tag n bs k d0 d)(G:n=d0.size)(z:2*k*bs+2*bs<=n)(g:Mg L d (2*k*bs) (2*k*bs+2*bs) d'):L9 L tag n bs (k+1) d0 d':=by
 have M:d.size=n:=by rw[G];exact h.perm.1
 obtain⟨K,J⟩:=h.pair G z;refine⟨permIn_trans _ _ _ _ _ h.perm (permIn_mono _ _ _ _ _ _ (Nat.zero_le _) z Om g.1),λt I=>?_,λt I hl=>?_⟩
 ·rcases Nat.lt_or_ge t k with q|q
  ·refine (h.done t q).far g.1 (.inl ?_);have:=Nat.mul_le_mul_right (2*bs) (show t+1<=k from q);rw[Nat.add_mul,Nat.one_mul]at this;rw[<- Zjc];exact this
  ·obtain rfl:t=k:=Om
   rw[Zjc];exact K.merged J Om Om Om g
 ·refine (h.todo t Om hl).far g.1 (.inr ?_);have:=Nat.mul_le_mul_right bs ((Om:2*k+2<=t));rw[Nat.add_mul]at this;exact this
theorem L9.tail(h:L9 L tag n bs k d0 d)(G:n=d0.size)(h1:2*k*bs+bs<n)(h2:n<2*k*bs+2*bs):M7 L tag d (2*k*bs) (2*k*bs+bs)/\M7 L tag d (2*k*bs+bs) n:=by
 have e:(2*k+1)*bs=2*k*bs+bs:=by rw[Nat.add_mul,Nat.one_mul]
 have z:=h.todo (2*k) (Nl _) Om;have q:=h.todo (2*k+1) Om Om;rw[(Om:min (2*k*bs+bs) n=2*k*bs+bs)]at z;rw[e,(Om:min (2*k*bs+bs+bs) n=n)]at q;exact⟨z,q⟩
theorem L9.close(h:L9 L tag n bs k d0 d)(I:n=d0.size)(W:2*k*bs<=n)(h2:n<2*k*bs+2*bs)(g:(d'=d/\n<=2*k*bs+bs)\/(2*k*bs+bs<n/\Mg L d (2*k*bs) n d')):Tq L tag n (2*bs) d0 d':=by
 have V:d.size=n:=by rw[I];exact h.perm.1
 have hp:PermIn (2*k*bs) n d d':=by
  rcases g with ⟨e,_⟩|⟨_,g⟩
  ·rw[e];exact permIn_refl _ _ _
  ·exact g.1
 refine⟨permIn_trans _ _ _ _ _ h.perm (permIn_mono _ _ _ _ _ _ (Nat.zero_le _) (Nl _) Om hp),λt J=>?_⟩;rcases Nat.lt_or_ge t k with q|q
 ·have:=Nat.mul_le_mul_right (2*bs) (show t+1<=k from q);rw[Nat.add_mul,Nat.one_mul,Zjc k]at this;have M:=(h.done t q).far hp (.inl this);rw[(Om:min (t*(2*bs)+2*bs) n=t*(2*bs)+2*bs)];exact M
 ·have e:t=k:=by
   rcases Nat.lt_or_ge k t with r|r
   ·have:=Nat.mul_le_mul_right (2*bs) (show k+1<=t from r);rw[Nat.add_mul,Nat.one_mul,Zjc k]at this;omega
   ·omega
  subst e;rw[Zjc]at J⊢;rw[(Om:min (2*t*bs+2*bs) n=n)];rcases g with ⟨e,K⟩|⟨G,g⟩
  ·have z:=h.todo (2*t) (Nl _) Om;rw[(Om:min (2*t*bs+bs) n=n)]at z;rw[e];exact z
  ·obtain⟨z,U⟩:=h.tail I G h2;exact z.merged U Om Om Om g
end SS
end
section
namespace SS
open Go.Sort
variable{α:Type}
def Tt(lt:α->α->Bool)(x:α):List α->List α
 | []=>[x]
 | y::l=>if lt x y then x::y::l else y::Tt lt x l
def Z6(lt:α->α->Bool)(l:List α):List α:=l.foldl (λh x=>Tt lt x h) []
theorem Sr(lt:α->α->Bool)(x:α):∀ l,(Tt lt x l).Perm (x::l)
 | []=>.refl _
 | y::l=>by
  unfold Tt
  split
  ·exact .refl _
  ·exact ((Sr lt x l).cons y).trans (.swap x y l)
theorem Pw(lt:α->α->Bool):∀ (l h:List α),(l.foldl (λh x=>Tt lt x h) h).Perm (h++l)
 | [],h=>by simp
 | x::l,h=>by
  show (l.foldl _ (Tt lt x h)).Perm _;refine (Pw lt l _).trans ?_;refine ((Sr lt x h).append_right l).trans ?_;exact (List.perm_middle (l₁:=h) (a:=x) (l₂:=l)).symm
theorem Z0(lt:α->α->Bool)(l:List α):(Z6 lt l).Perm l:=by simpa [Z6] using Pw lt l []
theorem Zbh{β:Type}(lt:α->α->Bool)(f:β->α)(x:β):∀ l,(Tt (λa b=>lt (f a) (f b)) x l).map f=Tt lt (f x) (l.map f)
 | []=>rfl
 | y::l=>by
  simp only[Tt,List.map_cons]
  split
  ·rfl
  ·rw[List.map_cons,Zbh lt f x l]
theorem Li{β:Type}(lt:α->α->Bool)(f:β->α)(l:List β):(Z6 (λa b=>lt (f a) (f b)) l).map f=Z6 lt (l.map f):=by
 have:∀ (l h:List β),(l.foldl (λh x=>Tt (λa b=>lt (f a) (f b)) x h) h).map f=(l.map f).foldl (λh x=>Tt lt x h) (h.map f):=by
  intro l
  induction l with
  | nil=>intro h;rfl
  | cons x l ih=>intro h;rw[List.foldl_cons,ih,Zbh];rfl
 exact this l []
variable{lt:α->α->Bool}{tag:α->Nat}
theorem Zbg(h:SWO lt)(x:α):∀ l:List α,l.Pairwise (λa b=>Y3 lt tag b a=false)->(∀ y∈l,tag y<tag x)->(Tt lt x l).Pairwise (λa b=>Y3 lt tag b a=false)
 | [],_,_=>by simp[Tt]
 | y::l,hp,ht=>by
  have J:tag y<tag x:=ht y (by simp);rw[List.pairwise_cons]at hp;unfold Tt
  split
  next c =>
   have G:Y3 lt tag y x=false:=by
    have a:=h.asymmA c;simp only[Y3,a,c,Bool.false_or,Bool.not_true,Bool.false_and]
   rw[List.pairwise_cons];refine⟨λz q=>?_,by rw[List.pairwise_cons];exact hp⟩;rcases List.mem_cons.1 q with rfl|q
   ·exact G
   ·exact (Mf h).ntrans _ _ _ (hp.1 z q) G
  next c =>
   rw[List.pairwise_cons];refine⟨λz q=>?_,Zbg h x l hp.2 (λy' I=>ht y' (by simp[I]))⟩;rcases List.mem_cons.1 ((Sr lt x l).mem_iff.1 q) with rfl|q
   ·rw[Wc J];simpa using c
   ·exact hp.1 z q
theorem Zgh(h:SWO lt)(l:List α)(J:l.Pairwise (λa b=>tag a<tag b)):(Z6 lt l).Pairwise (λa b=>Y3 lt tag b a=false):=by
 have:∀ (l q:List α),q.Pairwise (λa b=>Y3 lt tag b a=false)->(∀ a∈q,∀ b∈l,tag a<tag b)->l.Pairwise (λa b=>tag a<tag b)->(l.foldl (λq x=>Tt lt x q) q).Pairwise (λa b=>Y3 lt tag b a=false):=by
  intro l
  induction l with
  | nil=>intro q h1 _ _;exact h1
  | cons x l ih =>
   intro q h1 h2 h3;rw[List.pairwise_cons]at h3;refine ih _ (Zbg h x q h1 (λy I=>h2 y I x (by simp))) (λa z b G=>?_) h3.2;rcases List.mem_cons.1 ((Sr lt x q).mem_iff.1 z) with rfl|z
   ·exact h3.1 b G
   ·exact h2 a z b (by simp[G])
 exact this l [] .nil (by simp) J
theorem Ht(h:SWO lt){l I:List α}(z:l.Pairwise (λa b=>tag a<tag b))(hp:I.Perm l)(U:I.Pairwise (λa b=>Y3 lt tag b a=false)):I=Z6 lt l:=by
 refine List.Perm.eq_of_pairwise (le:=λa b=>Y3 lt tag b a=false) (λa b K J h1 h2=>?_) U (Zgh h l z) (hp.trans (Z0 lt l).symm);have K:a∈l:=hp.mem_iff.1 K;have J:b∈l:=(Z0 lt l).mem_iff.1 J
 have V:tag a=tag b:=by
  simp only[Y3,Bool.or_eq_false_iff,Bool.and_eq_false_iff,Bool.not_eq_false',decide_eq_false_iff_not]at h1 h2;rcases h1.2 with q|q
  ·rw[h2.1]at q;cases q
  ·rcases h2.2 with G|G
   ·rw[h1.1]at G;cases G
   ·omega
 obtain⟨i,hi,rfl⟩:=List.getElem_of_mem K;obtain⟨j,M,rfl⟩:=List.getElem_of_mem J;rw[List.pairwise_iff_getElem]at z;rcases Nat.lt_trichotomy i j with q|q|q
 ·have:=z i j hi M q;omega
 ·subst q;rfl
 ·have:=z j i M hi q;omega
theorem Tq.stable[Inhabited α]{n bs:Nat}{d0 d:Array α}(W:SWO lt)(h:Tq (Y3 lt tag) tag n bs d0 d)(J:n=d0.size)(hb:n<=bs)(K:∀ i,i<n->tag d0[i]! = i):d.toList=Z6 lt d0.toList:=by
 have q:d.size=n:=by rw[J];exact h.perm.1
 refine Ht (tag:=tag) W ?_ ?_ ?_
 ·rw[List.pairwise_iff_getElem];intro i j hi z G;simp only[Array.length_toList,<- J]at hi z;have Y:=K i hi;have X:=K j z;rw[getElem!_pos d0 i Om]at Y;rw[getElem!_pos d0 j Om]at X;simp only[Array.getElem_toList];omega
 ·have:=h.perm.2.2;rw[extract_toList d 0 n Om,extract_toList d0 0 n Om]at this
  have I:∀ (x:Array α),x.size=n->(List.range' 0 (n-0)).map (λi=>x[i]!)=x.toList:=by
   intro x V;apply List.ext_getElem
   ·simp[V]
   ·intro k M Z;simp at M;simp only[List.getElem_map,List.getElem_range',Array.getElem_toList];rw[getElem!_pos x (0+1*k) Om];congr 1;omega
  rw[I d q,I d0 J.symm]at this;exact this
 ·rw[List.pairwise_iff_getElem];intro i j hi z G;simp only[Array.length_toList,q]at hi z;rcases Nat.eq_zero_or_pos n with U|U
  ·omega
  have b:=(h.blk 0 Om).1;rw[Nat.zero_mul,Nat.zero_add,(Om:min bs n=n)]at b;have:=b i j (Nat.zero_le _) G z;rw[getElem!_pos d i Om,getElem!_pos d j Om]at this;simpa only [Array.getElem_toList] using this
end SS
end
section
namespace SS
open Go.Sort
def Uz(p:Nat->Bool)(lo hi i j:Nat):Prop:=lo<=i/\i<=j/\j<=hi/\(∀ c,lo<=c->c<i->p c=true)/\(∀ c,j<=c->c<hi->p c=false)
def M2(p:Nat->Bool)(lo hi:Nat):Prop:=∀ c c',lo<=c->c<=c'->c'<hi->p c'=true->p c=true
theorem Uz.start(p:Nat->Bool){lo hi:Nat}(h:lo<=hi):Uz p lo hi lo hi:=⟨Nl _,h,Nl _,λc _ _=>Om,λc _ _=>Om⟩
theorem Uz.up{p:Nat->Bool}{lo hi i j h:Nat}(s:Uz p lo hi i j)(m:M2 p lo hi)(G:i<=h)(M:h<j)(hp:p h=true):Uz p lo hi (h+1) j:=by
 obtain⟨K,J,z,I,q⟩:=s;exact⟨Om,Om,z,λc h1 h2=>m c h h1 Om Om hp,q⟩
theorem Uz.down{p:Nat->Bool}{lo hi i j h:Nat}(s:Uz p lo hi i j)(m:M2 p lo hi)(q:i<=h)(M:h<j)(hp:p h=false):Uz p lo hi i h:=by
 obtain⟨G,K,J,z,I⟩:=s;refine⟨G,q,Om,z,λc h1 h2=>?_⟩
 cases e:p c with
 | false=>rfl
 | true=>have:=m h c Om h1 h2 e;rw[hp]at this;cases this
variable{α:Type}[Inhabited α]{L:α->α->Bool}
theorem Zc5(h:SWO L){d:Array α}{a m b:Nat}(hB:SortedIn L m b d):M2 (λc=>L d[c]! d[a]!) m b:=by
 intro c c' h1 h2 h3 h4;by_cases e:c=c'
 ·rw[e];exact h4
 ·cases q:L d[c]! d[a]! with
  | true=>exact q
  | false =>
   have:=h.ntrans _ _ _ (hB c c' h1 Om h3) q;simp only at h4;rw[this]at h4;cases h4
theorem Zc4(h:SWO L){d:Array α}{a m:Nat}(hA:SortedIn L a m d):M2 (λc=>!L d[m]! d[c]!) a m:=by
 intro c c' h1 h2 h3 h4;by_cases e:c=c'
 ·rw[e];exact h4
 ·simp only[Bool.not_eq_true']at h4⊢;exact h.ntrans _ _ _ h4 (hA c c' h1 Om h3)
theorem Zc3(I:SWO L){d:Array α}{a m b n lo hi:Nat}(hA:SortedIn L a m d)(hB:SortedIn L m b d)(h1:a<=lo)(h2:hi<=m)(h3:n-1-lo<b\/hi<=lo)(h4:∀ c,lo<=c->c<hi->m<=n-1-c/\c<n):M2 (λc=>!L d[n-1-c]! d[c]!) lo hi:=by
 intro c c' G z q h;simp only[Bool.not_eq_true']at h⊢;have:=h4 c' Om q;have:=h4 c G Om;exact Zcz I hA hB (c:=c') (c':=c) Om z Om Om Om Om h
theorem Sk(d:Array α){a m b:Nat}(h:a=m\/m=b):Vo d a m b d:=⟨rfl,λx=>by (repeat' split)<;>first|rfl|(exfalso;omega)|(congr 1;omega)⟩
theorem Vp{d:Array α}{a b:Nat}(h:SortedIn L a b d):Mg L d a b d:=⟨permIn_refl _ _ _,h⟩
theorem Un{d d':Array α}{a b x y:Nat}(h:SortedIn L x y d)(p:PermIn a b d d')(q:b<=x):SortedIn L x y d':=λi j h1 h2 h3=>by rw[p.2.1 i Om,p.2.1 j Om];exact h i j h1 h2 h3
end SS
end
section
namespace SS
open Go.Sort
variable{α:Type}[Inhabited α]{L:α->α->Bool}{tag:α->Nat}{n t:Nat}{d0 d d':Array α}
structure U5(L:α->α->Bool)(tag:α->Nat)(n t:Nat)(d0 d:Array α):Prop where
 perm:PermIn 0 n d0 d
 done:∀ x,x<t->M7 L tag d (x*20) (x*20+20)
 rest:∀ i,t*20<=i->d[i]! = d0[i]!
theorem U5.start:U5 L tag n 0 d0 d0:=⟨permIn_refl _ _ _,λx h=>Om,λ_ _=>rfl⟩
theorem U5.tags(h:U5 L tag n t d0 d)(z:n=d0.size)(q:∀ i,i<n->tag d0[i]! = i){b:Nat}(G:b<=n):∀ x y,t*20<=x->x<y->y<b->tag d[x]! < tag d[y]!:=λx y h1 h2 h3=>by
 rw[h.rest x h1,h.rest y Om,q x Om,q y Om];exact h2
theorem U5.blk(h:U5 L tag n t d0 d)(z:n=d0.size)(q:∀ i,i<n->tag d0[i]! = i){b:Nat}(G:b<=n)(g:Mg L d (t*20) b d'):M7 L tag d' (t*20) b :=
 ⟨g.2,permIn_all d d' (t*20) b (λu=>t*20<=tag u/\tag u<b) (by rw[h.perm.1];omega) g.1 (λi h1 h2=>by rw[h.rest i h1,q i Om];exact⟨h1,h2⟩)⟩
theorem U5.step(h:U5 L tag n t d0 d)(z:n=d0.size)(I:∀ i,i<n->tag d0[i]! = i)(G:t*20+20<=n)(g:Mg L d (t*20) (t*20+20) d'):U5 L tag n (t+1) d0 d':=by
 have K:d.size=n:=by rw[z];exact h.perm.1
 refine⟨permIn_trans _ _ _ _ _ h.perm (permIn_mono _ _ _ _ _ _ (Nat.zero_le _) G Om g.1),λx J=>?_,λi hi=>?_⟩
 ·rcases Nat.lt_or_ge x t with q|q
  ·exact (h.done x q).far g.1 (.inl Om)
  ·have:x=t:=Om;subst this;exact h.blk z I G g
 ·rw[g.1.2.1 i Om];exact h.rest i Om
theorem U5.close(h:U5 L tag n t d0 d)(z:n=d0.size)(G:∀ i,i<n->tag d0[i]! = i)(h1:t*20<=n)(h2:n<t*20+20)(g:Mg L d (t*20) n d'):Tq L tag n 20 d0 d':=by
 have J:d.size=n:=by rw[z];exact h.perm.1
 refine⟨permIn_trans _ _ _ _ _ h.perm (permIn_mono _ _ _ _ _ _ (Nat.zero_le _) (Nl _) Om g.1),λx I=>?_⟩;rcases Nat.lt_or_ge x t with q|q
 ·rw[(Om:min (x*20+20) n=x*20+20)];exact (h.done x q).far g.1 (.inl Om)
 ·have:x=t:=Om
  subst this;rw[(Om:min (x*20+20) n=n)];exact h.blk z G (Nl _) g
end SS
end
section
namespace Go.Proofs
open Go.Shelf
def YtlfoalomaofejaaGreatDoor.laysDec_ren:Go.Shelf.Ren:=⟨fun|197=>196|260=>237|n=>n,fun|9=>9|21=>21|3=>3|4=>4|5=>5|105=>336|119=>267|0=>0|46=>271|139=>270|138=>269|n=>n,fun|3=>1|4=>2|n=>n⟩
theorem YtlfoalomaofejaaGreatDoor.laysDec:Go.Proofs.Lays.n197 Tryz.prog YtlfoalomaofejaaGreatDoor.laysDec_ren:={
 mixed:=Kr
 f197:=Tryz.func196.trans (congrArg some Kr)
 f260:=Tryz.func237.trans (congrArg some Kr)
 t0:=Tryz.underlying0
 a0:=Tryz.isAgg0
 z0:=Tryz.sizeOf0
 v0:=Tryz.zeroValue0
 t3:=Tryz.underlying3
 a3:=Tryz.isAgg3
 z3:=Tryz.sizeOf3
 v3:=Tryz.zeroValue3
 t4:=Tryz.underlying4
 a4:=Tryz.isAgg4
 z4:=Tryz.sizeOf4
 v4:=Tryz.zeroValue4
 t5:=Tryz.underlying5
 a5:=Tryz.isAgg5
 z5:=Tryz.sizeOf5
 v5:=Tryz.zeroValue5
 t9:=Tryz.underlying9
 a9:=Tryz.isAgg9
 z9:=Tryz.sizeOf9
 v9:=Tryz.zeroValue9
 t21:=Tryz.underlying21
 a21:=Tryz.isAgg21
 z21:=Tryz.sizeOf21
 v21:=Tryz.zeroValue21
 t46:=Tryz.underlying271
 a46:=Tryz.isAgg271
 z46:=Tryz.sizeOf271
 v46:=Tryz.zeroValue271
 t105:=Tryz.underlying336
 a105:=Tryz.isAgg336
 z105:=Tryz.sizeOf336
 v105:=Tryz.zeroValue336
 t119:=Tryz.underlying267
 a119:=Tryz.isAgg267
 z119:=Tryz.sizeOf267
 t138:=Tryz.underlying269
 a138:=Tryz.isAgg269
 z138:=Tryz.sizeOf269
 v138:=Tryz.zeroValue269
 t139:=Tryz.underlying270
 a139:=Tryz.isAgg270
 z139:=Tryz.sizeOf270
 v139:=Tryz.zeroValue270
 g3:=Kr
 g4:=by kernel_rfl }
def YtlfoalomaofejaaGreatDoor.laysLast_ren:Go.Shelf.Ren:=⟨fun|271=>197|120=>238|197=>196|260=>237|n=>n,fun|9=>9|21=>21|3=>3|4=>4|5=>5|105=>336|119=>267|0=>0|46=>271|139=>270|138=>269|n=>n,fun|3=>1|4=>2|n=>n⟩
theorem YtlfoalomaofejaaGreatDoor.laysLast:Go.Proofs.Lays.n271 Tryz.prog YtlfoalomaofejaaGreatDoor.laysLast_ren:={
 mixed:=Kr
 f120:=Tryz.func238.trans (congrArg some Kr)
 f197:=Tryz.func196.trans (congrArg some Kr)
 f260:=Tryz.func237.trans (congrArg some Kr)
 f271:=Tryz.func197.trans (congrArg some Kr)
 t0:=Tryz.underlying0
 a0:=Tryz.isAgg0
 z0:=Tryz.sizeOf0
 v0:=Tryz.zeroValue0
 t3:=Tryz.underlying3
 a3:=Tryz.isAgg3
 z3:=Tryz.sizeOf3
 v3:=Tryz.zeroValue3
 t4:=Tryz.underlying4
 a4:=Tryz.isAgg4
 z4:=Tryz.sizeOf4
 v4:=Tryz.zeroValue4
 t5:=Tryz.underlying5
 a5:=Tryz.isAgg5
 z5:=Tryz.sizeOf5
 v5:=Tryz.zeroValue5
 t9:=Tryz.underlying9
 a9:=Tryz.isAgg9
 z9:=Tryz.sizeOf9
 v9:=Tryz.zeroValue9
 t21:=Tryz.underlying21
 a21:=Tryz.isAgg21
 z21:=Tryz.sizeOf21
 v21:=Tryz.zeroValue21
 t46:=Tryz.underlying271
 a46:=Tryz.isAgg271
 z46:=Tryz.sizeOf271
 v46:=Tryz.zeroValue271
 t105:=Tryz.underlying336
 a105:=Tryz.isAgg336
 z105:=Tryz.sizeOf336
 v105:=Tryz.zeroValue336
 t119:=Tryz.underlying267
 a119:=Tryz.isAgg267
 z119:=Tryz.sizeOf267
 t138:=Tryz.underlying269
 a138:=Tryz.isAgg269
 z138:=Tryz.sizeOf269
 v138:=Tryz.zeroValue269
 t139:=Tryz.underlying270
 a139:=Tryz.isAgg270
 z139:=Tryz.sizeOf270
 v139:=Tryz.zeroValue270
 g3:=Kr
 g4:=by kernel_rfl }
def YtlfoalomaofejaaGreatDoor.laysRl_ren:Go.Shelf.Ren:=⟨fun|118=>195|n=>n,fun|21=>21|3=>3|4=>4|n=>n,fun|n=>n⟩
theorem YtlfoalomaofejaaGreatDoor.laysRl:Go.Proofs.Lays.n118 Tryz.prog YtlfoalomaofejaaGreatDoor.laysRl_ren:={
 mixed:=Kr
 f118:=Tryz.func195.trans (congrArg some Kr)
 t3:=Tryz.underlying3
 a3:=Tryz.isAgg3
 z3:=Tryz.sizeOf3
 v3:=Tryz.zeroValue3
 t4:=Tryz.underlying4
 a4:=Tryz.isAgg4
 z4:=Tryz.sizeOf4
 v4:=Tryz.zeroValue4
 t21:=Tryz.underlying21
 a21:=Tryz.isAgg21
 z21:=Tryz.sizeOf21
 v21:=Tryz.zeroValue21 }
def YtlfoalomaofejaaGreatDoor.laysCount_ren:Go.Shelf.Ren:=⟨fun|195=>162|n=>n,fun|9=>9|3=>3|0=>0|4=>4|n=>n,fun|n=>n⟩
theorem YtlfoalomaofejaaGreatDoor.laysCount:Go.Proofs.Lays.n195 Tryz.prog YtlfoalomaofejaaGreatDoor.laysCount_ren:={
 mixed:=Kr
 f195:=Tryz.func162.trans (congrArg some Kr)
 t0:=Tryz.underlying0
 a0:=Tryz.isAgg0
 z0:=Tryz.sizeOf0
 v0:=Tryz.zeroValue0
 t3:=Tryz.underlying3
 a3:=Tryz.isAgg3
 z3:=Tryz.sizeOf3
 v3:=Tryz.zeroValue3
 t4:=Tryz.underlying4
 a4:=Tryz.isAgg4
 z4:=Tryz.sizeOf4
 v4:=Tryz.zeroValue4
 t9:=Tryz.underlying9
 a9:=Tryz.isAgg9
 z9:=Tryz.sizeOf9
 v9:=Tryz.zeroValue9 }
def YtlfoalomaofejaaGreatDoor.laysValid_ren:Go.Shelf.Ren:=⟨fun|196=>111|259=>146|n=>n,fun|9=>9|4=>4|3=>3|5=>5|12=>12|119=>267|0=>0|46=>271|139=>270|138=>269|53=>315|n=>n,fun|3=>1|4=>2|n=>n⟩
theorem YtlfoalomaofejaaGreatDoor.laysValid:Go.Proofs.Lays.n196 Tryz.prog YtlfoalomaofejaaGreatDoor.laysValid_ren:={
 mixed:=Kr
 f196:=Tryz.func111.trans (congrArg some Kr)
 f259:=Tryz.func146.trans (congrArg some Kr)
 t0:=Tryz.underlying0
 a0:=Tryz.isAgg0
 z0:=Tryz.sizeOf0
 v0:=Tryz.zeroValue0
 t3:=Tryz.underlying3
 a3:=Tryz.isAgg3
 z3:=Tryz.sizeOf3
 v3:=Tryz.zeroValue3
 t4:=Tryz.underlying4
 a4:=Tryz.isAgg4
 z4:=Tryz.sizeOf4
 v4:=Tryz.zeroValue4
 t5:=Tryz.underlying5
 a5:=Tryz.isAgg5
 z5:=Tryz.sizeOf5
 v5:=Tryz.zeroValue5
 t9:=Tryz.underlying9
 a9:=Tryz.isAgg9
 z9:=Tryz.sizeOf9
 v9:=Tryz.zeroValue9
 t12:=Tryz.underlying12
 a12:=Tryz.isAgg12
 z12:=Tryz.sizeOf12
 v12:=Tryz.zeroValue12
 t46:=Tryz.underlying271
 a46:=Tryz.isAgg271
 z46:=Tryz.sizeOf271
 v46:=Tryz.zeroValue271
 t53:=Tryz.underlying315
 a53:=Tryz.isAgg315
 z53:=Tryz.sizeOf315
 v53:=Tryz.zeroValue315
 t119:=Tryz.underlying267
 a119:=Tryz.isAgg267
 z119:=Tryz.sizeOf267
 t138:=Tryz.underlying269
 a138:=Tryz.isAgg269
 z138:=Tryz.sizeOf269
 v138:=Tryz.zeroValue269
 t139:=Tryz.underlying270
 a139:=Tryz.isAgg270
 z139:=Tryz.sizeOf270
 v139:=Tryz.zeroValue270
 g3:=Kr
 g4:=by kernel_rfl }
def YtlfoalomaofejaaGreatDoor.layInsu_ren:Go.Shelf.Ren:=⟨fun|20=>168|n=>n,fun|24=>36|22=>26|3=>3|25=>173|4=>4|0=>0|n=>n,fun|n=>n⟩
theorem YtlfoalomaofejaaGreatDoor.layInsu:Go.Proofs.SlLaysF0.n20 Tryz.prog YtlfoalomaofejaaGreatDoor.layInsu_ren:={
 mixed:=Kr
 f20:=⟨Tryz.f168.name,by decide,Tryz.func168.trans (congrArg some Kr)⟩
 t0:=Tryz.underlying0
 a0:=Tryz.isAgg0
 z0:=Tryz.sizeOf0
 v0:=Tryz.zeroValue0
 t3:=Tryz.underlying3
 a3:=Tryz.isAgg3
 z3:=Tryz.sizeOf3
 v3:=Tryz.zeroValue3
 t4:=Tryz.underlying4
 a4:=Tryz.isAgg4
 z4:=Tryz.sizeOf4
 v4:=Tryz.zeroValue4
 t22:=Tryz.underlying26
 a22:=Tryz.isAgg26
 z22:=Tryz.sizeOf26
 v22:=Tryz.zeroValue26
 t25:=Tryz.underlying173
 a25:=Tryz.isAgg173
 z25:=Tryz.sizeOf173
 v25:=Tryz.zeroValue173 }
def YtlfoalomaofejaaGreatDoor.layInsw_ren:Go.Shelf.Ren:=⟨fun|20=>256|n=>n,fun|24=>53|22=>22|3=>3|25=>323|4=>4|0=>0|n=>n,fun|n=>n⟩
theorem YtlfoalomaofejaaGreatDoor.layInsw:Go.Proofs.SlLaysF0.n20 Tryz.prog YtlfoalomaofejaaGreatDoor.layInsw_ren:={
 mixed:=Kr
 f20:=⟨Tryz.f256.name,by decide,Tryz.func256.trans (congrArg some Kr)⟩
 t0:=Tryz.underlying0
 a0:=Tryz.isAgg0
 z0:=Tryz.sizeOf0
 v0:=Tryz.zeroValue0
 t3:=Tryz.underlying3
 a3:=Tryz.isAgg3
 z3:=Tryz.sizeOf3
 v3:=Tryz.zeroValue3
 t4:=Tryz.underlying4
 a4:=Tryz.isAgg4
 z4:=Tryz.sizeOf4
 v4:=Tryz.zeroValue4
 t22:=Tryz.underlying22
 a22:=Tryz.isAgg22
 z22:=Tryz.sizeOf22
 v22:=Tryz.zeroValue22
 t25:=Tryz.underlying323
 a25:=Tryz.isAgg323
 z25:=Tryz.sizeOf323
 v25:=Tryz.zeroValue323 }
def YtlfoalomaofejaaGreatDoor.laysCompare_ren:Go.Shelf.Ren:=⟨fun|106=>181|213=>227|265=>258|n=>n,fun|9=>9|3=>3|n=>n,fun|n=>n⟩
theorem YtlfoalomaofejaaGreatDoor.laysCompare:Go.Proofs.Lays.n106 Tryz.prog YtlfoalomaofejaaGreatDoor.laysCompare_ren:={
 mixed:=Kr
 f106:=Tryz.func181.trans (congrArg some Kr)
 f213:=Tryz.func227.trans (congrArg some Kr)
 f265:=Tryz.func258.trans (congrArg some Kr)
 t3:=Tryz.underlying3
 a3:=Tryz.isAgg3
 z3:=Tryz.sizeOf3
 v3:=Tryz.zeroValue3
 t9:=Tryz.underlying9
 a9:=Tryz.isAgg9
 z9:=Tryz.sizeOf9
 v9:=Tryz.zeroValue9 }
def YtlfoalomaofejaaGreatDoor.sortedS_ren:Go.Shelf.Ren:=⟨fun|11=>229|19=>221|25=>255|n=>n,fun|25=>34|27=>9|4=>4|3=>3|0=>0|n=>n,fun|n=>n⟩
theorem YtlfoalomaofejaaGreatDoor.sortedS:Go.Proofs.SlLaysO.n11 Tryz.prog YtlfoalomaofejaaGreatDoor.sortedS_ren:={
 mixed:=Kr
 f11:=⟨Tryz.f229.name,by decide,Tryz.func229.trans (congrArg some Kr)⟩
 f19:=⟨Tryz.f221.name,by decide,Tryz.func221.trans (congrArg some Kr)⟩
 f25:=⟨Tryz.f255.name,by decide,Tryz.func255.trans (congrArg some Kr)⟩
 t0:=Tryz.underlying0
 a0:=Tryz.isAgg0
 z0:=Tryz.sizeOf0
 v0:=Tryz.zeroValue0
 t3:=Tryz.underlying3
 a3:=Tryz.isAgg3
 z3:=Tryz.sizeOf3
 v3:=Tryz.zeroValue3
 t4:=Tryz.underlying4
 a4:=Tryz.isAgg4
 z4:=Tryz.sizeOf4
 v4:=Tryz.zeroValue4
 t25:=Tryz.underlying34
 a25:=Tryz.isAgg34
 z25:=Tryz.sizeOf34
 v25:=Tryz.zeroValue34
 t27:=Tryz.underlying9
 a27:=Tryz.isAgg9
 z27:=Tryz.sizeOf9
 v27:=Tryz.zeroValue9 }
end Go.Proofs
end
namespace Go.Proofs.YtlfoalomaofejaaGreatDoor
section
open Go.RowKit Go.Shelf
def U8(w:World):Prop:=Lib.Utf8Tabs 1 2 w
theorem U8.fr{S:Nat->Prop}{w w':World}(h:U8 w)(f:Fr S w w')(h1:¬ S 1)(h2:¬ S 2):U8 w' :=
 ⟨λc q=>f.cell (h.1 c q) h1,λi hi=>⟨f.cell (h.2 i hi).1 h2,f.cell (h.2 i hi).2 h2⟩⟩
theorem U8.ext{w w':World}(h:U8 w)(f:Zf w w'):U8 w':=h.fr f id id
theorem Zfu(s:ByteArray)(w:World)(q:s.size<=9223372036854775807)(z:U8 w):Calls Tryz.prog 111 #[.string s] w λe w'=>e=.returned (.bool (Lib.validD s.data.toList))/\Zf w w' :=
 (Any.utf8_ValidString laysValid s w q z).mono λ_ _ h=>⟨h.1,Fr.of_below h.2⟩
def Wz(s:ByteArray):Bool:=decide ((0:UInt8) ∉ s.data.toList) && !s.data.toList.isEmpty&&Lib.validD s.data.toList
theorem Zbp(s:ByteArray)(i:Nat)(h:i<s.size):s.data.toList[i]?=some s[i]:=by
 rw[Array.getElem?_toList];exact Array.getElem?_eq_getElem h
theorem Zgq(s:ByteArray)(w:World)(hs:s.size<=9223372036854775807)(hT:U8 w):Calls Tryz.prog 57 #[.string s] w λe w'=>e=.returned (.bool (Wz s))/\Zf w w':=by
 have HT:=Hd hT;clear hT;go_enter Tryz.func57,Tryz.ntmps57
 go_wp2
 go_loopg [6] s.size (λg1 v wr=>∃ k:Nat,v=.int .i64 k/\k<=s.size/\s.size<=k+g1/\wr=w/\Hid (∀ j (h:j<s.size),j<k->s[j]≠0))
 case atStart=>exact⟨0,rfl,Om,Om,rfl,λj _ h=>Om⟩
 case round =>
  obtain⟨k,rfl,hk,hg,rfl,HZ⟩:=hrel;by_cases M:k<s.size
  ·have z:(k:Int)<s.size:=Om;by_cases J:s[k]=0
   ·have V:((s[k].toNat:Int)==0)=true:=by rw[J];rfl
    have hp:Wz s=false:=by
     unfold Wz;have:(0:UInt8)∈s.data.toList:=by rw[<- J];exact List.mem_of_getElem? (Zbp s k M)
     simp[this]
    go_wp2_with fail
    exact bodyPost_ret (results_tmp rfl _ _ _) rfl ⟨by rw[hp];rfl,Fl _⟩
   ·have W:s[k].toNat≠0:=λe=>J (UInt8.toNat_inj.1 e)
    have V:((s[k].toNat:Int)==0)=false:=(by simpa using W);go_wp2_with fail
    go_roundg (s.size-(k+1))
    case measure=>omega
    case rel=>exact⟨k+1,by go_num,Om,Om,rfl,λj h1 h2=>by
     rcases Nat.lt_or_ge j k with q|q
     ·exact HZ.out j h1 q
     ·have:j=k:=Om
      subst this;exact J⟩
  ·have z:¬ (k:Int)<s.size:=Om
   have K:(0:UInt8) ∉ s.data.toList:=by
    intro hm;obtain⟨j,Z,e⟩:=List.getElem_of_mem hm;have G:j<s.size:=(by simpa using Z);exact HZ.out j G Om (by have:=Zbp s j G;rw[Ge Z]at this;rw[<- Option.some.inj this];exact e)
   by_cases I:s.data.toList=[]
   ·have U:(s.toList==[])=true:=by rw[ByteArray.toList_eq];simp[I]
    have hp:Wz s=false:=by unfold Wz;simp[I]
    clear K;go_wp2_with fail
    first|go_ret|go_ret2
    exact⟨rfl,Fl _⟩
   ·have U:(s.toList==[])=false:=by rw[ByteArray.toList_eq];simpa using I
    have hp:Wz s=Lib.validD s.data.toList:=by unfold Wz;simp only[K,not_false_eq_true,decide_true,Bool.true_and];cases hq:s.data.toList.isEmpty with|true=>exact absurd (List.isEmpty_iff.1 hq) I|false=>simp
    have X:=Zfu s wr Om HT;rw[<- hp]at X;clear K hp;go_wp2_with (go_at_call 111;refine X.mono ?_;rintro e W1 ⟨rfl,Y⟩;clear X;have HX:=Hd Y;clear Y)
    first|go_ret|go_ret2
    exact⟨rfl,HX⟩
end
section
open Go.RowKit
theorem Jb{P:Program}{w:World}{ops:Array Oper}{rest:List Oper}{o:Oper}{a:Act}{Q:Exit->Act->World->Prop}(M:o.guard=none)(s x:Operand)(t:TypeId)(q:o.op=Op.call { callee:=Callee.builtin Builtin.append,args:=#[s,x],argTypes:=#[t,t] })
  (base:Nat) (e:TypeId) (i:TypeInfo) (size:Nat) (h1:P.underlying t=some (.slice e)) (h2:P.info? e=some i) (v:Value) (n:Nat) (xs:List Value) (I:a.eval s=v) (h:w.ownsRow base e size v n xs) (G:a.eval x=.slice none 0 0)
  (U:wpList P ops Q rest (a.put o.dst v) w):wpList P ops Q (o::rest) a w:=by
 have J:=run_append_owned_none (P:=P) (w:=w) base t o.type e i size h1 h2 v n xs h;refine wpList_plain M λK z=>?_
 unfold Oper.wp execOp;simp only[q,resolve,invoke,builtin,Sem.run_bind,Sem.run_pure,Result.andThen_ok,List.map_toArray,List.map_cons,List.map_nil,I,G,J];exact z _ _ U
theorem V2{w:World}{B:Nat}{T:TypeId}{k n:Nat}{v:Value}{xs:List Value}(h:w.ownsRow B T k v n xs)(j:Nat)(q:j<n*k):∃ g c,v=.slice (some ⟨g,0,none⟩) n c/\w.cell? ⟨g,j,none⟩=xs[j]? /\ v.ownBlock=some g:=by
 rcases id h.2 with ⟨_,e⟩|⟨g,cap,z,rfl,_⟩
 ·subst e;simp at q
 ·exact⟨g,cap,rfl,h.cellAt j q,rfl⟩
theorem Zr{S:Nat->Prop}{w w':World}{base sz n:Nat}{e:TypeId}{v:Value}{xs:List Value}(h:w.ownsRow base e sz v n xs)(f:Fr S w w')(z:∀ g,v.ownBlock=some g->¬ S g):w'.ownsRow base e sz v n xs:=by
 obtain⟨hl,h|⟨g,cap,q,rfl,I,G,h2⟩⟩:=h
 ·exact⟨hl,.inl h⟩
 ·exact⟨hl,.inr ⟨g,cap,q,rfl,I,f.heap G (z g rfl),h2⟩⟩
theorem Zm{w:World}{base sz n:Nat}{e:TypeId}{v:Value}{xs:List Value}(h:w.ownsRow base e sz v n xs):∃ A c,v=.slice A n c:=by
 obtain⟨_,⟨rfl,rfl⟩|⟨g,cap,q,rfl,_⟩⟩:=h
 ·exact⟨_,_,rfl⟩
 ·exact⟨_,_,rfl⟩
theorem Z2(w:World)(h:Value){T:TypeId}:∀ j u,[h][j]?=some u->(w.alloc (.cells #[h] T)).cell? ((⟨w.heap.size,0,none⟩:Addr).add j)=some u:=by
 intro j u q
 cases j with
 | zero =>
  have:h=u:=by simpa using q
  subst this;rw[Addr.add_lit];simp only[World.cell?,alloc_at];rfl
 | succ j=>simp at q
theorem cell_of{w:World}{b:Nat}{cs:Array Value}{T:TypeId}(h:w.heap[b]?=some (.cells cs T (0,0)))(j:Nat)(u:Value)(q:cs[j]?=some u):w.cell? ⟨b,j,none⟩=some u:=by
 simp only[World.cell?,h];exact q
theorem Zi{w:World}{b:Nat}{cs:Array Value}{T:TypeId}(h:w.heap[b]?=some (.cells cs T (0,0)))(j:Nat):w.frozen? ⟨b,j,none⟩=false:=by
 simp[World.frozen?,h]
end
section
open Go.RowKit DT
theorem Wx{w:World}{B:Nat}{v:Value}{xs:List ByteArray}(h:w.ownsRow B 9 1 v xs.length (xs.map Value.string))(I:∀ x∈xs,x.size<=9223372036854775807):strs.R w (λj=>B<=j) xs [v]:=by
 obtain⟨_,⟨rfl,J⟩|⟨g,cap,q,rfl,M,G,h2,h3,h4,U⟩⟩:=h
 ·have:xs=[]:=List.eq_nil_of_length_eq_zero J;subst this;exact⟨none,0,rfl,Nl _,λ_=>rfl,by simp,.inl rfl⟩
 ·refine⟨some ⟨g,0,none⟩,cap,rfl,h2,(by intro e;cases e),by unfold maxLen at h3;omega,.inr ⟨g,0,rfl,M,(Gs1.1 G).1,λi hi=>⟨[.string xs[i]],⟨rfl,I _ (List.getElem_mem hi)⟩,λj K=>?_⟩⟩⟩;have z:j=0:=by simpa using K
  subst z;have e:(q.toList.take (xs.length*1))[i]?=some (.string xs[i]):=by rw[U];simp[hi]
  rw[List.getElem?_take_of_lt Om,Array.getElem?_toList]at e;simp only[World.cell?,G];show q[0+i*Ty.str.sz+0]?=_;rw[show 0+i*Ty.str.sz+0=i by show 0+i*1+0=i;omega];exact e
theorem Y2{w:World}{O:Nat->Prop}{xs:List ByteArray}{v:Value}(h:strs.R w O xs [v]):∃ A c,v=.slice A xs.length c:=by
 obtain⟨A,c,e,_⟩:=h;cases e;exact⟨A,c,rfl⟩
theorem Tf{w:World}{O:Nat->Prop}{xs:List ByteArray}{v:Value}(h:strs.R w O xs [v]):∀ s∈xs,s.size<=9223372036854775807:=by
 intro s G;obtain⟨A,c,_,_,_,z⟩:=h;obtain⟨j,I,rfl⟩:=List.getElem_of_mem G;obtain⟨_,_,_,_,_,_,q⟩:=Uk z j I;exact q
theorem Ld{w:World}{O:Nat->Prop}{xs:List ByteArray}{c:Nat}(h:strs.R w O xs [.slice none xs.length c]):xs=[]:=by
 obtain⟨A,c',e,h1,h2,_⟩:=h;simp only[List.cons.injEq,Value.slice.injEq,and_true]at e;have:=h2 e.1.symm;exact List.eq_nil_of_length_eq_zero Om
theorem Le{w:World}{O:Nat->Prop}{xs:List ByteArray}{c:Nat}(h:strs.R w O xs [.slice none xs.length c]):c=0:=by
 obtain⟨A,c',e,h1,h2,_⟩:=h;simp only[List.cons.injEq,Value.slice.injEq,and_true]at e;have:=h2 e.1.symm;omega
theorem Xh{w:World}{O:Nat->Prop}{xs:List ByteArray}{A:Option Addr}{c:Nat}(h:strs.R w O xs [.slice A xs.length c])(G:xs≠[]):∃ b o,A=some ⟨b,o,none⟩/\b<w.heap.size/\∀ j u,(xs.map Value.string)[j]?=some u->w.cell? ((⟨b,o,none⟩:Addr).add j)=some u:=by
 obtain⟨X,c',e,_,_,q⟩:=h;cases e;have U:0<xs.length:=List.length_pos_iff.2 G;obtain⟨b,o,e,_,M,_,_⟩:=Uk q 0 U;refine⟨b,o,e,M,λj u z=>?_⟩;have I:j<xs.length:=by simpa using (Gl.1 z).1
 obtain⟨W,V,J,_,_,K,_⟩:=Uk q j I;rw[e]at J;cases J;rw[List.getElem?_map,Ge I]at z;rw[Addr.add_lit,K];exact z
theorem Sj{w:World}{g:Nat}{xs:List ByteArray}{n:Nat}(h:w.heap[g]?=some (.cells (xs.map Value.string).toArray 9 (0,0)))(z:n=xs.length)(q:∀ s∈xs,s.size<=9223372036854775807)(hl:n<=2000000):strs.R w (λj=>g<=j) xs [.slice (some ⟨g,0,none⟩) n n]:=by
 subst z;exact Wx (B:=g) ⟨by simp,.inr ⟨g,xs.length,_,rfl,Nl _,h,Nl _,by unfold maxLen;omega,by simp,by simp[List.take_of_length_le]⟩⟩ q
end
end Go.Proofs.YtlfoalomaofejaaGreatDoor
