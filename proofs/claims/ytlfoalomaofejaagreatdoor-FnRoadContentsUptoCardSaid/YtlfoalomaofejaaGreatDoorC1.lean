/- The words of this seat's proof -/
import Derived.Test.YtlfoalomaofejaaGreatDoorProg
import Derived.WalkKit
import Derived.Deep.QuietTactic
import Derived.BigQuiet
import Derived.StillTailTactics
import Derived.Outline
import Derived.WalkSpells
import Derived.WalkLawsBesides
import Derived.Deep.LoopGhost
import Derived.Deep.DeepFit
import Derived.Deep.DeepMust
import Derived.Lib.Hide
import Derived.Deep.Slices
import Derived.ChangeMaps5
import Derived.OpenShut
import Derived.Lib.SmallJoins
import Derived.Sort.LotA
import Derived.Shelf.Unicode.DecodeLast
import Derived.Shelf.Unicode.DecodeAny
import Derived.Shelf.Unicode.ValidAny
import Derived.Shelf.Small.Utf8
import Derived.Shelf.Utf8.RuneCount
import Derived.Shelf.Small.Strs
import Derived.Shelf.SlSorted.IsSorted
import Derived.Shelf.SlSortCmp.KitK
set_option linter.all false
set_option maxRecDepth 100000
set_option maxHeartbeats 1000000
theorem Om{p:Prop}(h:p:=by omega):p:=h
theorem Kr{p:Prop}(h:p:=by kernel_rfl):p:=h
theorem Rf{p:Prop}(h:p:=by rfl):p:=h
theorem Hd{p:Prop}(h:p):Go.RowKit.Hid p:=h
theorem Ai1{a b:Prop}(h:a)(k:b):a∧b:=⟨h,k⟩
theorem Nl(n:Nat):n<=n:=Nat.le_refl n
theorem Nt{a b c:Nat}(h:a<=b)(k:b<=c):a<=c:=Nat.le_trans h k
theorem Ge{α:Type _}{l:List α}{i:Nat}(h:i<l.length):l[i]?=some l[i]:=List.getElem?_eq_getElem h
theorem Gs1{α:Type _}{i:Nat}{b:α}{xs:Array α}:xs[i]?=some b↔∃ h:i<xs.size,xs[i]=b:=Array.getElem?_eq_some_iff
theorem Gl{α:Type _}{i:Nat}{b:α}{l:List α}:l[i]?=some b↔∃ h:i<l.length,l[i]=b:=List.getElem?_eq_some_iff
theorem Sa{α:Type _}(l:List α)(i:Nat)(a:α):l.toArray.setIfInBounds i a=(l.set i a).toArray:=List.setIfInBounds_toArray ..
theorem Sb1{α:Type _}{x:α}{xs:List α}{a:α}:(x::xs).set 0 a=a::xs:=rfl
theorem Sc{α:Type _}{x:α}{xs:List α}{i:Nat}{a:α}:(x::xs).set (i+1) a=x::xs.set i a:=rfl
namespace Go.Proofs.YtlfoalomaofejaaGreatDoor
section
open Go.RowKit
structure Fr(S:Nat->Prop)(w w':World):Prop where
 os:w'.os=w.os
 tape:w'.tape=w.tape
 output:w'.output=w.output
 size:w.heap.size<=w'.heap.size
 block:∀ k,k<w.heap.size->¬ S k->w'.heap[k]?=w.heap[k]?
abbrev Zf(w w':World):Prop:=Fr (λ_=>False) w w'
section
variable{S S':Nat->Prop}{w w1 w2:World}
theorem Fr.refl(S:Nat->Prop)(w:World):Fr S w w:=⟨rfl,rfl,rfl,Nl _,λ_ _ _=>rfl⟩
theorem Fl{S:Nat->Prop}(w:World):Fr S w w:=Fr.refl S w
theorem Fe(w:World):Zf w w:=Fr.refl _ w
theorem Fr.trans(h:Fr S w w1)(k:Fr S' w1 w2)(hs:∀ j,j<w.heap.size->S' j->S j):Fr S w w2 :=
 ⟨k.os.trans h.os,k.tape.trans h.tape,k.output.trans h.output,Nt h.size k.size,λj hj hn =>
  (k.block j (Nat.lt_of_lt_of_le hj h.size) (λe=>hn (hs j hj e))).trans (h.block j hj hn)⟩
theorem Fr.then(h:Fr S w w1)(k:Fr S w1 w2):Fr S w w2:=h.trans k (λ_ _ e=>e)
theorem Fr.ext(h:Fr S w w1)(k:Zf w1 w2):Fr S w w2:=h.trans k (λ_ _ e=>e.elim)
theorem Fr.mono(h:Fr S w w1)(hs:∀ j,j<w.heap.size->S j->S' j):Fr S' w w1:=⟨h.os,h.tape,h.output,h.size,λj hj hn=>h.block j hj (λe=>hn (hs j hj e))⟩
theorem Fr.drew(h:Fr S w w1):Fr S w w1.drew:=⟨h.os,h.tape,h.output,h.size,h.block⟩
theorem Fr.drewN(h:Fr S w w1)(n:Nat):Fr S w (w1.drewN n):=⟨h.os,h.tape,h.output,h.size,h.block⟩
theorem Fr.alloc(h:Fr S w w1)(o:Obj):Fr S w (w1.alloc o) :=
 ⟨h.os,h.tape,h.output,by have:=h.size;simp;omega,λj hj hn=>by
  rw[<- h.block j hj hn];exact Below.heap_alloc w1 o j (Nat.lt_of_lt_of_le hj h.size)⟩
theorem Fr.setCell(h:Fr S w w1)(a:Addr)(v:Value)(ha:a.block<w.heap.size->S a.block):Fr S w (w1.setCell a v) :=
 ⟨h.os,h.tape,h.output,by have:=h.size;simp[World.setCell];omega,λj hj hn=>by
  rw[<- h.block j hj hn];exact Below.heap_setCell w1 a v j (λe=>hn (e▸ha (e▸hj)))⟩
theorem Fr.setRow(h:Fr S w w1)(g:Nat)(cs:Array Value)(hg:g<w.heap.size->S g):Fr S w (w1.setRow g cs) :=
 ⟨h.os,h.tape,h.output,by have:=h.size;simp[World.setRow];omega,λj hj hn=>by
  rw[<- h.block j hj hn];simp only[World.setRow,Array.getElem?_modify]
  rw[if_neg (λe:g=j=>hn (e▸hg (e▸hj)))]⟩
theorem Fr.grown{row:Option Nat}(h:Fr S w w1)(g:w1.grownBy w2 row)(hr:∀ k,row=some k->k<w.heap.size->S k):Fr S w w2 :=
 ⟨g.os.trans h.os,g.tape.trans h.tape,g.output.trans h.output,Nt h.size g.size,λj hj hn =>
  (g.block j (Nat.lt_of_lt_of_le hj h.size) (λe=>hn (hr j e.symm hj))).trans (h.block j hj hn)⟩
theorem Fr.of_below(h:Below w.heap.size w w1):Zf w w1:=⟨h.os,h.tape,h.output,h.size,λj hj _=>h.block j hj⟩
theorem Fr.below(h:Zf w w1):Below w.heap.size w w1:=⟨h.os,h.tape,h.output,h.size,λj hj=>h.block j hj id⟩
theorem alloc_at(w:World)(o:Obj):(w.alloc o).heap[w.heap.size]?=some o:=by
 show (w.heap.push o)[w.heap.size]?=_;simp
theorem alloc_at'(w:World)(o:Obj){k:Nat}(h:k=w.heap.size):(w.alloc o).heap[k]?=some o:=by rw[h];exact alloc_at w o
theorem alloc_old(w:World)(o:Obj){k:Nat}(h:k<w.heap.size):(w.alloc o).heap[k]?=w.heap[k]?:=Below.heap_alloc w o k h
theorem Za(w:World)(o:Obj):(w.alloc o).heap.size=w.heap.size+1:=by simp
theorem lt_of_cell{w:World}{a:Addr}{v:Value}(h:w.cell? a=some v):a.block<w.heap.size:=World.block_lt_of_cell? w a h
theorem Fr.cell(h:Fr S w w1){a:Addr}{v:Value}(hc:w.cell? a=some v)(hs:¬ S a.block):w1.cell? a=some v:=by
 rw[<- hc];exact World.cell?_of_block (h.block _ (lt_of_cell hc) hs)
theorem Fr.frozen(h:Fr S w w1){a:Addr}{v:Value}(hc:w.cell? a=some v)(hs:¬ S a.block):w1.frozen? a=w.frozen? a :=
 World.frozen?_of_block (h.block _ (lt_of_cell hc) hs)
theorem Fr.heap{o:Obj}(h:Fr S w w1){k:Nat}(hc:w.heap[k]?=some o)(hs:¬ S k):w1.heap[k]?=some o:=by
 rw[<- hc];exact h.block _ (Gs1.1 hc).1 hs
end
theorem Ud{P:Program}{id:Nat}{Q:Exit->Act->World->Prop}{a:Act}{w:World}{l:List Oper}(n:Nat)(hm:P.follows .mixedOrders=true)(hB:Region.lexTailB .any l.toArray n=true)
  (h:wpStill P l.toArray w.drew (λa'=>wpList P l.toArray Q (l.drop n) a' w.drew) (l.take n) a):(Code.region id l.toArray true).wp P Q a w:=wp_region_still_tail n hm hB h
end
section
open Go.RowKit
namespace DT
structure Ty(α:Type) where
 sz:Nat
 R:World->(Nat->Prop)->α->List Value->Prop
 len:∀ {w O x cs},R w O x cs->cs.length=sz
 one:∀ {w O x cs},R w O x cs->∀ u∈cs,u.oneCell'=true
 mono:∀ {w:World} {O O':Nat->Prop} {x cs},(∀ k,k<w.heap.size->O k->O' k)->R w O x cs->R w O' x cs
 move:∀ {w w':World} {O:Nat->Prop} {x cs},w.heap.size<=w'.heap.size->(∀ k,k<w.heap.size->O k->w'.heap[k]?=w.heap[k]?)->R w O x cs->R w' O x cs
theorem Ty.keep{α:Type}(d:Ty α){S O:Nat->Prop}{w w':World}{x:α}{cs:List Value}(h:d.R w O x cs)(f:Fr S w w')(hs:∀ k,k<w.heap.size->O k->¬ S k):d.R w' O x cs :=
 d.move f.size (λk hk ho=>f.block k hk (hs k hk ho)) h
theorem Ty.ext{α:Type}(d:Ty α){O:Nat->Prop}{w w':World}{x:α}{cs:List Value}(h:d.R w O x cs)(f:Zf w w'):d.R w' O x cs:=d.keep h f (λ_ _ _=>id)
namespace Ty
def scalar{α:Type}(enc:α->Value)(p:α->Prop)(h1:∀ x,(enc x).oneCell'=true):Ty α where
 sz:=1
 R:=λ_ _ x cs=>cs=[enc x]/\p x
 len:=λh=>by rw[h.1];rfl
 one:=λh u hu=>by rw[h.1]at hu;rw[List.mem_singleton.1 hu];exact h1 _
 mono:=λ_ h=>h
 move:=λ_ _ h=>h
abbrev int:Ty Int:=scalar (Value.int .i64) (λx=>-9223372036854775808<=x/\x<=9223372036854775807) (λ_=>rfl)
abbrev bool:Ty Bool:=scalar Value.bool (λ_=>True) (λ_=>rfl)
abbrev str:Ty ByteArray:=scalar Value.string (λx=>x.size<=9223372036854775807) (λ_=>rfl)
def At{α:Type}(d:Ty α)(w:World)(O:Nat->Prop)(A:Option Addr)(xs:List α):Prop :=
 xs.length<=9223372036854775807/\(xs=[]\/∃ b o,A=some ⟨b,o,none⟩/\O b/\b<w.heap.size /\
  ∀ i (h:i<xs.length),∃ cs,d.R w O xs[i] cs/\∀ j (hj:j<cs.length),w.cell? ⟨b,o+i*d.sz+j,none⟩=some cs[j])
def slice{α:Type}(d:Ty α):Ty (List α) where
 sz:=1
 R:=λw O xs cs=>∃ A c,cs=[.slice A xs.length c]/\xs.length<=c/\(A=none->c=0)/\At d w O A xs
 len:=by rintro w O x cs ⟨A,c,rfl,_⟩;rfl
 one:=by
  rintro w O x cs ⟨A,c,rfl,_⟩ u hu;rw[List.mem_singleton.1 hu];rfl
 mono:=by
  rintro w O O' x cs h ⟨A,c,rfl,h0,h2,hm,h1⟩;refine⟨A,c,rfl,h0,h2,hm,h1.imp id ?_⟩;rintro⟨b,o,e,hb,hl,hc⟩;refine⟨b,o,e,h b hl hb,hl,λi hi=>?_⟩;obtain⟨cs,hr,hcs⟩:=hc i hi;exact⟨cs,d.mono h hr,hcs⟩
 move:=by
  rintro w w' O x cs hs h ⟨A,c,rfl,h0,h2,hm,h1⟩;refine⟨A,c,rfl,h0,h2,hm,h1.imp id ?_⟩;rintro⟨b,o,e,hb,hl,hc⟩;refine⟨b,o,e,hb,Nat.lt_of_lt_of_le hl hs,λi hi=>?_⟩;obtain⟨cs,hr,hcs⟩:=hc i hi;exact⟨cs,d.move hs h hr,λj hj=>by rw[<- hcs j hj];exact World.cell?_of_block (h b hl hb)⟩
def pair{α β:Type}(a:Ty α)(b:Ty β):Ty (α×β) where
 sz:=a.sz+b.sz
 R:=λw O x cs=>∃ c0 c1,cs=c0++c1/\a.R w O x.1 c0/\b.R w O x.2 c1
 len:=by
  rintro w O x cs ⟨c0,c1,rfl,h0,h1⟩;rw[List.length_append,a.len h0,b.len h1]
 one:=by
  rintro w O x cs ⟨c0,c1,rfl,h0,h1⟩ u hu;rcases List.mem_append.1 hu with hu|hu
  ·exact a.one h0 u hu
  ·exact b.one h1 u hu
 mono:=by
  rintro w O O' x cs h ⟨c0,c1,rfl,h0,h1⟩;exact⟨c0,c1,rfl,a.mono h h0,b.mono h h1⟩
 move:=by
  rintro w w' O x cs hs h ⟨c0,c1,rfl,h0,h1⟩;exact⟨c0,c1,rfl,a.move hs h h0,b.move hs h h1⟩
def iso{α β:Type}(d:Ty α)(f:β->α):Ty β where
 sz:=d.sz
 R:=λw O x cs=>d.R w O (f x) cs
 len:=d.len
 one:=d.one
 mono:=d.mono
 move:=d.move
end Ty
abbrev strs:Ty (List ByteArray):=Ty.slice Ty.str
structure GWord where
 surface:ByteArray
 left:Int
 right:Int
 weight:Int
 pos:List ByteArray
 contents:List ByteArray
structure Tm where
 name:ByteArray
 invoke:Bool
 group:Bool
structure Qq where
 lo:Int
 hi:Int
 cls:Int
structure GUnk where
 cls:Int
 left:Int
 right:Int
 weight:Int
 contents:List ByteArray
structure GMark where
 name:ByteArray
 place:Int
structure GRec where
 text:ByteArray
 tokens:List ByteArray
 yomi:List ByteArray
 pos:ByteArray
structure Zg where
 words:List GWord
 rows:Int
 cols:Int
 costs:List Int
 classes:List Tm
 chars:List Qq
 unknown:List GUnk
 meta0:List GMark
 unkMeta:List GMark
 hasUser:Bool
 user:List GRec
instance:Inhabited GWord:=⟨⟨.empty,0,0,0,[],[]⟩⟩
instance:Inhabited GUnk:=⟨⟨0,0,0,0,[]⟩⟩
instance:Inhabited GRec:=⟨⟨.empty,[],[],.empty⟩⟩
def tWord:Ty GWord:=.iso (.pair .str (.pair .int (.pair .int (.pair .int (.pair strs strs))))) (λx=>(x.surface,x.left,x.right,x.weight,x.pos,x.contents))
def tClass:Ty Tm:=.iso (.pair .str (.pair .bool .bool)) (λx=>(x.name,x.invoke,x.group))
def tChars:Ty Qq:=.iso (.pair .int (.pair .int .int)) (λx=>(x.lo,x.hi,x.cls))
def tUnk:Ty GUnk:=.iso (.pair .int (.pair .int (.pair .int (.pair .int strs)))) (λx=>(x.cls,x.left,x.right,x.weight,x.contents))
def tMark:Ty GMark:=.iso (.pair .str .int) (λx=>(x.name,x.place))
def tRec:Ty GRec:=.iso (.pair .str (.pair strs (.pair strs .str))) (λx=>(x.text,x.tokens,x.yomi,x.pos))
def tDict:Ty Zg:=.iso (.pair (.slice tWord) (.pair .int (.pair .int (.pair (.slice .int) (.pair (.slice tClass) (.pair (.slice tChars) (.pair (.slice tUnk) (.pair (.slice tMark) (.pair (.slice tMark) (.pair .bool (.slice tRec)))))))))))
 (λd=>(d.words,d.rows,d.cols,d.costs,d.classes,d.chars,d.unknown,d.meta0,d.unkMeta,d.hasUser,d.user))
theorem Mw{w:World}{O:Nat->Prop}{x:List ByteArray}{cs:List Value}(h:strs.R w O x cs):∃ v,cs=[v]:=by
 obtain⟨A,c,rfl,_⟩:=h;exact⟨_,rfl⟩
theorem Ua{w:World}{O:Nat->Prop}{x:GWord}{cs:List Value}(h:tWord.R w O x cs) :
  ∃ p q,cs=[.string x.surface,.int .i64 x.left,.int .i64 x.right,.int .i64 x.weight,p,q]/\strs.R w O x.pos [p]/\strs.R w O x.contents [q]/\x.surface.size<=9223372036854775807:=by
 obtain⟨_,_,rfl,⟨rfl,hs⟩,_,_,rfl,⟨rfl,_⟩,_,_,rfl,⟨rfl,_⟩,_,_,rfl,⟨rfl,_⟩,_,_,rfl,⟨A,c,rfl,h1⟩,⟨A',c',rfl,h2⟩⟩:=h;exact⟨_,_,rfl,⟨A,c,rfl,h1⟩,⟨A',c',rfl,h2⟩,hs⟩
theorem Q5{w:World}{O:Nat->Prop}{x:Tm}{cs:List Value}(h:tClass.R w O x cs):cs=[.string x.name,.bool x.invoke,.bool x.group]:=by
 obtain⟨_,_,rfl,⟨rfl,_⟩,_,_,rfl,⟨rfl,_⟩,⟨rfl,_⟩⟩:=h;rfl
theorem Bh{w:World}{O:Nat->Prop}{x:Qq}{cs:List Value}(h:tChars.R w O x cs):cs=[.int .i64 x.lo,.int .i64 x.hi,.int .i64 x.cls]:=by
 obtain⟨_,_,rfl,⟨rfl,_⟩,_,_,rfl,⟨rfl,_⟩,⟨rfl,_⟩⟩:=h;rfl
theorem Rq{w:World}{O:Nat->Prop}{x:GUnk}{cs:List Value}(h:tUnk.R w O x cs) :
  ∃ q,cs=[.int .i64 x.cls,.int .i64 x.left,.int .i64 x.right,.int .i64 x.weight,q]/\strs.R w O x.contents [q]:=by
 obtain⟨_,_,rfl,⟨rfl,_⟩,_,_,rfl,⟨rfl,_⟩,_,_,rfl,⟨rfl,_⟩,_,_,rfl,⟨rfl,_⟩,⟨A,c,rfl,h1⟩⟩:=h;exact⟨_,rfl,⟨A,c,rfl,h1⟩⟩
theorem On{w:World}{O:Nat->Prop}{x:GMark}{cs:List Value}(h:tMark.R w O x cs):cs=[.string x.name,.int .i64 x.place]/\x.name.size<=9223372036854775807 /\ -9223372036854775808<=x.place/\x.place<=9223372036854775807:=by
 obtain⟨_,_,rfl,⟨rfl,h0⟩,⟨rfl,h1,h2⟩⟩:=h;exact⟨rfl,h0,h1,h2⟩
theorem Pt{w:World}{O:Nat->Prop}{x:GRec}{cs:List Value}(h:tRec.R w O x cs) :
  ∃ p q,cs=[.string x.text,p,q,.string x.pos]/\strs.R w O x.tokens [p]/\strs.R w O x.yomi [q]/\x.text.size<=9223372036854775807/\x.pos.size<=9223372036854775807:=by
 obtain⟨_,_,rfl,⟨rfl,h0⟩,_,_,rfl,⟨A,c,rfl,h1⟩,_,_,rfl,⟨A',c',rfl,h2⟩,⟨rfl,h3⟩⟩:=h;exact⟨_,_,rfl,⟨A,c,rfl,h1⟩,⟨A',c',rfl,h2⟩,h0,h3⟩
theorem Yy{w:World}{O:Nat->Prop}{d:Zg}{cs:List Value}(h:tDict.R w O d cs) :
  ∃ A1 c1 A2 c2 A3 c3 A4 c4 A5 c5 A6 c6 A7 c7 A8 c8,cs=[.slice A1 d.words.length c1,.int .i64 d.rows,.int .i64 d.cols,.slice A2 d.costs.length c2,.slice A3 d.classes.length c3,.slice A4 d.chars.length c4,.slice A5 d.unknown.length c5,.slice A6 d.meta0.length c6,.slice A7 d.unkMeta.length c7,.bool d.hasUser,.slice A8 d.user.length c8] /\
   (d.words.length<=c1/\(A1=none->c1=0)/\tWord.At w O A1 d.words)/\(d.costs.length<=c2/\(A2=none->c2=0)/\Ty.int.At w O A2 d.costs)/\(d.classes.length<=c3/\(A3=none->c3=0)/\tClass.At w O A3 d.classes)/\(d.chars.length<=c4/\(A4=none->c4=0)/\tChars.At w O A4 d.chars) /\
   (d.unknown.length<=c5/\(A5=none->c5=0)/\tUnk.At w O A5 d.unknown)/\(d.meta0.length<=c6/\(A6=none->c6=0)/\tMark.At w O A6 d.meta0)/\(d.unkMeta.length<=c7/\(A7=none->c7=0)/\tMark.At w O A7 d.unkMeta)/\(d.user.length<=c8/\(A8=none->c8=0)/\tRec.At w O A8 d.user) /\
   (-9223372036854775808<=d.rows/\d.rows<=9223372036854775807)/\(-9223372036854775808<=d.cols/\d.cols<=9223372036854775807):=by
 obtain⟨_,_,rfl,⟨A1,c1,rfl,h1⟩,_,_,rfl,⟨rfl,hr⟩,_,_,rfl,⟨rfl,hc⟩,_,_,rfl,⟨A2,c2,rfl,h2⟩,_,_,rfl,⟨A3,c3,rfl,h3⟩,_,_,rfl,⟨A4,c4,rfl,h4⟩,_,_,rfl,⟨A5,c5,rfl,h5⟩,_,_,rfl,⟨A6,c6,rfl,h6⟩,_,_,rfl,⟨A7,c7,rfl,h7⟩,_,_,rfl,⟨rfl,_⟩,⟨A8,c8,rfl,h8⟩⟩:=h;exact⟨_,_,_,_,_,_,_,_,_,_,_,_,_,_,_,_,rfl,h1,h2,h3,h4,h5,h6,h7,h8,hr,hc⟩
section
variable{w:World}{O:Nat->Prop}{A:Option Addr}
theorem Dw{α:Type}{d:Ty α}{xs:List α}{S:Nat->Prop}{w':World}(h:d.At w O A xs)(f:Fr S w w')(hs:∀ k,k<w.heap.size->O k->¬ S k):d.At w' O A xs:=by
 refine⟨h.1,h.2.imp id ?_⟩;rintro⟨b,o,e,hb,hl,hc⟩;refine⟨b,o,e,hb,Nat.lt_of_lt_of_le hl f.size,λi hi=>?_⟩;obtain⟨cs,hr,hcs⟩:=hc i hi;exact⟨cs,d.keep hr f hs,λj hj=>f.cell (hcs j hj) (hs b hl hb)⟩
theorem Z3{α:Type}{d:Ty α}{xs:List α}{w':World}(h:d.At w O A xs)(f:Zf w w'):d.At w' O A xs:=Dw h f (λ_ _ _=>id)
theorem Vw{xs:List ByteArray}(h:Ty.str.At w O A xs)(k:Nat)(hk:k<xs.length):∃ b o,A=some ⟨b,o,none⟩/\O b/\b<w.heap.size/\w.cell? ⟨b,o+k,none⟩=some (.string xs[k])/\xs[k].size<=9223372036854775807:=by
 rcases h.2 with rfl|⟨b,o,rfl,hb,hl,hc⟩
 ·simp at hk
 ·obtain⟨cs,⟨rfl,hp⟩,hcs⟩:=hc k hk;have c0:=hcs 0 (by simp);have e:o+k*1+0=o+k:=Om
  exact⟨b,o,rfl,hb,hl,by rw[<- e];exact c0,hp⟩
theorem Zcq{xs:List Int}(h:Ty.int.At w O A xs)(k:Nat)(hk:k<xs.length):∃ b o,A=some ⟨b,o,none⟩/\O b/\b<w.heap.size/\w.cell? ⟨b,o+k,none⟩=some (.int .i64 xs[k]) /\ -9223372036854775808<=xs[k]/\xs[k]<=9223372036854775807:=by
 rcases h.2 with rfl|⟨b,o,rfl,hb,hl,hc⟩
 ·simp at hk
 ·obtain⟨cs,⟨rfl,hp⟩,hcs⟩:=hc k hk;have c0:=hcs 0 (by simp);have e:o+k*1+0=o+k:=Om
  exact⟨b,o,rfl,hb,hl,by rw[<- e];exact c0,hp⟩
theorem Nf{xs:List GWord}(h:tWord.At w O A xs)(k:Nat)(hk:k<xs.length):∃ b o p q,A=some ⟨b,o,none⟩/\O b/\b<w.heap.size/\strs.R w O xs[k].pos [p]/\strs.R w O xs[k].contents [q]/\xs[k].surface.size<=9223372036854775807 /\
  w.cell? ⟨b,o+k*6,none⟩=some (.string xs[k].surface)/\w.cell? ⟨b,o+k*6+1,none⟩=some (.int .i64 xs[k].left)/\w.cell? ⟨b,o+k*6+2,none⟩=some (.int .i64 xs[k].right) /\
  w.cell? ⟨b,o+k*6+3,none⟩=some (.int .i64 xs[k].weight)/\w.cell? ⟨b,o+k*6+4,none⟩=some p/\w.cell? ⟨b,o+k*6+5,none⟩=some q:=by
 rcases h.2 with rfl|⟨b,o,rfl,hb,hl,hc⟩
 ·simp at hk
 ·obtain⟨cs,hr,hcs⟩:=hc k hk;obtain⟨p,q,rfl,h1,h2,h3⟩:=Ua hr;exact⟨b,o,p,q,rfl,hb,hl,h1,h2,h3,hcs 0 (by simp),hcs 1 (by simp),hcs 2 (by simp),hcs 3 (by simp),hcs 4 (by simp),hcs 5 (by simp)⟩
theorem Zje{xs:List Tm}(h:tClass.At w O A xs)(k:Nat)(hk:k<xs.length):∃ b o,A=some ⟨b,o,none⟩/\O b/\b<w.heap.size /\
  w.cell? ⟨b,o+k*3,none⟩=some (.string xs[k].name)/\w.cell? ⟨b,o+k*3+1,none⟩=some (.bool xs[k].invoke)/\w.cell? ⟨b,o+k*3+2,none⟩=some (.bool xs[k].group):=by
 rcases h.2 with rfl|⟨b,o,rfl,hb,hl,hc⟩
 ·simp at hk
 ·obtain⟨cs,hr,hcs⟩:=hc k hk;cases Q5 hr;exact⟨b,o,rfl,hb,hl,hcs 0 (by simp),hcs 1 (by simp),hcs 2 (by simp)⟩
theorem Zbf{xs:List Qq}(h:tChars.At w O A xs)(k:Nat)(hk:k<xs.length):∃ b o,A=some ⟨b,o,none⟩/\O b/\b<w.heap.size /\
  w.cell? ⟨b,o+k*3,none⟩=some (.int .i64 xs[k].lo)/\w.cell? ⟨b,o+k*3+1,none⟩=some (.int .i64 xs[k].hi)/\w.cell? ⟨b,o+k*3+2,none⟩=some (.int .i64 xs[k].cls):=by
 rcases h.2 with rfl|⟨b,o,rfl,hb,hl,hc⟩
 ·simp at hk
 ·obtain⟨cs,hr,hcs⟩:=hc k hk;cases Bh hr;exact⟨b,o,rfl,hb,hl,hcs 0 (by simp),hcs 1 (by simp),hcs 2 (by simp)⟩
theorem Zgx{xs:List GUnk}(h:tUnk.At w O A xs)(k:Nat)(hk:k<xs.length):∃ b o q,A=some ⟨b,o,none⟩/\O b/\b<w.heap.size/\strs.R w O xs[k].contents [q] /\
  w.cell? ⟨b,o+k*5,none⟩=some (.int .i64 xs[k].cls)/\w.cell? ⟨b,o+k*5+1,none⟩=some (.int .i64 xs[k].left)/\w.cell? ⟨b,o+k*5+2,none⟩=some (.int .i64 xs[k].right) /\
  w.cell? ⟨b,o+k*5+3,none⟩=some (.int .i64 xs[k].weight)/\w.cell? ⟨b,o+k*5+4,none⟩=some q:=by
 rcases h.2 with rfl|⟨b,o,rfl,hb,hl,hc⟩
 ·simp at hk
 ·obtain⟨cs,hr,hcs⟩:=hc k hk;obtain⟨q,rfl,h1⟩:=Rq hr;exact⟨b,o,q,rfl,hb,hl,h1,hcs 0 (by simp),hcs 1 (by simp),hcs 2 (by simp),hcs 3 (by simp),hcs 4 (by simp)⟩
theorem Dc{xs:List GMark}(h:tMark.At w O A xs)(k:Nat)(hk:k<xs.length):∃ b o,A=some ⟨b,o,none⟩/\O b/\b<w.heap.size /\
  w.cell? ⟨b,o+k*2,none⟩=some (.string xs[k].name)/\w.cell? ⟨b,o+k*2+1,none⟩=some (.int .i64 xs[k].place) /\ -9223372036854775808<=xs[k].place/\xs[k].place<=9223372036854775807:=by
 rcases h.2 with rfl|⟨b,o,rfl,hb,hl,hc⟩
 ·simp at hk
 ·obtain⟨cs,hr,hcs⟩:=hc k hk;obtain⟨rfl,h0,h1,h2⟩:=On hr;exact⟨b,o,rfl,hb,hl,hcs 0 (by simp),hcs 1 (by simp),h1,h2⟩
theorem Eu{xs:List GRec}(h:tRec.At w O A xs)(k:Nat)(hk:k<xs.length):∃ b o p q,A=some ⟨b,o,none⟩/\O b/\b<w.heap.size/\strs.R w O xs[k].tokens [p]/\strs.R w O xs[k].yomi [q]/\xs[k].text.size<=9223372036854775807/\xs[k].pos.size<=9223372036854775807 /\
  w.cell? ⟨b,o+k*4,none⟩=some (.string xs[k].text)/\w.cell? ⟨b,o+k*4+1,none⟩=some p/\w.cell? ⟨b,o+k*4+2,none⟩=some q/\w.cell? ⟨b,o+k*4+3,none⟩=some (.string xs[k].pos):=by
 rcases h.2 with rfl|⟨b,o,rfl,hb,hl,hc⟩
 ·simp at hk
 ·obtain⟨cs,hr,hcs⟩:=hc k hk;obtain⟨p,q,rfl,h1,h2,h3,h4⟩:=Pt hr;exact⟨b,o,p,q,rfl,hb,hl,h1,h2,h3,h4,hcs 0 (by simp),hcs 1 (by simp),hcs 2 (by simp),hcs 3 (by simp)⟩
end
end DT
end
section
open Go.RowKit DT Go.Deep Go.Lib
def Iz{α:Type}(T:TypeId)(D:Ty α):Prop:=∀ {H:Type} (enc:TypeId×Value->H) (w:World) (sp:Nat->Bool) (fuel:Nat) (cs:List Value) (x:DataW H×List MemPlace),DataW.trod enc Tryz.prog w 0 sp true fuel T cs=some x->∃ a,D.R w (λ_=>True) a cs
theorem Vy{T:TypeId}(ht:Tryz.prog.underlying T=some (.int .i64)):Iz T Ty.int:=by
 intro H enc w sp fuel cs x h;obtain⟨n,rfl,_,hw⟩:=DataW.trod_int ht h;exact⟨n,rfl,bounds_i64 hw⟩
theorem Ey{T:TypeId}(ht:Tryz.prog.underlying T=some .bool):Iz T Ty.bool:=by
 intro H enc w sp fuel cs x h;obtain⟨b,rfl,_⟩:=DataW.trod_bool ht h;exact⟨b,rfl,trivial⟩
theorem M4{T:TypeId}(ht:Tryz.prog.underlying T=some .string):Iz T Ty.str:=by
 intro H enc w sp fuel cs x h;obtain⟨s,rfl,_,hs⟩:=DataW.trod_string ht h;unfold maxLen at hs;exact⟨s,rfl,Om⟩
theorem Up{α:Type}[Inhabited α]{T e:TypeId}{D:Ty α}(ht:Tryz.prog.underlying T=some (.slice e))(hc:Tryz.prog.cellsOf e=D.sz)(hz:0<D.sz)(hd:Iz e D):Iz T (Ty.slice D):=by
 intro H enc w sp fuel cs x h;rcases open_slice ht h with ⟨rfl,_⟩|⟨a,len,cap,m,n,Dd,Pl,rfl,_,hl,hm,hmm,_,hel⟩
 ·exact⟨[],none,0,rfl,Nl _,λ_=>rfl,by simp,.inl rfl⟩
 ·have hlm:len<=m:=by rw[hmm];split<;>omega
  unfold maxLen at hm
  obtain⟨f,hf⟩:=choose_lt (α:=α) (n:=len) (p:=λi y=>∃ cs',w.cells? 0 (a.add (i*Tryz.prog.cellsOf e)) (Tryz.prog.cellsOf e)=some cs'/\D.R w (λ_=>True) y cs') (λi hi=>by
   obtain⟨cs',h1,h2⟩:=hel i Om;obtain⟨y,hy⟩:=hd enc w sp n cs' _ h2
   exact⟨y,cs',h1,hy⟩)
  refine⟨(List.range len).map f,some a,cap,by simp,by simpa using hl,(λe=>by cases e),by simp;omega,?_⟩;by_cases h0:len=0
  ·left;subst h0;rfl
  right;obtain⟨b,o,spot⟩:=a;obtain⟨cs0,k1,k2⟩:=hf 0 Om;obtain⟨_,k4,k5⟩:=World.cells?_some k1;have hl0:=D.len k2;have hne:0<cs0.length:=Om
  have kc:=k5 0 Om;rw[Ge hne]at kc
  have hsp:spot=none:=by
   have:=World.cell?_spot kc;simpa [Addr.add] using this
  subst hsp
  have hbl:b<w.heap.size:=by
   have:=World.block_lt_of_cell? w _ kc;simpa [Addr.add] using this
  refine⟨b,o,rfl,trivial,hbl,λi hi=>?_⟩;have hi':i<len:=by simpa using hi
  obtain⟨cs',h1,h2⟩:=hf i hi';obtain⟨_,h4,h5⟩:=World.cells?_some h1;refine⟨cs',by simpa using h2,λj hj=>?_⟩;have:=h5 j Om;rw[Ge hj,hc]at this;rw[<- this];simp only[Go.WideShapes.add_plain]
theorem Zl8{α:Type}{l:List α}(i:Nat)(v:α)(h:l[i]?=some v):(l.drop i).take 1=[v]:=by
 have hic:=(Gl.1 h).1;rw[List.drop_eq_getElem_cons hic];rw[Ge hic]at h;simp[Option.some.inj h]
theorem Rt{T:TypeId}{fs:Array Field}(ht:Tryz.prog.underlying T=some (.struct fs))(hone:oneCellFields Tryz.prog fs=true)(hct:Tryz.prog.cellsOf T=fs.size){H:Type}(enc:TypeId×Value->H)(w:World)(sp:Nat->Bool)(fuel:Nat)(cs:List Value)(x:DataW H×List MemPlace)(h:DataW.trod enc Tryz.prog w 0 sp true fuel T cs=some x) :
  cs.length=fs.size/\∀ (i:Nat) (f:Field) (v:Value),fs[i]?=some f->cs[i]?=some v->∃ n y,DataW.trod enc Tryz.prog w 0 sp true n f.type [v]=some y:=by
 obtain⟨xs,n,rfl,_,hl,hxl,hall⟩:=DataW.trod_struct ht h;refine⟨by rw[hl,hct],λi f v hf hv=>?_⟩;obtain⟨o,k⟩:=hone_of hone i f hf;have h1:=hall i f hf;have hi:i<fs.size:=(Gs1.1 hf).1;obtain⟨y,hy⟩:∃ y,xs[i]?=some y:=⟨xs[i]' Om,Ge Om⟩;rw[hy,o,k]at h1;exact⟨n,y,by rw[<- Zl8 i v hv];exact h1⟩
theorem Zni{α:Type}{l:List α}(h:l.length=2):∃ a b,l=[a,b]:=by
 match l,h with
 | [a,b],_=>exact⟨a,b,rfl⟩
theorem Zl7{α:Type}{l:List α}(h:l.length=3):∃ a b c,l=[a,b,c]:=by
 match l,h with
 | [a,b,c],_=>exact⟨a,b,c,rfl⟩
theorem Zl6{α:Type}{l:List α}(h:l.length=4):∃ a b c d,l=[a,b,c,d]:=by
 match l,h with
 | [a,b,c,d],_=>exact⟨a,b,c,d,rfl⟩
theorem Znh{α:Type}{l:List α}(h:l.length=5):∃ a b c d e,l=[a,b,c,d,e]:=by
 match l,h with
 | [a,b,c,d,e],_=>exact⟨a,b,c,d,e,rfl⟩
theorem Zng{α:Type}{l:List α}(h:l.length=6):∃ a b c d e f,l=[a,b,c,d,e,f]:=by
 match l,h with
 | [a,b,c,d,e,f],_=>exact⟨a,b,c,d,e,f,rfl⟩
theorem Zic{α:Type}{l:List α}(h:l.length=11):∃ a b c d e f g i j k m,l=[a,b,c,d,e,f,g,i,j,k,m]:=by
 match l,h with
 | [a,b,c,d,e,f,g,i,j,k,m],_=>exact⟨a,b,c,d,e,f,g,i,j,k,m,rfl⟩
theorem Ew:Iz 34 strs:=Up Tryz.underlying34 Kr (by decide) (M4 Tryz.underlying9)
theorem Zkv:Iz 53 tWord:=by
 intro H enc w sp fuel cs x h;obtain⟨hl,hf⟩:=Rt Tryz.underlying53 Kr Kr enc w sp fuel cs x h;obtain⟨v0,v1,v2,v3,v4,v5,rfl⟩:=Zng hl;obtain⟨_,_,h0⟩:=hf 0 _ _ rfl rfl;obtain⟨_,_,h1⟩:=hf 1 _ _ rfl rfl;obtain⟨_,_,h2⟩:=hf 2 _ _ rfl rfl;obtain⟨_,_,h3⟩:=hf 3 _ _ rfl rfl;obtain⟨_,_,h4⟩:=hf 4 _ _ rfl rfl;obtain⟨_,_,h5⟩:=hf 5 _ _ rfl rfl;obtain⟨a0,r0⟩:=M4 Tryz.underlying9 enc w sp _ _ _ h0;obtain⟨a1,r1⟩:=Vy Tryz.underlying3 enc w sp _ _ _ h1;obtain⟨a2,r2⟩:=Vy Tryz.underlying3 enc w sp _ _ _ h2;obtain⟨a3,r3⟩:=Vy Tryz.underlying3 enc w sp _ _ _ h3;obtain⟨a4,r4⟩:=Ew enc w sp _ _ _ h4;obtain⟨a5,r5⟩:=Ew enc w sp _ _ _ h5;exact⟨⟨a0,a1,a2,a3,a4,a5⟩,[v0],_,rfl,r0,[v1],_,rfl,r1,[v2],_,rfl,r2,[v3],_,rfl,r3,[v4],[v5],rfl,r4,r5⟩
theorem Zhu:Iz 166 tClass:=by
 intro H enc w sp fuel cs x h;obtain⟨hl,hf⟩:=Rt Tryz.underlying166 Kr Kr enc w sp fuel cs x h;obtain⟨v0,v1,v2,rfl⟩:=Zl7 hl;obtain⟨_,_,h0⟩:=hf 0 _ _ rfl rfl;obtain⟨_,_,h1⟩:=hf 1 _ _ rfl rfl;obtain⟨_,_,h2⟩:=hf 2 _ _ rfl rfl;obtain⟨a0,r0⟩:=M4 Tryz.underlying9 enc w sp _ _ _ h0;obtain⟨a1,r1⟩:=Ey Tryz.underlying4 enc w sp _ _ _ h1;obtain⟨a2,r2⟩:=Ey Tryz.underlying4 enc w sp _ _ _ h2;exact⟨⟨a0,a1,a2⟩,[v0],_,rfl,r0,[v1],[v2],rfl,r1,r2⟩
theorem Zhv:Iz 121 tChars:=by
 intro H enc w sp fuel cs x h;obtain⟨hl,hf⟩:=Rt Tryz.underlying121 Kr Kr enc w sp fuel cs x h;obtain⟨v0,v1,v2,rfl⟩:=Zl7 hl;obtain⟨_,_,h0⟩:=hf 0 _ _ rfl rfl;obtain⟨_,_,h1⟩:=hf 1 _ _ rfl rfl;obtain⟨_,_,h2⟩:=hf 2 _ _ rfl rfl;obtain⟨a0,r0⟩:=Vy Tryz.underlying3 enc w sp _ _ _ h0;obtain⟨a1,r1⟩:=Vy Tryz.underlying3 enc w sp _ _ _ h1;obtain⟨a2,r2⟩:=Vy Tryz.underlying3 enc w sp _ _ _ h2;exact⟨⟨a0,a1,a2⟩,[v0],_,rfl,r0,[v1],[v2],rfl,r1,r2⟩
theorem Zmi:Iz 36 tUnk:=by
 intro H enc w sp fuel cs x h;obtain⟨hl,hf⟩:=Rt Tryz.underlying36 Kr Kr enc w sp fuel cs x h;obtain⟨v0,v1,v2,v3,v4,rfl⟩:=Znh hl;obtain⟨_,_,h0⟩:=hf 0 _ _ rfl rfl;obtain⟨_,_,h1⟩:=hf 1 _ _ rfl rfl;obtain⟨_,_,h2⟩:=hf 2 _ _ rfl rfl;obtain⟨_,_,h3⟩:=hf 3 _ _ rfl rfl;obtain⟨_,_,h4⟩:=hf 4 _ _ rfl rfl;obtain⟨a0,r0⟩:=Vy Tryz.underlying3 enc w sp _ _ _ h0;obtain⟨a1,r1⟩:=Vy Tryz.underlying3 enc w sp _ _ _ h1;obtain⟨a2,r2⟩:=Vy Tryz.underlying3 enc w sp _ _ _ h2;obtain⟨a3,r3⟩:=Vy Tryz.underlying3 enc w sp _ _ _ h3;obtain⟨a4,r4⟩:=Ew enc w sp _ _ _ h4;exact⟨⟨a0,a1,a2,a3,a4⟩,[v0],_,rfl,r0,[v1],_,rfl,r1,[v2],_,rfl,r2,[v3],[v4],rfl,r3,r4⟩
theorem Zdr:Iz 76 tMark:=by
 intro H enc w sp fuel cs x h;obtain⟨hl,hf⟩:=Rt Tryz.underlying76 Kr Kr enc w sp fuel cs x h;obtain⟨v0,v1,rfl⟩:=Zni hl;obtain⟨_,_,h0⟩:=hf 0 _ _ rfl rfl;obtain⟨_,_,h1⟩:=hf 1 _ _ rfl rfl;obtain⟨a0,r0⟩:=M4 Tryz.underlying9 enc w sp _ _ _ h0;obtain⟨a1,r1⟩:=Vy Tryz.underlying3 enc w sp _ _ _ h1;exact⟨⟨a0,a1⟩,[v0],[v1],rfl,r0,r1⟩
instance:Inhabited Tm:=⟨⟨.empty,false,false⟩⟩
instance:Inhabited Qq:=⟨⟨0,0,0⟩⟩
instance:Inhabited GMark:=⟨⟨.empty,0⟩⟩
end
end Go.Proofs.YtlfoalomaofejaaGreatDoor
section
namespace SS
open Go.Sort
variable{α:Type}[Inhabited α]
def Yx(lt:α->α->Bool)(tag:α->Nat)(x y:α):Bool:=lt x y||(!lt y x&&decide (tag x<tag y))
section
variable{lt:α->α->Bool}{tag:α->Nat}
omit [Inhabited α] in
theorem Nx(h:SWO lt):SWO (Yx lt tag):=by
 have asy:∀ x y,lt x y=true->lt y x=false:=λx y=>h.asymmA
 refine⟨λx=>by simp[Yx,h.irrefl],λx y z h1 h2=>?_,λx y z h1 h2=>?_⟩
 ·simp only[Yx,Bool.or_eq_true,Bool.and_eq_true,Bool.not_eq_true',decide_eq_true_eq]at h1 h2⊢;rcases h1 with h1|⟨h1,h1'⟩<;>rcases h2 with h2|⟨h2,h2'⟩
  ·exact .inl (h.trans x y z h1 h2)
  ·refine .inl ?_
   cases e:lt x z with
   | true=>rfl
   | false=>have:=h.ntrans x z y e h2;rw[h1]at this;cases this
  ·refine .inl ?_
   cases e:lt x z with
   | true=>rfl
   | false=>have:=h.ntrans y x z h1 e;rw[h2]at this;cases this
  ·exact .inr ⟨h.ntrans z y x h2 h1,Om⟩
 ·simp only[Yx,Bool.or_eq_false_iff,Bool.and_eq_false_iff,Bool.not_eq_false',decide_eq_false_iff_not]at h1 h2⊢;refine⟨h.ntrans x y z h1.1 h2.1,?_⟩;rcases h1.2 with a|a<;>rcases h2.2 with b|b
  ·exact .inl (h.trans z y x b a)
  ·refine .inl ?_
   cases e:lt z x with
   | true=>rfl
   | false=>have:=h.ntrans y z x h2.1 e;rw[a]at this;cases this
  ·refine .inl ?_
   cases e:lt z x with
   | true=>rfl
   | false=>have:=h.ntrans z x y e h1.1;rw[b]at this;cases this
  ·exact .inr Om
omit [Inhabited α] in
theorem Xv{x y:α}(h:tag y<tag x):Yx lt tag x y=lt x y:=by
 unfold Yx;have:decide (tag x<tag y)=false:=by simp;omega
 rw[this];simp
def Iy(d:Array α)(a b i:Nat)(d':Array α):Prop :=
 d'.size=d.size/\∀ x,d'[x]! = if a<=x/\x<a+i then d[b+(x-a)]! else if b<=x/\x<b+i then d[a+(x-b)]! else d[x]!
theorem Iy.zero(d:Array α)(a b:Nat):Iy d a b 0 d:=⟨rfl,λx=>by rw[if_neg Om,if_neg Om]⟩
theorem Iy.step{d d':Array α}{a b i:Nat}(h:Iy d a b i d')(hab:a+i<b)(hb:b+i<d.size):Iy d a b (i+1) (swp d' (a+i) (b+i)):=by
 refine⟨by rw[swp_size];exact h.1,λx=>?_⟩;rw[swp_get d' (by rw[h.1];omega) (by rw[h.1];omega)];simp only[h.2]
 (repeat' split)<;>first|rfl|(exfalso;omega)|(congr 1;omega)
def Vj(d:Array α)(a m b:Nat)(d':Array α):Prop :=
 d'.size=d.size/\∀ x,d'[x]! = if a<=x/\x<a+(b-m) then d[x+(m-a)]! else if a+(b-m)<=x/\x<b then d[x-(b-m)]! else d[x]!
def P6(d:Array α)(a m b i j:Nat)(dk:Array α):Prop:=dk.size=d.size/\i<=m-a/\j<=b-m/\∀ d',Vj dk (m-i) m (m+j) d'->Vj d a m b d'
theorem P6.start(d:Array α){a m b:Nat}(h1:a<=m)(h2:m<=b):P6 d a m b (m-a) (b-m) d :=
 ⟨rfl,Nl _,Nl _,λd' h=>by rw[(Om:m-(m-a)=a),(Om:m+(b-m)=b)]at h;exact h⟩
theorem P6.left{d dk d2:Array α}{a m b i j:Nat}(h:P6 d a m b i j dk)(ham:a<=m)(hmb:m<=b)(hlt:j<i)(hs:Iy dk (m-i) m j d2):P6 d a m b (i-j) j d2:=by
 obtain⟨h0,h1,h2,h3⟩:=h;refine⟨hs.1.trans h0,Om,h2,λd' hd=>h3 d' ⟨hd.1.trans hs.1,λx=>?_⟩⟩;rw[hd.2];simp only[hs.2]
 (repeat' split)<;>first|rfl|(exfalso;omega)|(congr 1;omega)
theorem P6.right{d dk d2:Array α}{a m b i j:Nat}(h:P6 d a m b i j dk)(ham:a<=m)(hmb:m<=b)(hlt:i<j)(hs:Iy dk (m-i) (m+j-i) i d2):P6 d a m b i (j-i) d2:=by
 obtain⟨h0,h1,h2,h3⟩:=h;refine⟨hs.1.trans h0,h1,Om,λd' hd=>h3 d' ⟨hd.1.trans hs.1,λx=>?_⟩⟩;rw[hd.2];simp only[hs.2]
 (repeat' split)<;>first|rfl|(exfalso;omega)|(congr 1;omega)
theorem P6.done{d dk d2:Array α}{a m b i:Nat}(h:P6 d a m b i i dk)(ham:a<=m)(hmb:m<=b)(hs:Iy dk (m-i) m i d2):Vj d a m b d2:=by
 obtain⟨h0,h1,h2,h3⟩:=h;refine h3 d2 ⟨hs.1,λx=>?_⟩;rw[hs.2]
 (repeat' split)<;>first|rfl|(exfalso;omega)|(congr 1;omega)
end
end SS
end
section
namespace SS
open Go.Sort
variable{α:Type}[Inhabited α]{lt:α->α->Bool}{tag:α->Nat}
theorem Jt{d d':Array α}{a m b:Nat}(h:Vj d a m b d')(h1:a<=m)(h2:m<=b)(h3:b<=d.size):PermIn a b d d':=by
 refine⟨h.1,λi hi=>by rw[h.2,if_neg Om,if_neg Om],?_⟩;rw[extract_toList d' a b (by rw[h.1];exact h3),extract_toList d a b h3]
 have e1:(List.range' a (b-a)).map (λi=>d'[i]!)=(List.range' m (b-m)).map (λi=>d[i]!)++(List.range' a (m-a)).map (λi=>d[i]!):=by
  apply List.ext_getElem
  ·simp;omega
  ·intro k k1 k2;simp only[List.length_map,List.length_range']at k1;simp only[List.getElem_map,List.getElem_range',List.getElem_append,List.length_map,List.length_range',h.2]
   (repeat' split)<;>first|rfl|(exfalso;omega)|(congr 1;omega)
 have e2:(List.range' a (b-a)).map (λi=>d[i]!)=(List.range' a (m-a)).map (λi=>d[i]!)++(List.range' m (b-m)).map (λi=>d[i]!):=by
  rw[<- List.map_append];congr 1;have:=List.range'_append_1 (s:=a) (m:=m-a) (n:=b-m);rw[(Om:a+(m-a)=m),(Om:m-a+(b-m)=b-a)]at this;exact this.symm
 rw[e1,e2];exact List.perm_append_comm
def Mg(L:α->α->Bool)(d:Array α)(a b:Nat)(d':Array α):Prop:=PermIn a b d d'/\SortedIn L a b d'
theorem Jj(d:Array α)(a:Nat):Vj d a (a+1) (a+1) d:=⟨rfl,λx=>by (repeat' split)<;>first|rfl|(exfalso;omega)|(congr 1;omega)⟩
theorem Jk{d dk:Array α}{a k:Nat}(h:Vj d a (a+1) (k+1) dk)(ha:a<=k)(hk:k+1<d.size):Vj d a (a+1) (k+2) (swp dk k (k+1)):=by
 refine⟨by rw[swp_size];exact h.1,λx=>?_⟩;rw[swp_get dk (by rw[h.1];omega) (by rw[h.1];omega)];simp only[h.2]
 (repeat' split)<;>first|rfl|(exfalso;omega)|(congr 1;omega)
theorem Jl(d:Array α)(m:Nat):Vj d m m (m+1) d:=⟨rfl,λx=>by (repeat' split)<;>first|rfl|(exfalso;omega)|(congr 1;omega)⟩
theorem Jm{d dk:Array α}{m k:Nat}(h:Vj d (k+1) m (m+1) dk)(hk:k+1<=m)(hm:m<d.size):Vj d k m (m+1) (swp dk (k+1) k):=by
 refine⟨by rw[swp_size];exact h.1,λx=>?_⟩;rw[swp_get dk (by rw[h.1];omega) (by rw[h.1];omega)];simp only[h.2]
 (repeat' split)<;>first|rfl|(exfalso;omega)|(congr 1;omega)
theorem Zci{L:α->α->Bool}(hL:SWO L){d d':Array α}{a i b:Nat}(h:Vj d a (a+1) i d')(h1:a+1<=i)(h2:i<=b)(hb:b<=d.size)
  (hs:SortedIn L (a+1) b d) (lo:∀ k,a+1<=k->k<i->L d[k]! d[a]! = true) (hi:∀ k,i<=k->k<b->L d[k]! d[a]! = false):Mg L d a b d':=by
 refine⟨permIn_mono _ _ _ _ _ _ (Nl _) h2 hb (Jt h Om h1 Om),λx y hx hxy hy=>?_⟩
 have ex:(d'[x]! = d[x+1]! /\ x<i-1)\/(d'[x]! = d[a]! /\ x=i-1)\/(d'[x]! = d[x]! /\ i<=x):=by
  rw[h.2];by_cases c1:x<i-1
  ·rw[if_pos Om];exact .inl ⟨by congr 1;omega,c1⟩
  ·rw[if_neg Om];by_cases c2:x=i-1
   ·rw[if_pos Om];exact .inr (.inl ⟨by congr 1;omega,c2⟩)
   ·rw[if_neg Om];exact .inr (.inr ⟨rfl,Om⟩)
 have ey:(d'[y]! = d[y+1]! /\ y<i-1)\/(d'[y]! = d[a]! /\ y=i-1)\/(d'[y]! = d[y]! /\ i<=y):=by
  rw[h.2];by_cases c1:y<i-1
  ·rw[if_pos Om];exact .inl ⟨by congr 1;omega,c1⟩
  ·rw[if_neg Om];by_cases c2:y=i-1
   ·rw[if_pos Om];exact .inr (.inl ⟨by congr 1;omega,c2⟩)
   ·rw[if_neg Om];exact .inr (.inr ⟨rfl,Om⟩)
 rcases ex with ⟨e,c⟩|⟨e,c⟩|⟨e,c⟩<;>rcases ey with ⟨e',c'⟩|⟨e',c'⟩|⟨e',c'⟩<;>rw[e,e']
 ·exact hs _ _ Om Om Om
 ·exact hL.asymmA (lo _ Om Om)
 ·exact hs _ _ Om Om Om
 ·omega
 ·omega
 ·exact hi _ Om Om
 ·omega
 ·omega
 ·exact hs _ _ Om Om Om
theorem Zch{L:α->α->Bool}(hL:SWO L){d d':Array α}{a i m:Nat}(h:Vj d i m (m+1) d')(h1:a<=i)(h2:i<=m)(hb:m+1<=d.size)
  (hs:SortedIn L a m d) (lo:∀ k,a<=k->k<i->L d[m]! d[k]! = false) (hi:∀ k,i<=k->k<m->L d[m]! d[k]! = true):Mg L d a (m+1) d':=by
 refine⟨permIn_mono _ _ _ _ _ _ h1 (Nl _) hb (Jt h h2 Om Om),λx y hx hxy hy=>?_⟩
 have en:∀ x,(d'[x]! = d[x]! /\ (x<i\/m<x))\/(d'[x]! = d[m]! /\ x=i)\/(d'[x]! = d[x-1]! /\ i<x/\x<=m):=by
  intro x;rw[h.2];by_cases c1:x=i
  ·rw[if_pos Om];exact .inr (.inl ⟨by congr 1;omega,c1⟩)
  ·rw[if_neg Om];by_cases c2:i<x/\x<=m
   ·rw[if_pos Om];exact .inr (.inr ⟨by congr 1;omega,c2⟩)
   ·rw[if_neg Om];exact .inl ⟨rfl,Om⟩
 rcases en x with ⟨e,c⟩|⟨e,c⟩|⟨e,c⟩<;>rcases en y with ⟨e',c'⟩|⟨e',c'⟩|⟨e',c'⟩<;>rw[e,e']
 ·exact hs _ _ Om Om Om
 ·exact lo _ Om Om
 ·exact hs _ _ Om Om Om
 ·omega
 ·omega
 ·exact hL.asymmA (hi _ Om Om)
 ·omega
 ·omega
 ·exact hs _ _ Om Om Om
theorem Zca{L:α->α->Bool}(hL:SWO L){d:Array α}{a m b n c c':Nat}(hA:SortedIn L a m d)(hB:SortedIn L m b d)(h1:a<=c')(h2:c'<=c)(h3:c<m)(h4:n-1-c'<b)(h5:m<=n-1-c)(h6:c<n)
  (hc:L d[n-1-c]! d[c]! = false):L d[n-1-c']! d[c']! = false:=by
 by_cases e:c'=c
 ·rw[e];exact hc
 ·exact hL.ntrans _ _ _ (hL.ntrans _ _ _ (hB _ _ h5 Om h4) hc) (hA _ _ h1 Om h3)
structure Cut(L:α->α->Bool)(d:Array α)(a m b s e:Nat):Prop where
 h1:a<=s
 h2:s<=m
 h3:m<=e
 h4:e<=b
 hA:SortedIn L a m d
 hB:SortedIn L m b d
 less:∀ i j,s<=i->i<m->m<=j->j<e->L d[j]! d[i]! = true
 more:∀ i j,a<=i->i<s->e<=j->j<b->L d[j]! d[i]! = false
theorem Cut.nth{L:α->α->Bool}{d d1:Array α}{a m b s e:Nat}(c:Cut L d a m b s e)(h:Vj d s m e d1)(x:Nat) :
  (d1[x]! = d[x]! /\ (x<s\/e<=x))\/(d1[x]! = d[x+(m-s)]! /\ s<=x/\x<s+(e-m))\/(d1[x]! = d[x-(e-m)]! /\ s+(e-m)<=x/\x<e):=by
 have:=c.h1;have:=c.h2;have:=c.h3;have:=c.h4;rw[h.2];by_cases c1:s<=x/\x<s+(e-m)
 ·rw[if_pos c1];exact .inr (.inl ⟨rfl,c1⟩)
 ·rw[if_neg c1];by_cases c2:s+(e-m)<=x/\x<e
  ·rw[if_pos c2];exact .inr (.inr ⟨rfl,c2⟩)
  ·rw[if_neg c2];exact .inl ⟨rfl,Om⟩
theorem Cut.sorts{L:α->α->Bool}{d d1:Array α}{a m b s e:Nat}(c:Cut L d a m b s e)(h:Vj d s m e d1) :
  SortedIn L a s d1/\SortedIn L s (s+(e-m)) d1/\SortedIn L (s+(e-m)) e d1/\SortedIn L e b d1:=by
 have:=c.h1;have:=c.h2;have:=c.h3;have:=c.h4;refine⟨λx y h1 h2 h3=>?_,λx y h1 h2 h3=>?_,λx y h1 h2 h3=>?_,λx y h1 h2 h3=>?_⟩
 ·rcases c.nth h x with ⟨e,c'⟩|⟨e,c'⟩|⟨e,c'⟩<;>rcases c.nth h y with ⟨e',c''⟩|⟨e',c''⟩|⟨e',c''⟩<;>first|(exfalso;omega)|(rw[e,e'];exact c.hA _ _ Om Om Om)
 ·rcases c.nth h x with ⟨e,c'⟩|⟨e,c'⟩|⟨e,c'⟩<;>rcases c.nth h y with ⟨e',c''⟩|⟨e',c''⟩|⟨e',c''⟩<;>first|(exfalso;omega)|(rw[e,e'];exact c.hB _ _ Om Om Om)
 ·rcases c.nth h x with ⟨e,c'⟩|⟨e,c'⟩|⟨e,c'⟩<;>rcases c.nth h y with ⟨e',c''⟩|⟨e',c''⟩|⟨e',c''⟩<;>first|(exfalso;omega)|(rw[e,e'];exact c.hA _ _ Om Om Om)
 ·rcases c.nth h x with ⟨e,c'⟩|⟨e,c'⟩|⟨e,c'⟩<;>rcases c.nth h y with ⟨e',c''⟩|⟨e',c''⟩|⟨e',c''⟩<;>first|(exfalso;omega)|(rw[e,e'];exact c.hB _ _ Om Om Om)
theorem Cut.tags{L:α->α->Bool}{d d1:Array α}{a m b s e:Nat}(c:Cut L d a m b s e)(h:Vj d s m e d1)(t:∀ i j,a<=i->i<m->m<=j->j<b->tag d[i]! < tag d[j]!) :
  (∀ i j,a<=i->i<s->s<=j->j<s+(e-m)->tag d1[i]! < tag d1[j]!)/\(∀ i j,s+(e-m)<=i->i<e->e<=j->j<b->tag d1[i]! < tag d1[j]!):=by
 have:=c.h1;have:=c.h2;have:=c.h3;have:=c.h4;refine⟨λx y h1 h2 h3 h4=>?_,λx y h1 h2 h3 h4=>?_⟩
 ·rcases c.nth h x with ⟨e,c'⟩|⟨e,c'⟩|⟨e,c'⟩<;>rcases c.nth h y with ⟨e',c''⟩|⟨e',c''⟩|⟨e',c''⟩<;>first|(exfalso;omega)|(rw[e,e'];exact t _ _ Om Om Om Om)
 ·rcases c.nth h x with ⟨e,c'⟩|⟨e,c'⟩|⟨e,c'⟩<;>rcases c.nth h y with ⟨e',c''⟩|⟨e',c''⟩|⟨e',c''⟩<;>first|(exfalso;omega)|(rw[e,e'];exact t _ _ Om Om Om Om)
theorem Zcg{L:α->α->Bool}(hL:SWO L){d d1 d2 d3:Array α}{a m b s e mid:Nat}(c:Cut L d a m b s e)(hm:mid=s+(e-m))(h:Vj d s m e d1)(hb:b<=d.size)
  (k2:Mg L d1 a mid d2) (k3:Mg L d2 mid b d3):Mg L d a b d3:=by
 have g1:=c.h1;have g2:=c.h2;have g3:=c.h3;have g4:=c.h4;have s1:d1.size=d.size:=h.1;have s2:d2.size=d.size:=k2.1.1.trans s1;have p1:PermIn a b d d1:=permIn_mono _ _ _ _ _ _ g1 g4 hb (Jt h g2 g3 Om);have p2:PermIn a b d1 d2:=permIn_mono _ _ _ _ _ _ (Nl _) Om Om k2.1;have p3:PermIn a b d2 d3:=permIn_mono _ _ _ _ _ _ Om (Nl _) Om k3.1;refine⟨permIn_trans _ _ _ _ _ p1 (permIn_trans _ _ _ _ _ p2 p3),?_⟩
 have cross:∀ x y,a<=x->x<mid->mid<=y->y<b->L d1[y]! d1[x]! = false:=by
  intro x y x1 x2 y1 y2;rcases c.nth h x with ⟨e,c'⟩|⟨e,c'⟩|⟨e,c'⟩<;>rcases c.nth h y with ⟨e',c''⟩|⟨e',c''⟩|⟨e',c''⟩<;>first|(exfalso;omega)|rw[e,e']
  ·exact c.more _ _ Om Om Om Om
  ·exact c.hA _ _ Om Om Om
  ·exact c.hB _ _ Om Om Om
  ·exact hL.asymmA (c.less _ _ Om Om Om Om)
 have cross2:∀ y,mid<=y->y<b->∀ x,a<=x->x<mid->L d1[y]! d2[x]! = false:=λy y1 y2 =>
  permIn_all d1 d2 a mid (λu=>L d1[y]! u=false) Om k2.1 (λx x1 x2=>cross x y x1 x2 y1 y2)
 have cross3:∀ x,a<=x->x<mid->∀ y,mid<=y->y<b->L d3[y]! d2[x]! = false:=λx x1 x2 =>
  permIn_all d2 d3 mid b (λu=>L u d2[x]! = false) Om k3.1 (λy y1 y2=>by rw[k2.1.2.1 y Om];exact cross2 y y1 y2 x x1 x2)
 intro x y hx hxy hy;rcases Nat.lt_or_ge y mid with q|q
 ·rw[k3.1.2.1 x Om,k3.1.2.1 y Om];exact k2.2 x y hx hxy q
 ·rcases Nat.lt_or_ge x mid with r|r
  ·rw[k3.1.2.1 x Om];exact cross3 x hx r y q hy
  ·exact k3.2 x y r hxy hy
end SS
end
section
namespace SS
open Go.Sort
variable{α:Type}[Inhabited α]{lt:α->α->Bool}{tag:α->Nat}
theorem Rk{L:α->α->Bool}(hL:SWO L){d:Array α}{a m b s mid n lo hi:Nat}(hmid:mid=(a+b) / 2)(hn:n=mid+m)
  (hlo:lo=if m > mid then n-b else a) (hhi:hi=if m > mid then mid else m) (h1:lo<=s) (h2:s<=hi) (hA:SortedIn L a m d) (hB:SortedIn L m b d)
  (low:∀ c,lo<=c->c<s->L d[n-1-c]! d[c]! = false) (high:∀ c,s<=c->c<hi->L d[n-1-c]! d[c]! = true):Cut L d a m b s (n-s)/\mid=s+(n-s-m)/\a<=lo/\hi<=m/\hi<=mid:=by
 have f1:a<=lo:=by split at hlo<;>omega
 have f2:hi<=m:=by split at hhi<;>omega
 have f3:hi<=mid:=by split at hhi<;>omega
 have f4:n-lo<=b:=by split at hlo<;>omega
 have f5:m<=n-s:=Om
 refine⟨⟨Om,Om,f5,Om,hA,hB,λi j i1 i2 j1 j2=>?_,λi j i1 i2 j1 j2=>?_⟩,Om,f1,f2,f3⟩
 ·have hs:s<hi:=by split at hhi<;>omega
  have F:=high s (Nl _) hs
  cases e:L d[j]! d[i]! with
  | true=>rfl
  | false =>
   have g1:L d[j]! d[s]! = false:=by
    by_cases q:i=s
    ·rw[<- q];exact e
    ·exact hL.ntrans _ _ _ e (hA _ _ Om Om i2)
   have g2:L d[n-1-s]! d[s]! = false:=by
    by_cases q:j=n-1-s
    ·rw[<- q];exact g1
    ·exact hL.ntrans _ _ _ (hB _ _ j1 Om Om) g1
   rw[F]at g2;cases g2
 ·have hs:lo<s:=by split at hlo<;>omega
  have F:=low (s-1) Om Om;rw[(Om:n-1-(s-1)=n-s)]at F
  have g1:L d[j]! d[s-1]! = false:=by
   by_cases q:j=n-s
   ·rw[q];exact F
   ·exact hL.ntrans _ _ _ (hB _ _ f5 Om j2) F
  by_cases q:i=s-1
  ·rw[q];exact g1
  ·exact hL.ntrans _ _ _ g1 (hA _ _ i1 Om Om)
theorem N5(a:Nat):∀ (j:Nat) (d:Array α),j<d.size->(∀ x,a<=x->x<j->tag d[x]! < tag d[j]!)->insInner lt a j d=insInner (Yx lt tag) a j d
 | 0,d,_,_=>rfl
 | j+1,d,hs,h=>by
  unfold insInner;by_cases hj:j+1 > a
  ·have e:Yx lt tag d[j+1]! d[j]! = lt d[j+1]! d[j]!:=Xv (h j Om Om);rw[e]
   split
   ·refine N5 a j (swp d (j+1) j) (by rw[swp_size];omega) (λx h1 h2=>?_);rw[swp_get d hs Om,swp_get d hs Om,if_neg Om,if_neg Om,if_pos rfl];exact h x h1 Om
   ·rfl
  ·simp[hj]
theorem N2(hS:SWO lt)(a b:Nat):∀ (n i:Nat) (d:Array α),b-i=n->a<=i->b<=d.size->(∀ x y,a<=x->x<y->i<=y->y<b->tag d[x]! < tag d[y]!)->insOuter lt a b i d=insOuter (Yx lt tag) a b i d
 | 0,i,d,hn,_,_,_=>by
  rw[insOuter];conv=>rhs;rw[insOuter]
  rw[if_neg Om,if_neg Om]
 | n+1,i,d,hn,hai,hb,h=>by
  rw[insOuter];conv=>rhs;rw[insOuter]
  rw[if_pos Om,if_pos Om];have e:=N5 (lt:=lt) (tag:=tag) a i d Om (λx h1 h2=>h x i h1 h2 (Nl _) Om);rw[e]
  have hp:PermIn a (i+1) d (insInner (Yx lt tag) a i d):=by
   have key:∀ (j:Nat) (d:Array α),a<=j->j<=i->i<d.size->PermIn a (i+1) d (insInner (Yx lt tag) a j d):=by
    intro j
    induction j with
    | zero=>intro d _ _ _;exact permIn_refl _ _ _
    | succ j ih =>
     intro d h1 h2 h3;unfold insInner
     split
     ·rename_i hc;simp only[Bool.and_eq_true,decide_eq_true_eq]at hc;exact permIn_trans _ _ _ _ _ (swp_permIn d a (i+1) (j+1) j h1 Om Om Om Om) (ih _ Om Om (by rw[swp_size];exact h3))
     ·exact permIn_refl _ _ _
   exact key i d hai (Nl _) Om
  refine N2 hS a b n (i+1) _ Om Om (by rw[hp.1];exact hb) (λx y h1 h2 h3 h4=>?_);rw[hp.2.1 y Om];rcases Nat.lt_or_ge x (i+1) with q|q
  ·exact permIn_all d _ a (i+1) (λu=>tag u<tag d[y]!) Om hp (λz z1 z2=>h z y z1 Om Om h4) x h1 q
  ·rw[hp.2.1 x Om];exact h x y h1 h2 Om h4
theorem Wl(hS:SWO lt)(d:Array α)(a b:Nat)(hab:a<=b)(hb:b<=d.size)(h:∀ x y,a<=x->x<y->y<b->tag d[x]! < tag d[y]!):Mg (Yx lt tag) d a b (insertionSort lt d a b):=by
 have e:insertionSort lt d a b=insertionSort (Yx lt tag) d a b:=by
  unfold insertionSort;exact N2 hS a b _ (a+1) d rfl Om hb (λx y h1 h2 _ h4=>h x y h1 h2 h4)
 rw[e];exact insertionSort_holds (Nx hS) d a b hab hb
def Mp(L:α->α->Bool)(tag:α->Nat)(d:Array α)(s e:Nat):Prop:=SortedIn L s e d/\∀ i,s<=i->i<e->s<=tag d[i]! /\ tag d[i]! < e
theorem Mp.far{L:α->α->Bool}{d d':Array α}{s e a b:Nat}(h:Mp L tag d s e)(p:PermIn a b d d')(hf:e<=a\/b<=s):Mp L tag d' s e :=
 ⟨λi j h1 h2 h3=>by rw[p.2.1 i Om,p.2.1 j Om];exact h.1 i j h1 h2 h3,λi h1 h2=>by rw[p.2.1 i Om];exact h.2 i h1 h2⟩
theorem Mp.merged{L:α->α->Bool}{d d':Array α}{a m b:Nat}(h:Mp L tag d a m)(k:Mp L tag d m b)(hb:b<=d.size)(h1:a<=m)(h2:m<=b)(g:Mg L d a b d'):Mp L tag d' a b :=
 ⟨g.2,permIn_all d d' a b (λu=>a<=tag u/\tag u<b) hb g.1 (λi i1 i2=>by
  rcases Nat.lt_or_ge i m with q|q
  ·have:=h.2 i i1 q;omega
  ·have:=k.2 i q i2;omega)⟩
theorem Mp.tags{L:α->α->Bool}{d:Array α}{a m b:Nat}(h:Mp L tag d a m)(k:Mp L tag d m b):∀ i j,a<=i->i<m->m<=j->j<b->tag d[i]! < tag d[j]!:=λi j h1 h2 h3 h4=>by
 have:=h.2 i h1 h2;have:=k.2 j h3 h4;omega
structure Ls(L:α->α->Bool)(tag:α->Nat)(n bs k:Nat)(d0 d:Array α):Prop where
 perm:PermIn 0 n d0 d
 done:∀ t,t<k->Mp L tag d (t*(2*bs)) (t*(2*bs)+2*bs)
 todo:∀ t,2*k<=t->t*bs<n->Mp L tag d (t*bs) (min (t*bs+bs) n)
structure Tl(L:α->α->Bool)(tag:α->Nat)(n bs:Nat)(d0 d:Array α):Prop where
 perm:PermIn 0 n d0 d
 blk:∀ t,t*bs<n->Mp L tag d (t*bs) (min (t*bs+bs) n)
variable{L:α->α->Bool}{n bs k:Nat}{d0 d d':Array α}
theorem Tl.start(h:Tl L tag n bs d0 d):Ls L tag n bs 0 d0 d:=⟨h.perm,λt ht=>Om,λt _ ht=>h.blk t ht⟩
theorem Zh9(k bs:Nat):k*(2*bs)=2*k*bs:=by rw[<- Nat.mul_assoc,Nat.mul_comm k 2]
theorem Ls.pair(h:Ls L tag n bs k d0 d)(hn:n=d0.size)(hlt:2*k*bs+2*bs<=n) :
  Mp L tag d (2*k*bs) (2*k*bs+bs)/\Mp L tag d (2*k*bs+bs) (2*k*bs+2*bs):=by
 by_cases h0:bs=0
 ·subst h0;exact⟨⟨λi j h1 h2 h3=>Om,λi h1 h2=>Om⟩,⟨λi j h1 h2 h3=>Om,λi h1 h2=>Om⟩⟩
 have e:(2*k+1)*bs=2*k*bs+bs:=by rw[Nat.add_mul,Nat.one_mul]
 have b1:=h.todo (2*k) (Nl _) Om;have b2:=h.todo (2*k+1) Om Om;rw[(Om:min (2*k*bs+bs) n=2*k*bs+bs)]at b1;rw[e,(Om:min (2*k*bs+bs+bs) n=2*k*bs+2*bs)]at b2;exact⟨b1,b2⟩
theorem Ls.step(h:Ls L tag n bs k d0 d)(hn:n=d0.size)(hlt:2*k*bs+2*bs<=n)(g:Mg L d (2*k*bs) (2*k*bs+2*bs) d'):Ls L tag n bs (k+1) d0 d':=by
 have hs:d.size=n:=by rw[hn];exact h.perm.1
 obtain⟨b1,b2⟩:=h.pair hn hlt;refine⟨permIn_trans _ _ _ _ _ h.perm (permIn_mono _ _ _ _ _ _ (Nat.zero_le _) hlt Om g.1),λt ht=>?_,λt ht hl=>?_⟩
 ·rcases Nat.lt_or_ge t k with q|q
  ·refine (h.done t q).far g.1 (.inl ?_);have:=Nat.mul_le_mul_right (2*bs) (show t+1<=k from q);rw[Nat.add_mul,Nat.one_mul]at this;rw[<- Zh9];exact this
  ·obtain rfl:t=k:=Om
   rw[Zh9];exact b1.merged b2 Om Om Om g
 ·refine (h.todo t Om hl).far g.1 (.inr ?_);have:=Nat.mul_le_mul_right bs ((Om:2*k+2<=t));rw[Nat.add_mul]at this;exact this
theorem Ls.tail(h:Ls L tag n bs k d0 d)(hn:n=d0.size)(h1:2*k*bs+bs<n)(h2:n<2*k*bs+2*bs):Mp L tag d (2*k*bs) (2*k*bs+bs)/\Mp L tag d (2*k*bs+bs) n:=by
 have e:(2*k+1)*bs=2*k*bs+bs:=by rw[Nat.add_mul,Nat.one_mul]
 have b1:=h.todo (2*k) (Nl _) Om;have b2:=h.todo (2*k+1) Om Om;rw[(Om:min (2*k*bs+bs) n=2*k*bs+bs)]at b1;rw[e,(Om:min (2*k*bs+bs+bs) n=n)]at b2;exact⟨b1,b2⟩
theorem Ls.close(h:Ls L tag n bs k d0 d)(hn:n=d0.size)(hk:2*k*bs<=n)(h2:n<2*k*bs+2*bs)(g:(d'=d/\n<=2*k*bs+bs)\/(2*k*bs+bs<n/\Mg L d (2*k*bs) n d')):Tl L tag n (2*bs) d0 d':=by
 have hs:d.size=n:=by rw[hn];exact h.perm.1
 have hp:PermIn (2*k*bs) n d d':=by
  rcases g with ⟨e,_⟩|⟨_,g⟩
  ·rw[e];exact permIn_refl _ _ _
  ·exact g.1
 refine⟨permIn_trans _ _ _ _ _ h.perm (permIn_mono _ _ _ _ _ _ (Nat.zero_le _) (Nl _) Om hp),λt ht=>?_⟩;rcases Nat.lt_or_ge t k with q|q
 ·have:=Nat.mul_le_mul_right (2*bs) (show t+1<=k from q);rw[Nat.add_mul,Nat.one_mul,Zh9 k]at this;have hb:=(h.done t q).far hp (.inl this);rw[(Om:min (t*(2*bs)+2*bs) n=t*(2*bs)+2*bs)];exact hb
 ·have e:t=k:=by
   rcases Nat.lt_or_ge k t with r|r
   ·have:=Nat.mul_le_mul_right (2*bs) (show k+1<=t from r);rw[Nat.add_mul,Nat.one_mul,Zh9 k]at this;omega
   ·omega
  subst e;rw[Zh9]at ht⊢;rw[(Om:min (2*t*bs+2*bs) n=n)];rcases g with ⟨e,hle⟩|⟨hlt,g⟩
  ·have b1:=h.todo (2*t) (Nl _) Om;rw[(Om:min (2*t*bs+bs) n=n)]at b1;rw[e];exact b1
  ·obtain⟨b1,b2⟩:=h.tail hn hlt h2;exact b1.merged b2 Om Om Om g
end SS
end
section
namespace SS
open Go.Sort
variable{α:Type}
def To(lt:α->α->Bool)(x:α):List α->List α
 | []=>[x]
 | y::l=>if lt x y then x::y::l else y::To lt x l
def Z6(lt:α->α->Bool)(l:List α):List α:=l.foldl (λacc x=>To lt x acc) []
theorem Rx(lt:α->α->Bool)(x:α):∀ l,(To lt x l).Perm (x::l)
 | []=>.refl _
 | y::l=>by
  unfold To
  split
  ·exact .refl _
  ·exact ((Rx lt x l).cons y).trans (.swap x y l)
theorem Pj(lt:α->α->Bool):∀ (l acc:List α),(l.foldl (λacc x=>To lt x acc) acc).Perm (acc++l)
 | [],acc=>by simp
 | x::l,acc=>by
  show (l.foldl _ (To lt x acc)).Perm _;refine (Pj lt l _).trans ?_;refine ((Rx lt x acc).append_right l).trans ?_;exact (List.perm_middle (l₁:=acc) (a:=x) (l₂:=l)).symm
theorem Zy(lt:α->α->Bool)(l:List α):(Z6 lt l).Perm l:=by simpa [Z6] using Pj lt l []
theorem Zar{β:Type}(lt:α->α->Bool)(f:β->α)(x:β):∀ l,(To (λa b=>lt (f a) (f b)) x l).map f=To lt (f x) (l.map f)
 | []=>rfl
 | y::l=>by
  simp only[To,List.map_cons]
  split
  ·rfl
  ·rw[List.map_cons,Zar lt f x l]
theorem M1{β:Type}(lt:α->α->Bool)(f:β->α)(l:List β):(Z6 (λa b=>lt (f a) (f b)) l).map f=Z6 lt (l.map f):=by
 have:∀ (l acc:List β),(l.foldl (λacc x=>To (λa b=>lt (f a) (f b)) x acc) acc).map f=(l.map f).foldl (λacc x=>To lt x acc) (acc.map f):=by
  intro l
  induction l with
  | nil=>intro acc;rfl
  | cons x l ih=>intro acc;rw[List.foldl_cons,ih,Zar];rfl
 exact this l []
variable{lt:α->α->Bool}{tag:α->Nat}
theorem Zaq(h:SWO lt)(x:α):∀ l:List α,l.Pairwise (λa b=>Yx lt tag b a=false)->(∀ y∈l,tag y<tag x)->(To lt x l).Pairwise (λa b=>Yx lt tag b a=false)
 | [],_,_=>by simp[To]
 | y::l,hp,ht=>by
  have hy:tag y<tag x:=ht y (by simp);rw[List.pairwise_cons]at hp;unfold To
  split
  next c =>
   have hxy:Yx lt tag y x=false:=by
    have a:=h.asymmA c;simp only[Yx,a,c,Bool.false_or,Bool.not_true,Bool.false_and]
   rw[List.pairwise_cons];refine⟨λz hz=>?_,by rw[List.pairwise_cons];exact hp⟩;rcases List.mem_cons.1 hz with rfl|hz
   ·exact hxy
   ·exact (Nx h).ntrans _ _ _ (hp.1 z hz) hxy
  next c =>
   rw[List.pairwise_cons];refine⟨λz hz=>?_,Zaq h x l hp.2 (λy' hy'=>ht y' (by simp[hy']))⟩;rcases List.mem_cons.1 ((Rx lt x l).mem_iff.1 hz) with rfl|hz
   ·rw[Xv hy];simpa using c
   ·exact hp.1 z hz
theorem Zfg(h:SWO lt)(l:List α)(ht:l.Pairwise (λa b=>tag a<tag b)):(Z6 lt l).Pairwise (λa b=>Yx lt tag b a=false):=by
 have:∀ (l acc:List α),acc.Pairwise (λa b=>Yx lt tag b a=false)->(∀ a∈acc,∀ b∈l,tag a<tag b)->l.Pairwise (λa b=>tag a<tag b)->(l.foldl (λacc x=>To lt x acc) acc).Pairwise (λa b=>Yx lt tag b a=false):=by
  intro l
  induction l with
  | nil=>intro acc h1 _ _;exact h1
  | cons x l ih =>
   intro acc h1 h2 h3;rw[List.pairwise_cons]at h3;refine ih _ (Zaq h x acc h1 (λy hy=>h2 y hy x (by simp))) (λa ha b hb=>?_) h3.2;rcases List.mem_cons.1 ((Rx lt x acc).mem_iff.1 ha) with rfl|ha
   ·exact h3.1 b hb
   ·exact h2 a ha b (by simp[hb])
 exact this l [] .nil (by simp) ht
theorem I6(h:SWO lt){l l':List α}(ht:l.Pairwise (λa b=>tag a<tag b))(hp:l'.Perm l)(hs:l'.Pairwise (λa b=>Yx lt tag b a=false)):l'=Z6 lt l:=by
 refine List.Perm.eq_of_pairwise (le:=λa b=>Yx lt tag b a=false) (λa b ha hb h1 h2=>?_) hs (Zfg h l ht) (hp.trans (Zy lt l).symm);have ha:a∈l:=hp.mem_iff.1 ha;have hb:b∈l:=(Zy lt l).mem_iff.1 hb
 have et:tag a=tag b:=by
  simp only[Yx,Bool.or_eq_false_iff,Bool.and_eq_false_iff,Bool.not_eq_false',decide_eq_false_iff_not]at h1 h2;rcases h1.2 with q|q
  ·rw[h2.1]at q;cases q
  ·rcases h2.2 with q'|q'
   ·rw[h1.1]at q';cases q'
   ·omega
 obtain⟨i,hi,rfl⟩:=List.getElem_of_mem ha;obtain⟨j,hj,rfl⟩:=List.getElem_of_mem hb;rw[List.pairwise_iff_getElem]at ht;rcases Nat.lt_trichotomy i j with q|q|q
 ·have:=ht i j hi hj q;omega
 ·subst q;rfl
 ·have:=ht j i hj hi q;omega
theorem Tl.stable[Inhabited α]{n bs:Nat}{d0 d:Array α}(hL:SWO lt)(h:Tl (Yx lt tag) tag n bs d0 d)(hn:n=d0.size)(hb:n<=bs)(ht:∀ i,i<n->tag d0[i]! = i):d.toList=Z6 lt d0.toList:=by
 have hsz:d.size=n:=by rw[hn];exact h.perm.1
 refine I6 (tag:=tag) hL ?_ ?_ ?_
 ·rw[List.pairwise_iff_getElem];intro i j hi hj hij;simp only[Array.length_toList,<- hn]at hi hj;have e1:=ht i hi;have e2:=ht j hj;rw[getElem!_pos d0 i Om]at e1;rw[getElem!_pos d0 j Om]at e2;simp only[Array.getElem_toList];omega
 ·have:=h.perm.2.2;rw[extract_toList d 0 n Om,extract_toList d0 0 n Om]at this
  have all:∀ (x:Array α),x.size=n->(List.range' 0 (n-0)).map (λi=>x[i]!)=x.toList:=by
   intro x hx;apply List.ext_getElem
   ·simp[hx]
   ·intro k k1 k2;simp at k1;simp only[List.getElem_map,List.getElem_range',Array.getElem_toList];rw[getElem!_pos x (0+1*k) Om];congr 1;omega
  rw[all d hsz,all d0 hn.symm]at this;exact this
 ·rw[List.pairwise_iff_getElem];intro i j hi hj hij;simp only[Array.length_toList,hsz]at hi hj;rcases Nat.eq_zero_or_pos n with hz|hz
  ·omega
  have b:=(h.blk 0 Om).1;rw[Nat.zero_mul,Nat.zero_add,(Om:min bs n=n)]at b;have:=b i j (Nat.zero_le _) hij hj;rw[getElem!_pos d i Om,getElem!_pos d j Om]at this;simpa only [Array.getElem_toList] using this
end SS
end
section
namespace SS
open Go.Sort
def Ut(p:Nat->Bool)(lo hi i j:Nat):Prop:=lo<=i/\i<=j/\j<=hi/\(∀ c,lo<=c->c<i->p c=true)/\(∀ c,j<=c->c<hi->p c=false)
def Ml(p:Nat->Bool)(lo hi:Nat):Prop:=∀ c c',lo<=c->c<=c'->c'<hi->p c'=true->p c=true
theorem Ut.start(p:Nat->Bool){lo hi:Nat}(h:lo<=hi):Ut p lo hi lo hi:=⟨Nl _,h,Nl _,λc _ _=>Om,λc _ _=>Om⟩
theorem Ut.up{p:Nat->Bool}{lo hi i j h:Nat}(s:Ut p lo hi i j)(m:Ml p lo hi)(hi':i<=h)(hj:h<j)(hp:p h=true):Ut p lo hi (h+1) j:=by
 obtain⟨s1,s2,s3,s4,s5⟩:=s;exact⟨Om,Om,s3,λc h1 h2=>m c h h1 Om Om hp,s5⟩
theorem Ut.down{p:Nat->Bool}{lo hi i j h:Nat}(s:Ut p lo hi i j)(m:Ml p lo hi)(hi':i<=h)(hj:h<j)(hp:p h=false):Ut p lo hi i h:=by
 obtain⟨s1,s2,s3,s4,s5⟩:=s;refine⟨s1,hi',Om,s4,λc h1 h2=>?_⟩
 cases e:p c with
 | false=>rfl
 | true=>have:=m h c Om h1 h2 e;rw[hp]at this;cases this
variable{α:Type}[Inhabited α]{L:α->α->Bool}
theorem Zcf(hL:SWO L){d:Array α}{a m b:Nat}(hB:SortedIn L m b d):Ml (λc=>L d[c]! d[a]!) m b:=by
 intro c c' h1 h2 h3 h4;by_cases e:c=c'
 ·rw[e];exact h4
 ·cases q:L d[c]! d[a]! with
  | true=>exact q
  | false =>
   have:=hL.ntrans _ _ _ (hB c c' h1 Om h3) q;simp only at h4;rw[this]at h4;cases h4
theorem Zce(hL:SWO L){d:Array α}{a m:Nat}(hA:SortedIn L a m d):Ml (λc=>!L d[m]! d[c]!) a m:=by
 intro c c' h1 h2 h3 h4;by_cases e:c=c'
 ·rw[e];exact h4
 ·simp only[Bool.not_eq_true']at h4⊢;exact hL.ntrans _ _ _ h4 (hA c c' h1 Om h3)
theorem Zcd(hL:SWO L){d:Array α}{a m b n lo hi:Nat}(hA:SortedIn L a m d)(hB:SortedIn L m b d)(h1:a<=lo)(h2:hi<=m)(h3:n-1-lo<b\/hi<=lo)(h4:∀ c,lo<=c->c<hi->m<=n-1-c/\c<n):Ml (λc=>!L d[n-1-c]! d[c]!) lo hi:=by
 intro c c' k1 k2 k3 k4;simp only[Bool.not_eq_true']at k4⊢;have:=h4 c' Om k3;have:=h4 c k1 Om;exact Zca hL hA hB (c:=c') (c':=c) Om k2 Om Om Om Om k4
theorem Rs(d:Array α){a m b:Nat}(h:a=m\/m=b):Vj d a m b d:=⟨rfl,λx=>by (repeat' split)<;>first|rfl|(exfalso;omega)|(congr 1;omega)⟩
theorem Vk{d:Array α}{a b:Nat}(h:SortedIn L a b d):Mg L d a b d:=⟨permIn_refl _ _ _,h⟩
theorem Ue{d d':Array α}{a b x y:Nat}(h:SortedIn L x y d)(p:PermIn a b d d')(hf:b<=x):SortedIn L x y d':=λi j h1 h2 h3=>by rw[p.2.1 i Om,p.2.1 j Om];exact h i j h1 h2 h3
end SS
end
section
namespace SS
open Go.Sort
variable{α:Type}[Inhabited α]{L:α->α->Bool}{tag:α->Nat}{n t:Nat}{d0 d d':Array α}
structure Uv(L:α->α->Bool)(tag:α->Nat)(n t:Nat)(d0 d:Array α):Prop where
 perm:PermIn 0 n d0 d
 done:∀ x,x<t->Mp L tag d (x*20) (x*20+20)
 rest:∀ i,t*20<=i->d[i]! = d0[i]!
theorem Uv.start:Uv L tag n 0 d0 d0:=⟨permIn_refl _ _ _,λx hx=>Om,λ_ _=>rfl⟩
theorem Uv.tags(h:Uv L tag n t d0 d)(hn:n=d0.size)(ht:∀ i,i<n->tag d0[i]! = i){b:Nat}(hb:b<=n):∀ x y,t*20<=x->x<y->y<b->tag d[x]! < tag d[y]!:=λx y h1 h2 h3=>by
 rw[h.rest x h1,h.rest y Om,ht x Om,ht y Om];exact h2
theorem Uv.blk(h:Uv L tag n t d0 d)(hn:n=d0.size)(ht:∀ i,i<n->tag d0[i]! = i){b:Nat}(hb:b<=n)(g:Mg L d (t*20) b d'):Mp L tag d' (t*20) b :=
 ⟨g.2,permIn_all d d' (t*20) b (λu=>t*20<=tag u/\tag u<b) (by rw[h.perm.1];omega) g.1 (λi h1 h2=>by rw[h.rest i h1,ht i Om];exact⟨h1,h2⟩)⟩
theorem Uv.step(h:Uv L tag n t d0 d)(hn:n=d0.size)(ht:∀ i,i<n->tag d0[i]! = i)(hb:t*20+20<=n)(g:Mg L d (t*20) (t*20+20) d'):Uv L tag n (t+1) d0 d':=by
 have hs:d.size=n:=by rw[hn];exact h.perm.1
 refine⟨permIn_trans _ _ _ _ _ h.perm (permIn_mono _ _ _ _ _ _ (Nat.zero_le _) hb Om g.1),λx hx=>?_,λi hi=>?_⟩
 ·rcases Nat.lt_or_ge x t with q|q
  ·exact (h.done x q).far g.1 (.inl Om)
  ·have:x=t:=Om;subst this;exact h.blk hn ht hb g
 ·rw[g.1.2.1 i Om];exact h.rest i Om
theorem Uv.close(h:Uv L tag n t d0 d)(hn:n=d0.size)(ht:∀ i,i<n->tag d0[i]! = i)(h1:t*20<=n)(h2:n<t*20+20)(g:Mg L d (t*20) n d'):Tl L tag n 20 d0 d':=by
 have hs:d.size=n:=by rw[hn];exact h.perm.1
 refine⟨permIn_trans _ _ _ _ _ h.perm (permIn_mono _ _ _ _ _ _ (Nat.zero_le _) (Nl _) Om g.1),λx hx=>?_⟩;rcases Nat.lt_or_ge x t with q|q
 ·rw[(Om:min (x*20+20) n=x*20+20)];exact (h.done x q).far g.1 (.inl Om)
 ·have:x=t:=Om
  subst this;rw[(Om:min (x*20+20) n=n)];exact h.blk hn ht (Nl _) g
end SS
end
section
namespace Go.Proofs
open Go.Shelf
def YtlfoalomaofejaaGreatDoor.laysDec_ren:Go.Shelf.Ren:=⟨fun|197=>196|260=>237|n=>n,fun|9=>9|21=>21|3=>3|4=>4|5=>5|105=>336|119=>267|0=>0|46=>271|139=>270|138=>269|n=>n,fun|3=>1|4=>2|n=>n⟩
theorem YtlfoalomaofejaaGreatDoor.laysDec:Go.Proofs.Lays.n197 Tryz.prog YtlfoalomaofejaaGreatDoor.laysDec_ren:={
 mixed:=Kr
 f197:=Tryz.func196.trans (congrArg some Kr)
 f260:=Tryz.func237.trans (congrArg some Kr)
 t0:=Tryz.underlying0
 a0:=Tryz.isAgg0
 z0:=Tryz.sizeOf0
 v0:=Tryz.zeroValue0
 t3:=Tryz.underlying3
 a3:=Tryz.isAgg3
 z3:=Tryz.sizeOf3
 v3:=Tryz.zeroValue3
 t4:=Tryz.underlying4
 a4:=Tryz.isAgg4
 z4:=Tryz.sizeOf4
 v4:=Tryz.zeroValue4
 t5:=Tryz.underlying5
 a5:=Tryz.isAgg5
 z5:=Tryz.sizeOf5
 v5:=Tryz.zeroValue5
 t9:=Tryz.underlying9
 a9:=Tryz.isAgg9
 z9:=Tryz.sizeOf9
 v9:=Tryz.zeroValue9
 t21:=Tryz.underlying21
 a21:=Tryz.isAgg21
 z21:=Tryz.sizeOf21
 v21:=Tryz.zeroValue21
 t46:=Tryz.underlying271
 a46:=Tryz.isAgg271
 z46:=Tryz.sizeOf271
 v46:=Tryz.zeroValue271
 t105:=Tryz.underlying336
 a105:=Tryz.isAgg336
 z105:=Tryz.sizeOf336
 v105:=Tryz.zeroValue336
 t119:=Tryz.underlying267
 a119:=Tryz.isAgg267
 z119:=Tryz.sizeOf267
 t138:=Tryz.underlying269
 a138:=Tryz.isAgg269
 z138:=Tryz.sizeOf269
 v138:=Tryz.zeroValue269
 t139:=Tryz.underlying270
 a139:=Tryz.isAgg270
 z139:=Tryz.sizeOf270
 v139:=Tryz.zeroValue270
 g3:=Kr
 g4:=by kernel_rfl }
def YtlfoalomaofejaaGreatDoor.laysLast_ren:Go.Shelf.Ren:=⟨fun|271=>197|120=>238|197=>196|260=>237|n=>n,fun|9=>9|21=>21|3=>3|4=>4|5=>5|105=>336|119=>267|0=>0|46=>271|139=>270|138=>269|n=>n,fun|3=>1|4=>2|n=>n⟩
theorem YtlfoalomaofejaaGreatDoor.laysLast:Go.Proofs.Lays.n271 Tryz.prog YtlfoalomaofejaaGreatDoor.laysLast_ren:={
 mixed:=Kr
 f120:=Tryz.func238.trans (congrArg some Kr)
 f197:=Tryz.func196.trans (congrArg some Kr)
 f260:=Tryz.func237.trans (congrArg some Kr)
 f271:=Tryz.func197.trans (congrArg some Kr)
 t0:=Tryz.underlying0
 a0:=Tryz.isAgg0
 z0:=Tryz.sizeOf0
 v0:=Tryz.zeroValue0
 t3:=Tryz.underlying3
 a3:=Tryz.isAgg3
 z3:=Tryz.sizeOf3
 v3:=Tryz.zeroValue3
 t4:=Tryz.underlying4
 a4:=Tryz.isAgg4
 z4:=Tryz.sizeOf4
 v4:=Tryz.zeroValue4
 t5:=Tryz.underlying5
 a5:=Tryz.isAgg5
 z5:=Tryz.sizeOf5
 v5:=Tryz.zeroValue5
 t9:=Tryz.underlying9
 a9:=Tryz.isAgg9
 z9:=Tryz.sizeOf9
 v9:=Tryz.zeroValue9
 t21:=Tryz.underlying21
 a21:=Tryz.isAgg21
 z21:=Tryz.sizeOf21
 v21:=Tryz.zeroValue21
 t46:=Tryz.underlying271
 a46:=Tryz.isAgg271
 z46:=Tryz.sizeOf271
 v46:=Tryz.zeroValue271
 t105:=Tryz.underlying336
 a105:=Tryz.isAgg336
 z105:=Tryz.sizeOf336
 v105:=Tryz.zeroValue336
 t119:=Tryz.underlying267
 a119:=Tryz.isAgg267
 z119:=Tryz.sizeOf267
 t138:=Tryz.underlying269
 a138:=Tryz.isAgg269
 z138:=Tryz.sizeOf269
 v138:=Tryz.zeroValue269
 t139:=Tryz.underlying270
 a139:=Tryz.isAgg270
 z139:=Tryz.sizeOf270
 v139:=Tryz.zeroValue270
 g3:=Kr
 g4:=by kernel_rfl }
def YtlfoalomaofejaaGreatDoor.laysRl_ren:Go.Shelf.Ren:=⟨fun|118=>195|n=>n,fun|21=>21|3=>3|4=>4|n=>n,fun|n=>n⟩
theorem YtlfoalomaofejaaGreatDoor.laysRl:Go.Proofs.Lays.n118 Tryz.prog YtlfoalomaofejaaGreatDoor.laysRl_ren:={
 mixed:=Kr
 f118:=Tryz.func195.trans (congrArg some Kr)
 t3:=Tryz.underlying3
 a3:=Tryz.isAgg3
 z3:=Tryz.sizeOf3
 v3:=Tryz.zeroValue3
 t4:=Tryz.underlying4
 a4:=Tryz.isAgg4
 z4:=Tryz.sizeOf4
 v4:=Tryz.zeroValue4
 t21:=Tryz.underlying21
 a21:=Tryz.isAgg21
 z21:=Tryz.sizeOf21
 v21:=Tryz.zeroValue21 }
def YtlfoalomaofejaaGreatDoor.laysCount_ren:Go.Shelf.Ren:=⟨fun|195=>162|n=>n,fun|9=>9|3=>3|0=>0|4=>4|n=>n,fun|n=>n⟩
theorem YtlfoalomaofejaaGreatDoor.laysCount:Go.Proofs.Lays.n195 Tryz.prog YtlfoalomaofejaaGreatDoor.laysCount_ren:={
 mixed:=Kr
 f195:=Tryz.func162.trans (congrArg some Kr)
 t0:=Tryz.underlying0
 a0:=Tryz.isAgg0
 z0:=Tryz.sizeOf0
 v0:=Tryz.zeroValue0
 t3:=Tryz.underlying3
 a3:=Tryz.isAgg3
 z3:=Tryz.sizeOf3
 v3:=Tryz.zeroValue3
 t4:=Tryz.underlying4
 a4:=Tryz.isAgg4
 z4:=Tryz.sizeOf4
 v4:=Tryz.zeroValue4
 t9:=Tryz.underlying9
 a9:=Tryz.isAgg9
 z9:=Tryz.sizeOf9
 v9:=Tryz.zeroValue9 }
def YtlfoalomaofejaaGreatDoor.laysValid_ren:Go.Shelf.Ren:=⟨fun|196=>111|259=>146|n=>n,fun|9=>9|4=>4|3=>3|5=>5|12=>12|119=>267|0=>0|46=>271|139=>270|138=>269|53=>315|n=>n,fun|3=>1|4=>2|n=>n⟩
theorem YtlfoalomaofejaaGreatDoor.laysValid:Go.Proofs.Lays.n196 Tryz.prog YtlfoalomaofejaaGreatDoor.laysValid_ren:={
 mixed:=Kr
 f196:=Tryz.func111.trans (congrArg some Kr)
 f259:=Tryz.func146.trans (congrArg some Kr)
 t0:=Tryz.underlying0
 a0:=Tryz.isAgg0
 z0:=Tryz.sizeOf0
 v0:=Tryz.zeroValue0
 t3:=Tryz.underlying3
 a3:=Tryz.isAgg3
 z3:=Tryz.sizeOf3
 v3:=Tryz.zeroValue3
 t4:=Tryz.underlying4
 a4:=Tryz.isAgg4
 z4:=Tryz.sizeOf4
 v4:=Tryz.zeroValue4
 t5:=Tryz.underlying5
 a5:=Tryz.isAgg5
 z5:=Tryz.sizeOf5
 v5:=Tryz.zeroValue5
 t9:=Tryz.underlying9
 a9:=Tryz.isAgg9
 z9:=Tryz.sizeOf9
 v9:=Tryz.zeroValue9
 t12:=Tryz.underlying12
 a12:=Tryz.isAgg12
 z12:=Tryz.sizeOf12
 v12:=Tryz.zeroValue12
 t46:=Tryz.underlying271
 a46:=Tryz.isAgg271
 z46:=Tryz.sizeOf271
 v46:=Tryz.zeroValue271
 t53:=Tryz.underlying315
 a53:=Tryz.isAgg315
 z53:=Tryz.sizeOf315
 v53:=Tryz.zeroValue315
 t119:=Tryz.underlying267
 a119:=Tryz.isAgg267
 z119:=Tryz.sizeOf267
 t138:=Tryz.underlying269
 a138:=Tryz.isAgg269
 z138:=Tryz.sizeOf269
 v138:=Tryz.zeroValue269
 t139:=Tryz.underlying270
 a139:=Tryz.isAgg270
 z139:=Tryz.sizeOf270
 v139:=Tryz.zeroValue270
 g3:=Kr
 g4:=by kernel_rfl }
def YtlfoalomaofejaaGreatDoor.layInsu_ren:Go.Shelf.Ren:=⟨fun|20=>168|n=>n,fun|24=>36|22=>26|3=>3|25=>173|4=>4|0=>0|n=>n,fun|n=>n⟩
theorem YtlfoalomaofejaaGreatDoor.layInsu:Go.Proofs.SlLaysF0.n20 Tryz.prog YtlfoalomaofejaaGreatDoor.layInsu_ren:={
 mixed:=Kr
 f20:=⟨Tryz.f168.name,by decide,Tryz.func168.trans (congrArg some Kr)⟩
 t0:=Tryz.underlying0
 a0:=Tryz.isAgg0
 z0:=Tryz.sizeOf0
 v0:=Tryz.zeroValue0
 t3:=Tryz.underlying3
 a3:=Tryz.isAgg3
 z3:=Tryz.sizeOf3
 v3:=Tryz.zeroValue3
 t4:=Tryz.underlying4
 a4:=Tryz.isAgg4
 z4:=Tryz.sizeOf4
 v4:=Tryz.zeroValue4
 t22:=Tryz.underlying26
 a22:=Tryz.isAgg26
 z22:=Tryz.sizeOf26
 v22:=Tryz.zeroValue26
 t25:=Tryz.underlying173
 a25:=Tryz.isAgg173
 z25:=Tryz.sizeOf173
 v25:=Tryz.zeroValue173 }
def YtlfoalomaofejaaGreatDoor.layInsw_ren:Go.Shelf.Ren:=⟨fun|20=>256|n=>n,fun|24=>53|22=>22|3=>3|25=>323|4=>4|0=>0|n=>n,fun|n=>n⟩
theorem YtlfoalomaofejaaGreatDoor.layInsw:Go.Proofs.SlLaysF0.n20 Tryz.prog YtlfoalomaofejaaGreatDoor.layInsw_ren:={
 mixed:=Kr
 f20:=⟨Tryz.f256.name,by decide,Tryz.func256.trans (congrArg some Kr)⟩
 t0:=Tryz.underlying0
 a0:=Tryz.isAgg0
 z0:=Tryz.sizeOf0
 v0:=Tryz.zeroValue0
 t3:=Tryz.underlying3
 a3:=Tryz.isAgg3
 z3:=Tryz.sizeOf3
 v3:=Tryz.zeroValue3
 t4:=Tryz.underlying4
 a4:=Tryz.isAgg4
 z4:=Tryz.sizeOf4
 v4:=Tryz.zeroValue4
 t22:=Tryz.underlying22
 a22:=Tryz.isAgg22
 z22:=Tryz.sizeOf22
 v22:=Tryz.zeroValue22
 t25:=Tryz.underlying323
 a25:=Tryz.isAgg323
 z25:=Tryz.sizeOf323
 v25:=Tryz.zeroValue323 }
def YtlfoalomaofejaaGreatDoor.laysCompare_ren:Go.Shelf.Ren:=⟨fun|106=>181|213=>227|265=>258|n=>n,fun|9=>9|3=>3|n=>n,fun|n=>n⟩
theorem YtlfoalomaofejaaGreatDoor.laysCompare:Go.Proofs.Lays.n106 Tryz.prog YtlfoalomaofejaaGreatDoor.laysCompare_ren:={
 mixed:=Kr
 f106:=Tryz.func181.trans (congrArg some Kr)
 f213:=Tryz.func227.trans (congrArg some Kr)
 f265:=Tryz.func258.trans (congrArg some Kr)
 t3:=Tryz.underlying3
 a3:=Tryz.isAgg3
 z3:=Tryz.sizeOf3
 v3:=Tryz.zeroValue3
 t9:=Tryz.underlying9
 a9:=Tryz.isAgg9
 z9:=Tryz.sizeOf9
 v9:=Tryz.zeroValue9 }
def YtlfoalomaofejaaGreatDoor.sortedS_ren:Go.Shelf.Ren:=⟨fun|11=>229|19=>221|25=>255|n=>n,fun|25=>34|27=>9|4=>4|3=>3|0=>0|n=>n,fun|n=>n⟩
theorem YtlfoalomaofejaaGreatDoor.sortedS:Go.Proofs.SlLaysO.n11 Tryz.prog YtlfoalomaofejaaGreatDoor.sortedS_ren:={
 mixed:=Kr
 f11:=⟨Tryz.f229.name,by decide,Tryz.func229.trans (congrArg some Kr)⟩
 f19:=⟨Tryz.f221.name,by decide,Tryz.func221.trans (congrArg some Kr)⟩
 f25:=⟨Tryz.f255.name,by decide,Tryz.func255.trans (congrArg some Kr)⟩
 t0:=Tryz.underlying0
 a0:=Tryz.isAgg0
 z0:=Tryz.sizeOf0
 v0:=Tryz.zeroValue0
 t3:=Tryz.underlying3
 a3:=Tryz.isAgg3
 z3:=Tryz.sizeOf3
 v3:=Tryz.zeroValue3
 t4:=Tryz.underlying4
 a4:=Tryz.isAgg4
 z4:=Tryz.sizeOf4
 v4:=Tryz.zeroValue4
 t25:=Tryz.underlying34
 a25:=Tryz.isAgg34
 z25:=Tryz.sizeOf34
 v25:=Tryz.zeroValue34
 t27:=Tryz.underlying9
 a27:=Tryz.isAgg9
 z27:=Tryz.sizeOf9
 v27:=Tryz.zeroValue9 }
end Go.Proofs
end
namespace Go.Proofs.YtlfoalomaofejaaGreatDoor
section
open Go.RowKit Go.Shelf
def U8(w:World):Prop:=Lib.Utf8Tabs 1 2 w
theorem U8.fr{S:Nat->Prop}{w w':World}(h:U8 w)(f:Fr S w w')(h1:¬ S 1)(h2:¬ S 2):U8 w' :=
 ⟨λc hc=>f.cell (h.1 c hc) h1,λi hi=>⟨f.cell (h.2 i hi).1 h2,f.cell (h.2 i hi).2 h2⟩⟩
theorem U8.ext{w w':World}(h:U8 w)(f:Zf w w'):U8 w':=h.fr f id id
theorem Zet(s:ByteArray)(w:World)(hs:s.size<=9223372036854775807)(hT:U8 w):Calls Tryz.prog 111 #[.string s] w λe w'=>e=.returned (.bool (Lib.validD s.data.toList))/\Zf w w' :=
 (Any.utf8_ValidString laysValid s w hs hT).mono λ_ _ h=>⟨h.1,Fr.of_below h.2⟩
def Ws(s:ByteArray):Bool:=decide ((0:UInt8) ∉ s.data.toList) && !s.data.toList.isEmpty&&Lib.validD s.data.toList
theorem Zaz(s:ByteArray)(i:Nat)(h:i<s.size):s.data.toList[i]?=some s[i]:=by
 rw[Array.getElem?_toList];exact Array.getElem?_eq_getElem h
theorem Zfn(s:ByteArray)(w:World)(hs:s.size<=9223372036854775807)(hT:U8 w):Calls Tryz.prog 57 #[.string s] w λe w'=>e=.returned (.bool (Ws s))/\Zf w w':=by
 have HT:=Hd hT;clear hT;go_enter Tryz.func57,Tryz.ntmps57
 go_wp2
 go_loopg [6] s.size (λg1 v wr=>∃ k:Nat,v=.int .i64 k/\k<=s.size/\s.size<=k+g1/\wr=w/\Hid (∀ j (h:j<s.size),j<k->s[j]≠0))
 case atStart=>exact⟨0,rfl,Om,Om,rfl,λj _ h=>Om⟩
 case round =>
  obtain⟨k,rfl,hk,hg,rfl,HZ⟩:=hrel;by_cases hlt:k<s.size
  ·have hltz:(k:Int)<s.size:=Om;by_cases h0:s[k]=0
   ·have h0z:((s[k].toNat:Int)==0)=true:=by rw[h0];rfl
    have hp:Ws s=false:=by
     unfold Ws;have:(0:UInt8)∈s.data.toList:=by rw[<- h0];exact List.mem_of_getElem? (Zaz s k hlt)
     simp[this]
    go_wp2_with fail
    exact bodyPost_ret (results_tmp rfl _ _ _) rfl ⟨by rw[hp];rfl,Fl _⟩
   ·have h0n:s[k].toNat≠0:=λe=>h0 (UInt8.toNat_inj.1 e)
    have h0z:((s[k].toNat:Int)==0)=false:=(by simpa using h0n);go_wp2_with fail
    go_roundg (s.size-(k+1))
    case measure=>omega
    case rel=>exact⟨k+1,by go_num,Om,Om,rfl,λj h1 h2=>by
     rcases Nat.lt_or_ge j k with q|q
     ·exact HZ.out j h1 q
     ·have:j=k:=Om
      subst this;exact h0⟩
  ·have hltz:¬ (k:Int)<s.size:=Om
   have hz:(0:UInt8) ∉ s.data.toList:=by
    intro hm;obtain⟨j,hj,e⟩:=List.getElem_of_mem hm;have hj':j<s.size:=(by simpa using hj);exact HZ.out j hj' Om (by have:=Zaz s j hj';rw[Ge hj]at this;rw[<- Option.some.inj this];exact e)
   by_cases he:s.data.toList=[]
   ·have hez:(s.toList==[])=true:=by rw[ByteArray.toList_eq];simp[he]
    have hp:Ws s=false:=by unfold Ws;simp[he]
    clear hz;go_wp2_with fail
    first|go_ret|go_ret2
    exact⟨rfl,Fl _⟩
   ·have hez:(s.toList==[])=false:=by rw[ByteArray.toList_eq];simpa using he
    have hp:Ws s=Lib.validD s.data.toList:=by unfold Ws;simp only[hz,not_false_eq_true,decide_true,Bool.true_and];cases hq:s.data.toList.isEmpty with|true=>exact absurd (List.isEmpty_iff.1 hq) he|false=>simp
    have C1:=Zet s wr Om HT;rw[<- hp]at C1;clear hz hp;go_wp2_with (go_at_call 111;refine C1.mono ?_;rintro e W1 ⟨rfl,hx⟩;clear C1;have HX:=Hd hx;clear hx)
    first|go_ret|go_ret2
    exact⟨rfl,HX⟩
end
end Go.Proofs.YtlfoalomaofejaaGreatDoor
