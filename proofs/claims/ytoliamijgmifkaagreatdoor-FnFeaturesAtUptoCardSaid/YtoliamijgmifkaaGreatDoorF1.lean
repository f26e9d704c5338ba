/- The words of this seat's proofs: how data read in memory, and what a call leaves of the world. · How -/
import Derived.Test.YtoliamijgmifkaaGreatDoorProg
import Derived.WalkKit
import Derived.Deep.QuietTactic
import Derived.BigQuiet
import Derived.StillTailTactics
import Derived.Outline
import Derived.WalkSpells
import Derived.WalkLawsBesides
import Derived.Deep.LoopGhost
import Derived.Deep.DeepFit
import Derived.Deep.DeepMust
import Derived.Lib.Hide
import Derived.Deep.Slices
import Derived.ChangeMaps5
import Derived.OpenShut
import Derived.Lib.SmallJoins
import Derived.Sort.LotA
import Derived.Shelf.Unicode.DecodeLast
import Derived.Shelf.Unicode.DecodeAny
import Derived.Shelf.Unicode.ValidAny
import Derived.Shelf.Small.Utf8
import Derived.Shelf.Utf8.RuneCount
import Derived.Shelf.Small.Strs
import Derived.Shelf.SlSorted.IsSorted
import Derived.Shelf.SlSortCmp.KitK
set_option linter.all false
set_option maxRecDepth 100000
set_option maxHeartbeats 1000000
namespace Go.Proofs.YtoliamijgmifkaaGreatDoor
section
open Go.RowKit
structure Fr(S:Nat->Prop)(w w':World):Prop where
 os:w'.os=w.os
 tape:w'.tape=w.tape
 output:w'.output=w.output
 size:w.heap.size<=w'.heap.size
 block:∀ k,k<w.heap.size->¬ S k->w'.heap[k]? = w.heap[k]?
abbrev Ext(w w':World):Prop:=Fr (fun _=>False) w w'
section
variable{S S':Nat->Prop}{w w1 w2:World}
theorem Fr.refl(S:Nat->Prop)(w:World):Fr S w w:=⟨rfl,rfl,rfl,Nat.le_refl _,fun _ _ _=>rfl⟩
theorem Fr.trans(h:Fr S w w1)(k:Fr S' w1 w2)(hs:∀ j,j<w.heap.size->S' j->S j):Fr S w w2 :=
 ⟨k.os.trans h.os,k.tape.trans h.tape,k.output.trans h.output,Nat.le_trans h.size k.size,fun j hj hn =>
  (k.block j (Nat.lt_of_lt_of_le hj h.size) (fun e=>hn (hs j hj e))).trans (h.block j hj hn)⟩
theorem Fr.then(h:Fr S w w1)(k:Fr S w1 w2):Fr S w w2:=h.trans k (fun _ _ e=>e)
theorem Fr.ext(h:Fr S w w1)(k:Ext w1 w2):Fr S w w2:=h.trans k (fun _ _ e=>e.elim)
theorem Fr.mono(h:Fr S w w1)(hs:∀ j,j<w.heap.size->S j->S' j):Fr S' w w1:=⟨h.os,h.tape,h.output,h.size,fun j hj hn=>h.block j hj (fun e=>hn (hs j hj e))⟩
theorem Fr.drew(h:Fr S w w1):Fr S w w1.drew:=⟨h.os,h.tape,h.output,h.size,h.block⟩
theorem Fr.drewN(h:Fr S w w1)(n:Nat):Fr S w (w1.drewN n):=⟨h.os,h.tape,h.output,h.size,h.block⟩
theorem Fr.alloc(h:Fr S w w1)(o:Obj):Fr S w (w1.alloc o) :=
 ⟨h.os,h.tape,h.output,by have:=h.size;simp;omega,fun j hj hn=>by
  rw[<- h.block j hj hn];exact Below.heap_alloc w1 o j (Nat.lt_of_lt_of_le hj h.size)⟩
theorem Fr.setCell(h:Fr S w w1)(a:Addr)(v:Value)(ha:a.block<w.heap.size->S a.block):Fr S w (w1.setCell a v) :=
 ⟨h.os,h.tape,h.output,by have:=h.size;simp[World.setCell];omega,fun j hj hn=>by
  rw[<- h.block j hj hn];exact Below.heap_setCell w1 a v j (fun e=>hn (e ▸ ha (e ▸ hj)))⟩
theorem Fr.setRow(h:Fr S w w1)(g:Nat)(cs:Array Value)(hg:g<w.heap.size->S g):Fr S w (w1.setRow g cs) :=
 ⟨h.os,h.tape,h.output,by have:=h.size;simp[World.setRow];omega,fun j hj hn=>by
  rw[<- h.block j hj hn];simp only[World.setRow,Array.getElem?_modify]
  rw[if_neg (fun e:g=j=>hn (e ▸ hg (e ▸ hj)))]⟩
theorem Fr.grown{row:Option Nat}(h:Fr S w w1)(g:w1.grownBy w2 row)(hr:∀ k,row=some k->k<w.heap.size->S k):Fr S w w2 :=
 ⟨g.os.trans h.os,g.tape.trans h.tape,g.output.trans h.output,Nat.le_trans h.size g.size,fun j hj hn =>
  (g.block j (Nat.lt_of_lt_of_le hj h.size) (fun e=>hn (hr j e.symm hj))).trans (h.block j hj hn)⟩
theorem Fr.of_below(h:Below w.heap.size w w1):Ext w w1:=⟨h.os,h.tape,h.output,h.size,fun j hj _=>h.block j hj⟩
theorem Fr.below(h:Ext w w1):Below w.heap.size w w1:=⟨h.os,h.tape,h.output,h.size,fun j hj=>h.block j hj id⟩
theorem alloc_at(w:World)(o:Obj):(w.alloc o).heap[w.heap.size]? = some o:=by
 show (w.heap.push o)[w.heap.size]? = _;simp
theorem alloc_at'(w:World)(o:Obj){k:Nat}(h:k=w.heap.size):(w.alloc o).heap[k]? = some o:=by rw[h];exact alloc_at w o
theorem alloc_old(w:World)(o:Obj){k:Nat}(h:k<w.heap.size):(w.alloc o).heap[k]? = w.heap[k]?:=Below.heap_alloc w o k h
theorem Za(w:World)(o:Obj):(w.alloc o).heap.size=w.heap.size+1:=by simp
theorem lt_of_cell{w:World}{a:Addr}{v:Value}(h:w.cell? a=some v):a.block<w.heap.size:=World.block_lt_of_cell? w a h
theorem Fr.cell(h:Fr S w w1){a:Addr}{v:Value}(hc:w.cell? a=some v)(hs:¬ S a.block):w1.cell? a=some v:=by
 rw[<- hc];exact World.cell?_of_block (h.block _ (lt_of_cell hc) hs)
theorem Fr.frozen(h:Fr S w w1){a:Addr}{v:Value}(hc:w.cell? a=some v)(hs:¬ S a.block):w1.frozen? a=w.frozen? a :=
 World.frozen?_of_block (h.block _ (lt_of_cell hc) hs)
theorem Fr.heap{o:Obj}(h:Fr S w w1){k:Nat}(hc:w.heap[k]? = some o)(hs:¬ S k):w1.heap[k]? = some o:=by
 rw[<- hc];exact h.block _ (Array.getElem?_eq_some_iff.1 hc).1 hs
end
theorem V0{P:Program}{id:Nat}{Q:Exit->Act->World->Prop}{a:Act}{w:World}{l:List Oper}(n:Nat)(hm:P.follows .mixedOrders=true)(hB:Region.lexTailB .any l.toArray n=true)
  (h:wpStill P l.toArray w.drew (fun a'=>wpList P l.toArray Q (l.drop n) a' w.drew) (l.take n) a):(Code.region id l.toArray true).wp P Q a w:=wp_region_still_tail n hm hB h
end
section
open Go.RowKit
namespace DT
structure Ty(α:Type) where
 sz:Nat
 R:World->(Nat->Prop)->α->List Value->Prop
 len:∀ {w O x cs},R w O x cs->cs.length=sz
 one:∀ {w O x cs},R w O x cs->∀ u∈cs,u.oneCell'=true
 mono:∀ {w:World} {O O':Nat->Prop} {x cs},(∀ k,k<w.heap.size->O k->O' k)->R w O x cs->R w O' x cs
 move:∀ {w w':World} {O:Nat->Prop} {x cs},w.heap.size<=w'.heap.size->(∀ k,k<w.heap.size->O k->w'.heap[k]? = w.heap[k]?)->R w O x cs->R w' O x cs
theorem Ty.keep{α:Type}(d:Ty α){S O:Nat->Prop}{w w':World}{x:α}{cs:List Value}(h:d.R w O x cs)(f:Fr S w w')(hs:∀ k,k<w.heap.size->O k->¬ S k):d.R w' O x cs :=
 d.move f.size (fun k hk ho=>f.block k hk (hs k hk ho)) h
theorem Ty.ext{α:Type}(d:Ty α){O:Nat->Prop}{w w':World}{x:α}{cs:List Value}(h:d.R w O x cs)(f:Ext w w'):d.R w' O x cs:=d.keep h f (fun _ _ _=>id)
namespace Ty
def scalar{α:Type}(enc:α->Value)(p:α->Prop)(h1:∀ x,(enc x).oneCell'=true):Ty α where
 sz:=1
 R:=fun _ _ x cs=>cs=[enc x]/\p x
 len:=fun h=>by rw[h.1];rfl
 one:=fun h u hu=>by rw[h.1]at hu;rw[List.mem_singleton.1 hu];exact h1 _
 mono:=fun _ h=>h
 move:=fun _ _ h=>h
abbrev int:Ty Int:=scalar (Value.int .i64) (fun x=>-9223372036854775808<=x/\x<=9223372036854775807) (fun _=>rfl)
abbrev bool:Ty Bool:=scalar Value.bool (fun _=>True) (fun _=>rfl)
abbrev str:Ty ByteArray:=scalar Value.string (fun x=>x.size<=9223372036854775807) (fun _=>rfl)
def At{α:Type}(d:Ty α)(w:World)(O:Nat->Prop)(A:Option Addr)(xs:List α):Prop :=
 xs.length<=9223372036854775807/\(xs=[]\/∃ b o,A=some ⟨b,o,none⟩/\O b/\b<w.heap.size /\
  ∀ i (h:i<xs.length),∃ cs,d.R w O xs[i] cs/\∀ j (hj:j<cs.length),w.cell? ⟨b,o+i*d.sz+j,none⟩=some cs[j])
def slice{α:Type}(d:Ty α):Ty (List α) where
 sz:=1
 R:=fun w O xs cs=>∃ A c,cs=[.slice A xs.length c]/\xs.length<=c/\(A=none->c=0)/\At d w O A xs
 len:=by rintro w O x cs ⟨A,c,rfl,_⟩;rfl
 one:=by
  rintro w O x cs ⟨A,c,rfl,_⟩ u hu;rw[List.mem_singleton.1 hu];rfl
 mono:=by
  rintro w O O' x cs h ⟨A,c,rfl,h0,h2,hm,h1⟩;refine⟨A,c,rfl,h0,h2,hm,h1.imp id ?_⟩;rintro⟨b,o,e,hb,hl,hc⟩;refine⟨b,o,e,h b hl hb,hl,fun i hi=>?_⟩;obtain⟨cs,hr,hcs⟩:=hc i hi;exact⟨cs,d.mono h hr,hcs⟩
 move:=by
  rintro w w' O x cs hs h ⟨A,c,rfl,h0,h2,hm,h1⟩;refine⟨A,c,rfl,h0,h2,hm,h1.imp id ?_⟩;rintro⟨b,o,e,hb,hl,hc⟩;refine⟨b,o,e,hb,Nat.lt_of_lt_of_le hl hs,fun i hi=>?_⟩;obtain⟨cs,hr,hcs⟩:=hc i hi;exact⟨cs,d.move hs h hr,fun j hj=>by rw[<- hcs j hj];exact World.cell?_of_block (h b hl hb)⟩
def pair{α β:Type}(a:Ty α)(b:Ty β):Ty (α × β) where
 sz:=a.sz+b.sz
 R:=fun w O x cs=>∃ c0 c1,cs=c0++c1/\a.R w O x.1 c0/\b.R w O x.2 c1
 len:=by
  rintro w O x cs ⟨c0,c1,rfl,h0,h1⟩;rw[List.length_append,a.len h0,b.len h1]
 one:=by
  rintro w O x cs ⟨c0,c1,rfl,h0,h1⟩ u hu;rcases List.mem_append.1 hu with hu|hu
  ·exact a.one h0 u hu
  ·exact b.one h1 u hu
 mono:=by
  rintro w O O' x cs h ⟨c0,c1,rfl,h0,h1⟩;exact⟨c0,c1,rfl,a.mono h h0,b.mono h h1⟩
 move:=by
  rintro w w' O x cs hs h ⟨c0,c1,rfl,h0,h1⟩;exact⟨c0,c1,rfl,a.move hs h h0,b.move hs h h1⟩
def iso{α β:Type}(d:Ty α)(f:β->α):Ty β where
 sz:=d.sz
 R:=fun w O x cs=>d.R w O (f x) cs
 len:=d.len
 one:=d.one
 mono:=d.mono
 move:=d.move
end Ty
abbrev strs:Ty (List ByteArray):=Ty.slice Ty.str
structure GWord where
 surface:ByteArray
 left:Int
 right:Int
 weight:Int
 pos:List ByteArray
 contents:List ByteArray
structure Un where
 name:ByteArray
 invoke:Bool
 group:Bool
structure R7 where
 lo:Int
 hi:Int
 cls:Int
structure GUnk where
 cls:Int
 left:Int
 right:Int
 weight:Int
 contents:List ByteArray
structure GMark where
 name:ByteArray
 place:Int
structure GRec where
 text:ByteArray
 tokens:List ByteArray
 yomi:List ByteArray
 pos:ByteArray
structure Zf where
 words:List GWord
 rows:Int
 cols:Int
 costs:List Int
 classes:List Un
 chars:List R7
 unknown:List GUnk
 meta0:List GMark
 unkMeta:List GMark
 hasUser:Bool
 user:List GRec
instance:Inhabited GWord:=⟨⟨.empty,0,0,0,[],[]⟩⟩
instance:Inhabited GUnk:=⟨⟨0,0,0,0,[]⟩⟩
instance:Inhabited GRec:=⟨⟨.empty,[],[],.empty⟩⟩
def tWord:Ty GWord:=.iso (.pair .str (.pair .int (.pair .int (.pair .int (.pair strs strs))))) (fun x=>(x.surface,x.left,x.right,x.weight,x.pos,x.contents))
def tClass:Ty Un:=.iso (.pair .str (.pair .bool .bool)) (fun x=>(x.name,x.invoke,x.group))
def tChars:Ty R7:=.iso (.pair .int (.pair .int .int)) (fun x=>(x.lo,x.hi,x.cls))
def tUnk:Ty GUnk:=.iso (.pair .int (.pair .int (.pair .int (.pair .int strs)))) (fun x=>(x.cls,x.left,x.right,x.weight,x.contents))
def tMark:Ty GMark:=.iso (.pair .str .int) (fun x=>(x.name,x.place))
def tRec:Ty GRec:=.iso (.pair .str (.pair strs (.pair strs .str))) (fun x=>(x.text,x.tokens,x.yomi,x.pos))
def tDict:Ty Zf:=.iso (.pair (.slice tWord) (.pair .int (.pair .int (.pair (.slice .int) (.pair (.slice tClass) (.pair (.slice tChars) (.pair (.slice tUnk) (.pair (.slice tMark) (.pair (.slice tMark) (.pair .bool (.slice tRec)))))))))))
 (fun d=>(d.words,d.rows,d.cols,d.costs,d.classes,d.chars,d.unknown,d.meta0,d.unkMeta,d.hasUser,d.user))
theorem J9{w:World}{O:Nat->Prop}{x:List ByteArray}{cs:List Value}(h:strs.R w O x cs):∃ v,cs=[v]:=by
 obtain⟨A,c,rfl,_⟩:=h;exact⟨_,rfl⟩
theorem Uy{w:World}{O:Nat->Prop}{x:GWord}{cs:List Value}(h:tWord.R w O x cs) :
  ∃ p q,cs=[.string x.surface,.int .i64 x.left,.int .i64 x.right,.int .i64 x.weight,p,q]/\strs.R w O x.pos [p]/\strs.R w O x.contents [q]/\x.surface.size<=9223372036854775807:=by
 obtain⟨_,_,rfl,⟨rfl,hs⟩,_,_,rfl,⟨rfl,_⟩,_,_,rfl,⟨rfl,_⟩,_,_,rfl,⟨rfl,_⟩,_,_,rfl,⟨A,c,rfl,h1⟩,⟨A',c',rfl,h2⟩⟩:=h;exact⟨_,_,rfl,⟨A,c,rfl,h1⟩,⟨A',c',rfl,h2⟩,hs⟩
theorem Qj{w:World}{O:Nat->Prop}{x:Un}{cs:List Value}(h:tClass.R w O x cs):cs=[.string x.name,.bool x.invoke,.bool x.group]:=by
 obtain⟨_,_,rfl,⟨rfl,_⟩,_,_,rfl,⟨rfl,_⟩,⟨rfl,_⟩⟩:=h;rfl
theorem Ej{w:World}{O:Nat->Prop}{x:R7}{cs:List Value}(h:tChars.R w O x cs):cs=[.int .i64 x.lo,.int .i64 x.hi,.int .i64 x.cls]:=by
 obtain⟨_,_,rfl,⟨rfl,_⟩,_,_,rfl,⟨rfl,_⟩,⟨rfl,_⟩⟩:=h;rfl
theorem Tv{w:World}{O:Nat->Prop}{x:GUnk}{cs:List Value}(h:tUnk.R w O x cs) :
  ∃ q,cs=[.int .i64 x.cls,.int .i64 x.left,.int .i64 x.right,.int .i64 x.weight,q]/\strs.R w O x.contents [q]:=by
 obtain⟨_,_,rfl,⟨rfl,_⟩,_,_,rfl,⟨rfl,_⟩,_,_,rfl,⟨rfl,_⟩,_,_,rfl,⟨rfl,_⟩,⟨A,c,rfl,h1⟩⟩:=h;exact⟨_,rfl,⟨A,c,rfl,h1⟩⟩
theorem Pq{w:World}{O:Nat->Prop}{x:GMark}{cs:List Value}(h:tMark.R w O x cs):cs=[.string x.name,.int .i64 x.place]/\x.name.size<=9223372036854775807 /\ -9223372036854775808<=x.place/\x.place<=9223372036854775807:=by
 obtain⟨_,_,rfl,⟨rfl,h0⟩,⟨rfl,h1,h2⟩⟩:=h;exact⟨rfl,h0,h1,h2⟩
theorem Qz{w:World}{O:Nat->Prop}{x:GRec}{cs:List Value}(h:tRec.R w O x cs) :
  ∃ p q,cs=[.string x.text,p,q,.string x.pos]/\strs.R w O x.tokens [p]/\strs.R w O x.yomi [q]/\x.text.size<=9223372036854775807/\x.pos.size<=9223372036854775807:=by
 obtain⟨_,_,rfl,⟨rfl,h0⟩,_,_,rfl,⟨A,c,rfl,h1⟩,_,_,rfl,⟨A',c',rfl,h2⟩,⟨rfl,h3⟩⟩:=h;exact⟨_,_,rfl,⟨A,c,rfl,h1⟩,⟨A',c',rfl,h2⟩,h0,h3⟩
theorem Yh{w:World}{O:Nat->Prop}{d:Zf}{cs:List Value}(h:tDict.R w O d cs) :
  ∃ A1 c1 A2 c2 A3 c3 A4 c4 A5 c5 A6 c6 A7 c7 A8 c8,cs=[.slice A1 d.words.length c1,.int .i64 d.rows,.int .i64 d.cols,.slice A2 d.costs.length c2,.slice A3 d.classes.length c3,.slice A4 d.chars.length c4,.slice A5 d.unknown.length c5,.slice A6 d.meta0.length c6,.slice A7 d.unkMeta.length c7,.bool d.hasUser,.slice A8 d.user.length c8] /\
   (d.words.length<=c1/\(A1=none->c1=0)/\tWord.At w O A1 d.words)/\(d.costs.length<=c2/\(A2=none->c2=0)/\Ty.int.At w O A2 d.costs)/\(d.classes.length<=c3/\(A3=none->c3=0)/\tClass.At w O A3 d.classes)/\(d.chars.length<=c4/\(A4=none->c4=0)/\tChars.At w O A4 d.chars) /\
   (d.unknown.length<=c5/\(A5=none->c5=0)/\tUnk.At w O A5 d.unknown)/\(d.meta0.length<=c6/\(A6=none->c6=0)/\tMark.At w O A6 d.meta0)/\(d.unkMeta.length<=c7/\(A7=none->c7=0)/\tMark.At w O A7 d.unkMeta)/\(d.user.length<=c8/\(A8=none->c8=0)/\tRec.At w O A8 d.user) /\
   (-9223372036854775808<=d.rows/\d.rows<=9223372036854775807)/\(-9223372036854775808<=d.cols/\d.cols<=9223372036854775807):=by
 obtain⟨_,_,rfl,⟨A1,c1,rfl,h1⟩,_,_,rfl,⟨rfl,hr⟩,_,_,rfl,⟨rfl,hc⟩,_,_,rfl,⟨A2,c2,rfl,h2⟩,_,_,rfl,⟨A3,c3,rfl,h3⟩,_,_,rfl,⟨A4,c4,rfl,h4⟩,_,_,rfl,⟨A5,c5,rfl,h5⟩,_,_,rfl,⟨A6,c6,rfl,h6⟩,_,_,rfl,⟨A7,c7,rfl,h7⟩,_,_,rfl,⟨rfl,_⟩,⟨A8,c8,rfl,h8⟩⟩:=h;exact⟨_,_,_,_,_,_,_,_,_,_,_,_,_,_,_,_,rfl,h1,h2,h3,h4,h5,h6,h7,h8,hr,hc⟩
section
variable{w:World}{O:Nat->Prop}{A:Option Addr}
theorem Zi9{α:Type}{d:Ty α}{xs:List α}{S:Nat->Prop}{w':World}(h:d.At w O A xs)(f:Fr S w w')(hs:∀ k,k<w.heap.size->O k->¬ S k):d.At w' O A xs:=by
 refine⟨h.1,h.2.imp id ?_⟩;rintro⟨b,o,e,hb,hl,hc⟩;refine⟨b,o,e,hb,Nat.lt_of_lt_of_le hl f.size,fun i hi=>?_⟩;obtain⟨cs,hr,hcs⟩:=hc i hi;exact⟨cs,d.keep hr f hs,fun j hj=>f.cell (hcs j hj) (hs b hl hb)⟩
theorem Yb{α:Type}{d:Ty α}{xs:List α}{w':World}(h:d.At w O A xs)(f:Ext w w'):d.At w' O A xs:=Zi9 h f (fun _ _ _=>id)
theorem Vz{xs:List ByteArray}(h:Ty.str.At w O A xs)(k:Nat)(hk:k<xs.length):∃ b o,A=some ⟨b,o,none⟩/\O b/\b<w.heap.size/\w.cell? ⟨b,o+k,none⟩=some (.string xs[k])/\xs[k].size<=9223372036854775807:=by
 rcases h.2 with rfl|⟨b,o,rfl,hb,hl,hc⟩
 ·simp at hk
 ·obtain⟨cs,⟨rfl,hp⟩,hcs⟩:=hc k hk;have c0:=hcs 0 (by simp);have e:o+k*1+0=o+k:=by omega
  exact⟨b,o,rfl,hb,hl,by rw[<- e];exact c0,hp⟩
theorem Zag{xs:List Int}(h:Ty.int.At w O A xs)(k:Nat)(hk:k<xs.length):∃ b o,A=some ⟨b,o,none⟩/\O b/\b<w.heap.size/\w.cell? ⟨b,o+k,none⟩=some (.int .i64 xs[k]) /\ -9223372036854775808<=xs[k]/\xs[k]<=9223372036854775807:=by
 rcases h.2 with rfl|⟨b,o,rfl,hb,hl,hc⟩
 ·simp at hk
 ·obtain⟨cs,⟨rfl,hp⟩,hcs⟩:=hc k hk;have c0:=hcs 0 (by simp);have e:o+k*1+0=o+k:=by omega
  exact⟨b,o,rfl,hb,hl,by rw[<- e];exact c0,hp⟩
theorem Lm{xs:List GWord}(h:tWord.At w O A xs)(k:Nat)(hk:k<xs.length):∃ b o p q,A=some ⟨b,o,none⟩/\O b/\b<w.heap.size/\strs.R w O xs[k].pos [p]/\strs.R w O xs[k].contents [q]/\xs[k].surface.size<=9223372036854775807 /\
  w.cell? ⟨b,o+k*6,none⟩=some (.string xs[k].surface)/\w.cell? ⟨b,o+k*6+1,none⟩=some (.int .i64 xs[k].left)/\w.cell? ⟨b,o+k*6+2,none⟩=some (.int .i64 xs[k].right) /\
  w.cell? ⟨b,o+k*6+3,none⟩=some (.int .i64 xs[k].weight)/\w.cell? ⟨b,o+k*6+4,none⟩=some p/\w.cell? ⟨b,o+k*6+5,none⟩=some q:=by
 rcases h.2 with rfl|⟨b,o,rfl,hb,hl,hc⟩
 ·simp at hk
 ·obtain⟨cs,hr,hcs⟩:=hc k hk;obtain⟨p,q,rfl,h1,h2,h3⟩:=Uy hr;exact⟨b,o,p,q,rfl,hb,hl,h1,h2,h3,hcs 0 (by simp),hcs 1 (by simp),hcs 2 (by simp),hcs 3 (by simp),hcs 4 (by simp),hcs 5 (by simp)⟩
theorem Zg1{xs:List Un}(h:tClass.At w O A xs)(k:Nat)(hk:k<xs.length):∃ b o,A=some ⟨b,o,none⟩/\O b/\b<w.heap.size /\
  w.cell? ⟨b,o+k*3,none⟩=some (.string xs[k].name)/\w.cell? ⟨b,o+k*3+1,none⟩=some (.bool xs[k].invoke)/\w.cell? ⟨b,o+k*3+2,none⟩=some (.bool xs[k].group):=by
 rcases h.2 with rfl|⟨b,o,rfl,hb,hl,hc⟩
 ·simp at hk
 ·obtain⟨cs,hr,hcs⟩:=hc k hk;cases Qj hr;exact⟨b,o,rfl,hb,hl,hcs 0 (by simp),hcs 1 (by simp),hcs 2 (by simp)⟩
theorem Cz{xs:List R7}(h:tChars.At w O A xs)(k:Nat)(hk:k<xs.length):∃ b o,A=some ⟨b,o,none⟩/\O b/\b<w.heap.size /\
  w.cell? ⟨b,o+k*3,none⟩=some (.int .i64 xs[k].lo)/\w.cell? ⟨b,o+k*3+1,none⟩=some (.int .i64 xs[k].hi)/\w.cell? ⟨b,o+k*3+2,none⟩=some (.int .i64 xs[k].cls):=by
 rcases h.2 with rfl|⟨b,o,rfl,hb,hl,hc⟩
 ·simp at hk
 ·obtain⟨cs,hr,hcs⟩:=hc k hk;cases Ej hr;exact⟨b,o,rfl,hb,hl,hcs 0 (by simp),hcs 1 (by simp),hcs 2 (by simp)⟩
theorem Zen{xs:List GUnk}(h:tUnk.At w O A xs)(k:Nat)(hk:k<xs.length):∃ b o q,A=some ⟨b,o,none⟩/\O b/\b<w.heap.size/\strs.R w O xs[k].contents [q] /\
  w.cell? ⟨b,o+k*5,none⟩=some (.int .i64 xs[k].cls)/\w.cell? ⟨b,o+k*5+1,none⟩=some (.int .i64 xs[k].left)/\w.cell? ⟨b,o+k*5+2,none⟩=some (.int .i64 xs[k].right) /\
  w.cell? ⟨b,o+k*5+3,none⟩=some (.int .i64 xs[k].weight)/\w.cell? ⟨b,o+k*5+4,none⟩=some q:=by
 rcases h.2 with rfl|⟨b,o,rfl,hb,hl,hc⟩
 ·simp at hk
 ·obtain⟨cs,hr,hcs⟩:=hc k hk;obtain⟨q,rfl,h1⟩:=Tv hr;exact⟨b,o,q,rfl,hb,hl,h1,hcs 0 (by simp),hcs 1 (by simp),hcs 2 (by simp),hcs 3 (by simp),hcs 4 (by simp)⟩
theorem Gw{xs:List GMark}(h:tMark.At w O A xs)(k:Nat)(hk:k<xs.length):∃ b o,A=some ⟨b,o,none⟩/\O b/\b<w.heap.size /\
  w.cell? ⟨b,o+k*2,none⟩=some (.string xs[k].name)/\w.cell? ⟨b,o+k*2+1,none⟩=some (.int .i64 xs[k].place) /\ -9223372036854775808<=xs[k].place/\xs[k].place<=9223372036854775807:=by
 rcases h.2 with rfl|⟨b,o,rfl,hb,hl,hc⟩
 ·simp at hk
 ·obtain⟨cs,hr,hcs⟩:=hc k hk;obtain⟨rfl,h0,h1,h2⟩:=Pq hr;exact⟨b,o,rfl,hb,hl,hcs 0 (by simp),hcs 1 (by simp),h1,h2⟩
theorem Gh{xs:List GRec}(h:tRec.At w O A xs)(k:Nat)(hk:k<xs.length):∃ b o p q,A=some ⟨b,o,none⟩/\O b/\b<w.heap.size/\strs.R w O xs[k].tokens [p]/\strs.R w O xs[k].yomi [q]/\xs[k].text.size<=9223372036854775807/\xs[k].pos.size<=9223372036854775807 /\
  w.cell? ⟨b,o+k*4,none⟩=some (.string xs[k].text)/\w.cell? ⟨b,o+k*4+1,none⟩=some p/\w.cell? ⟨b,o+k*4+2,none⟩=some q/\w.cell? ⟨b,o+k*4+3,none⟩=some (.string xs[k].pos):=by
 rcases h.2 with rfl|⟨b,o,rfl,hb,hl,hc⟩
 ·simp at hk
 ·obtain⟨cs,hr,hcs⟩:=hc k hk;obtain⟨p,q,rfl,h1,h2,h3,h4⟩:=Qz hr;exact⟨b,o,p,q,rfl,hb,hl,h1,h2,h3,h4,hcs 0 (by simp),hcs 1 (by simp),hcs 2 (by simp),hcs 3 (by simp)⟩
end
end DT
end
section
open Go.RowKit DT Go.Deep Go.Lib
def Jk{α:Type}(T:TypeId)(D:Ty α):Prop:=∀ {H:Type} (enc:TypeId × Value->H) (w:World) (sp:Nat->Bool) (fuel:Nat) (cs:List Value) (x:DataW H × List MemPlace),DataW.trod enc Tryz.prog w 0 sp true fuel T cs=some x->∃ a,D.R w (fun _=>True) a cs
theorem Vp{T:TypeId}(ht:Tryz.prog.underlying T=some (.int .i64)):Jk T Ty.int:=by
 intro H enc w sp fuel cs x h;obtain⟨n,rfl,_,hw⟩:=DataW.trod_int ht h;exact⟨n,rfl,bounds_i64 hw⟩
theorem Gl{T:TypeId}(ht:Tryz.prog.underlying T=some .bool):Jk T Ty.bool:=by
 intro H enc w sp fuel cs x h;obtain⟨b,rfl,_⟩:=DataW.trod_bool ht h;exact⟨b,rfl,trivial⟩
theorem N7{T:TypeId}(ht:Tryz.prog.underlying T=some .string):Jk T Ty.str:=by
 intro H enc w sp fuel cs x h;obtain⟨s,rfl,_,hs⟩:=DataW.trod_string ht h;unfold maxLen at hs;exact⟨s,rfl,by omega⟩
theorem Ub{α:Type}[Inhabited α]{T e:TypeId}{D:Ty α}(ht:Tryz.prog.underlying T=some (.slice e))(hc:Tryz.prog.cellsOf e=D.sz)(hz:0<D.sz)(hd:Jk e D):Jk T (Ty.slice D):=by
 intro H enc w sp fuel cs x h;rcases open_slice ht h with ⟨rfl,_⟩|⟨a,len,cap,m,n,Dd,Pl,rfl,_,hl,hm,hmm,_,hel⟩
 ·exact⟨[],none,0,rfl,Nat.le_refl _,fun _=>rfl,by simp,.inl rfl⟩
 ·have hlm:len<=m:=by rw[hmm];split <;> omega
  unfold maxLen at hm
  obtain⟨f,hf⟩:=choose_lt (α:=α) (n:=len) (p:=fun i y=>∃ cs',w.cells? 0 (a.add (i*Tryz.prog.cellsOf e)) (Tryz.prog.cellsOf e)=some cs'/\D.R w (fun _=>True) y cs') (fun i hi=>by
   obtain⟨cs',h1,h2⟩:=hel i (by omega);obtain⟨y,hy⟩:=hd enc w sp n cs' _ h2
   exact⟨y,cs',h1,hy⟩)
  refine⟨(List.range len).map f,some a,cap,by simp,by simpa using hl,(fun e=>by cases e),by simp;omega,?_⟩;by_cases h0:len=0
  ·left;subst h0;rfl
  right;obtain⟨b,o,spot⟩:=a;obtain⟨cs0,k1,k2⟩:=hf 0 (by omega);obtain⟨_,k4,k5⟩:=World.cells?_some k1;have hl0:=D.len k2;have hne:0<cs0.length:=by omega
  have kc:=k5 0 (by omega);rw[List.getElem?_eq_getElem hne]at kc
  have hsp:spot=none:=by
   have:=World.cell?_spot kc;simpa [Addr.add] using this
  subst hsp
  have hbl:b<w.heap.size:=by
   have:=World.block_lt_of_cell? w _ kc;simpa [Addr.add] using this
  refine⟨b,o,rfl,trivial,hbl,fun i hi=>?_⟩;have hi':i<len:=by simpa using hi
  obtain⟨cs',h1,h2⟩:=hf i hi';obtain⟨_,h4,h5⟩:=World.cells?_some h1;refine⟨cs',by simpa using h2,fun j hj=>?_⟩;have:=h5 j (by omega);rw[List.getElem?_eq_getElem hj,hc]at this;rw[<- this];simp only[Go.WideShapes.add_plain]
theorem Zje{α:Type}{l:List α}(i:Nat)(v:α)(h:l[i]? = some v):(l.drop i).take 1=[v]:=by
 have hic:=(List.getElem?_eq_some_iff.1 h).1;rw[List.drop_eq_getElem_cons hic];rw[List.getElem?_eq_getElem hic]at h;simp[Option.some.inj h]
theorem Tz{T:TypeId}{fs:Array Field}(ht:Tryz.prog.underlying T=some (.struct fs))(hone:oneCellFields Tryz.prog fs=true)(hct:Tryz.prog.cellsOf T=fs.size){H:Type}(enc:TypeId × Value->H)(w:World)(sp:Nat->Bool)(fuel:Nat)(cs:List Value)(x:DataW H × List MemPlace)(h:DataW.trod enc Tryz.prog w 0 sp true fuel T cs=some x) :
  cs.length=fs.size/\∀ (i:Nat) (f:Field) (v:Value),fs[i]? = some f->cs[i]? = some v->∃ n y,DataW.trod enc Tryz.prog w 0 sp true n f.type [v]=some y:=by
 obtain⟨xs,n,rfl,_,hl,hxl,hall⟩:=DataW.trod_struct ht h;refine⟨by rw[hl,hct],fun i f v hf hv=>?_⟩;obtain⟨o,k⟩:=hone_of hone i f hf;have h1:=hall i f hf;have hi:i<fs.size:=(Array.getElem?_eq_some_iff.1 hf).1;obtain⟨y,hy⟩:∃ y,xs[i]? = some y:=⟨xs[i]'(by omega),List.getElem?_eq_getElem (by omega)⟩;rw[hy,o,k]at h1;exact⟨n,y,by rw[<- Zje i v hv];exact h1⟩
theorem Zke{α:Type}{l:List α}(h:l.length=2):∃ a b,l=[a,b]:=by
 match l,h with
 | [a,b],_=>exact⟨a,b,rfl⟩
theorem Zjd{α:Type}{l:List α}(h:l.length=3):∃ a b c,l=[a,b,c]:=by
 match l,h with
 | [a,b,c],_=>exact⟨a,b,c,rfl⟩
theorem Zjc{α:Type}{l:List α}(h:l.length=4):∃ a b c d,l=[a,b,c,d]:=by
 match l,h with
 | [a,b,c,d],_=>exact⟨a,b,c,d,rfl⟩
theorem Zkd{α:Type}{l:List α}(h:l.length=5):∃ a b c d e,l=[a,b,c,d,e]:=by
 match l,h with
 | [a,b,c,d,e],_=>exact⟨a,b,c,d,e,rfl⟩
theorem Zkc{α:Type}{l:List α}(h:l.length=6):∃ a b c d e f,l=[a,b,c,d,e,f]:=by
 match l,h with
 | [a,b,c,d,e,f],_=>exact⟨a,b,c,d,e,f,rfl⟩
theorem Zfz{α:Type}{l:List α}(h:l.length=11):∃ a b c d e f g i j k m,l=[a,b,c,d,e,f,g,i,j,k,m]:=by
 match l,h with
 | [a,b,c,d,e,f,g,i,j,k,m],_=>exact⟨a,b,c,d,e,f,g,i,j,k,m,rfl⟩
theorem Gj:Jk 43 strs:=Ub Tryz.underlying43 (by kernel_rfl) (by decide) (N7 Tryz.underlying9)
theorem Zh8:Jk 45 tWord:=by
 intro H enc w sp fuel cs x h;obtain⟨hl,hf⟩:=Tz Tryz.underlying45 (by kernel_rfl) (by kernel_rfl) enc w sp fuel cs x h;obtain⟨v0,v1,v2,v3,v4,v5,rfl⟩:=Zkc hl;obtain⟨_,_,h0⟩:=hf 0 _ _ rfl rfl;obtain⟨_,_,h1⟩:=hf 1 _ _ rfl rfl;obtain⟨_,_,h2⟩:=hf 2 _ _ rfl rfl;obtain⟨_,_,h3⟩:=hf 3 _ _ rfl rfl;obtain⟨_,_,h4⟩:=hf 4 _ _ rfl rfl;obtain⟨_,_,h5⟩:=hf 5 _ _ rfl rfl;obtain⟨a0,r0⟩:=N7 Tryz.underlying9 enc w sp _ _ _ h0;obtain⟨a1,r1⟩:=Vp Tryz.underlying3 enc w sp _ _ _ h1;obtain⟨a2,r2⟩:=Vp Tryz.underlying3 enc w sp _ _ _ h2;obtain⟨a3,r3⟩:=Vp Tryz.underlying3 enc w sp _ _ _ h3;obtain⟨a4,r4⟩:=Gj enc w sp _ _ _ h4;obtain⟨a5,r5⟩:=Gj enc w sp _ _ _ h5;exact⟨⟨a0,a1,a2,a3,a4,a5⟩,[v0],_,rfl,r0,[v1],_,rfl,r1,[v2],_,rfl,r2,[v3],_,rfl,r3,[v4],[v5],rfl,r4,r5⟩
theorem Zfj:Jk 139 tClass:=by
 intro H enc w sp fuel cs x h;obtain⟨hl,hf⟩:=Tz Tryz.underlying139 (by kernel_rfl) (by kernel_rfl) enc w sp fuel cs x h;obtain⟨v0,v1,v2,rfl⟩:=Zjd hl;obtain⟨_,_,h0⟩:=hf 0 _ _ rfl rfl;obtain⟨_,_,h1⟩:=hf 1 _ _ rfl rfl;obtain⟨_,_,h2⟩:=hf 2 _ _ rfl rfl;obtain⟨a0,r0⟩:=N7 Tryz.underlying9 enc w sp _ _ _ h0;obtain⟨a1,r1⟩:=Gl Tryz.underlying4 enc w sp _ _ _ h1;obtain⟨a2,r2⟩:=Gl Tryz.underlying4 enc w sp _ _ _ h2;exact⟨⟨a0,a1,a2⟩,[v0],_,rfl,r0,[v1],[v2],rfl,r1,r2⟩
theorem Zfk:Jk 107 tChars:=by
 intro H enc w sp fuel cs x h;obtain⟨hl,hf⟩:=Tz Tryz.underlying107 (by kernel_rfl) (by kernel_rfl) enc w sp fuel cs x h;obtain⟨v0,v1,v2,rfl⟩:=Zjd hl;obtain⟨_,_,h0⟩:=hf 0 _ _ rfl rfl;obtain⟨_,_,h1⟩:=hf 1 _ _ rfl rfl;obtain⟨_,_,h2⟩:=hf 2 _ _ rfl rfl;obtain⟨a0,r0⟩:=Vp Tryz.underlying3 enc w sp _ _ _ h0;obtain⟨a1,r1⟩:=Vp Tryz.underlying3 enc w sp _ _ _ h1;obtain⟨a2,r2⟩:=Vp Tryz.underlying3 enc w sp _ _ _ h2;exact⟨⟨a0,a1,a2⟩,[v0],_,rfl,r0,[v1],[v2],rfl,r1,r2⟩
theorem Zjn:Jk 61 tUnk:=by
 intro H enc w sp fuel cs x h;obtain⟨hl,hf⟩:=Tz Tryz.underlying61 (by kernel_rfl) (by kernel_rfl) enc w sp fuel cs x h;obtain⟨v0,v1,v2,v3,v4,rfl⟩:=Zkd hl;obtain⟨_,_,h0⟩:=hf 0 _ _ rfl rfl;obtain⟨_,_,h1⟩:=hf 1 _ _ rfl rfl;obtain⟨_,_,h2⟩:=hf 2 _ _ rfl rfl;obtain⟨_,_,h3⟩:=hf 3 _ _ rfl rfl;obtain⟨_,_,h4⟩:=hf 4 _ _ rfl rfl;obtain⟨a0,r0⟩:=Vp Tryz.underlying3 enc w sp _ _ _ h0;obtain⟨a1,r1⟩:=Vp Tryz.underlying3 enc w sp _ _ _ h1;obtain⟨a2,r2⟩:=Vp Tryz.underlying3 enc w sp _ _ _ h2;obtain⟨a3,r3⟩:=Vp Tryz.underlying3 enc w sp _ _ _ h3;obtain⟨a4,r4⟩:=Gj enc w sp _ _ _ h4;exact⟨⟨a0,a1,a2,a3,a4⟩,[v0],_,rfl,r0,[v1],_,rfl,r1,[v2],_,rfl,r2,[v3],[v4],rfl,r3,r4⟩
theorem Zbi:Jk 102 tMark:=by
 intro H enc w sp fuel cs x h;obtain⟨hl,hf⟩:=Tz Tryz.underlying102 (by kernel_rfl) (by kernel_rfl) enc w sp fuel cs x h;obtain⟨v0,v1,rfl⟩:=Zke hl;obtain⟨_,_,h0⟩:=hf 0 _ _ rfl rfl;obtain⟨_,_,h1⟩:=hf 1 _ _ rfl rfl;obtain⟨a0,r0⟩:=N7 Tryz.underlying9 enc w sp _ _ _ h0;obtain⟨a1,r1⟩:=Vp Tryz.underlying3 enc w sp _ _ _ h1;exact⟨⟨a0,a1⟩,[v0],[v1],rfl,r0,r1⟩
instance:Inhabited Un:=⟨⟨.empty,false,false⟩⟩
instance:Inhabited R7:=⟨⟨0,0,0⟩⟩
instance:Inhabited GMark:=⟨⟨.empty,0⟩⟩
end
end Go.Proofs.YtoliamijgmifkaaGreatDoor
section
namespace SS
open Go.Sort
variable{α:Type}[Inhabited α]
def lt2(lt:α->α->Bool)(tag:α->Nat)(x y:α):Bool:=lt x y||(!lt y x&&decide (tag x<tag y))
section
variable{lt:α->α->Bool}{tag:α->Nat}
omit [Inhabited α] in
theorem Ov(h:SWO lt):SWO (lt2 lt tag):=by
 have asy:∀ x y,lt x y=true->lt y x=false:=fun x y=>h.asymmA
 refine⟨fun x=>by simp[lt2,h.irrefl],fun x y z h1 h2=>?_,fun x y z h1 h2=>?_⟩
 ·simp only[lt2,Bool.or_eq_true,Bool.and_eq_true,Bool.not_eq_true',decide_eq_true_eq]at h1 h2⊢;rcases h1 with h1|⟨h1,h1'⟩ <;> rcases h2 with h2|⟨h2,h2'⟩
  ·exact .inl (h.trans x y z h1 h2)
  ·refine .inl ?_
   cases e:lt x z with
   | true=>rfl
   | false=>have:=h.ntrans x z y e h2;rw[h1]at this;cases this
  ·refine .inl ?_
   cases e:lt x z with
   | true=>rfl
   | false=>have:=h.ntrans y x z h1 e;rw[h2]at this;cases this
  ·exact .inr ⟨h.ntrans z y x h2 h1,by omega⟩
 ·simp only[lt2,Bool.or_eq_false_iff,Bool.and_eq_false_iff,Bool.not_eq_false',decide_eq_false_iff_not]at h1 h2⊢;refine⟨h.ntrans x y z h1.1 h2.1,?_⟩;rcases h1.2 with a|a <;> rcases h2.2 with b|b
  ·exact .inl (h.trans z y x b a)
  ·refine .inl ?_
   cases e:lt z x with
   | true=>rfl
   | false=>have:=h.ntrans y z x h2.1 e;rw[a]at this;cases this
  ·refine .inl ?_
   cases e:lt z x with
   | true=>rfl
   | false=>have:=h.ntrans z x y e h1.1;rw[b]at this;cases this
  ·exact .inr (by omega)
omit [Inhabited α] in
theorem Xp{x y:α}(h:tag y<tag x):lt2 lt tag x y=lt x y:=by
 unfold lt2;have:decide (tag x<tag y)=false:=by simp;omega
 rw[this];simp
def SwR(d:Array α)(a b i:Nat)(d':Array α):Prop :=
 d'.size=d.size/\∀ x,d'[x]! = if a<=x/\x<a+i then d[b+(x-a)]! else if b<=x/\x<b+i then d[a+(x-b)]! else d[x]!
theorem SwR.zero(d:Array α)(a b:Nat):SwR d a b 0 d:=⟨rfl,fun x=>by rw[if_neg (by omega),if_neg (by omega)]⟩
theorem SwR.step{d d':Array α}{a b i:Nat}(h:SwR d a b i d')(hab:a+i<b)(hb:b+i<d.size):SwR d a b (i+1) (swp d' (a+i) (b+i)):=by
 refine⟨by rw[swp_size];exact h.1,fun x=>?_⟩;rw[swp_get d' (by rw[h.1];omega) (by rw[h.1];omega)];simp only[h.2]
 (repeat' split) <;> first|rfl|(exfalso;omega)|(congr 1;omega)
def Wz(d:Array α)(a m b:Nat)(d':Array α):Prop :=
 d'.size=d.size/\∀ x,d'[x]! = if a<=x/\x<a+(b-m) then d[x+(m-a)]! else if a+(b-m)<=x/\x<b then d[x-(b-m)]! else d[x]!
def Pd(d:Array α)(a m b i j:Nat)(dk:Array α):Prop:=dk.size=d.size/\i<=m-a/\j<=b-m/\∀ d',Wz dk (m-i) m (m+j) d'->Wz d a m b d'
theorem Pd.start(d:Array α){a m b:Nat}(h1:a<=m)(h2:m<=b):Pd d a m b (m-a) (b-m) d :=
 ⟨rfl,Nat.le_refl _,Nat.le_refl _,fun d' h=>by rw[show m-(m-a)=a by omega,show m+(b-m)=b by omega]at h;exact h⟩
theorem Pd.left{d dk d2:Array α}{a m b i j:Nat}(h:Pd d a m b i j dk)(ham:a<=m)(hmb:m<=b)(hlt:j<i)(hs:SwR dk (m-i) m j d2):Pd d a m b (i-j) j d2:=by
 obtain⟨h0,h1,h2,h3⟩:=h;refine⟨hs.1.trans h0,by omega,h2,fun d' hd=>h3 d' ⟨hd.1.trans hs.1,fun x=>?_⟩⟩;rw[hd.2];simp only[hs.2]
 (repeat' split) <;> first|rfl|(exfalso;omega)|(congr 1;omega)
theorem Pd.right{d dk d2:Array α}{a m b i j:Nat}(h:Pd d a m b i j dk)(ham:a<=m)(hmb:m<=b)(hlt:i<j)(hs:SwR dk (m-i) (m+j-i) i d2):Pd d a m b i (j-i) d2:=by
 obtain⟨h0,h1,h2,h3⟩:=h;refine⟨hs.1.trans h0,h1,by omega,fun d' hd=>h3 d' ⟨hd.1.trans hs.1,fun x=>?_⟩⟩;rw[hd.2];simp only[hs.2]
 (repeat' split) <;> first|rfl|(exfalso;omega)|(congr 1;omega)
theorem Pd.done{d dk d2:Array α}{a m b i:Nat}(h:Pd d a m b i i dk)(ham:a<=m)(hmb:m<=b)(hs:SwR dk (m-i) m i d2):Wz d a m b d2:=by
 obtain⟨h0,h1,h2,h3⟩:=h;refine h3 d2 ⟨hs.1,fun x=>?_⟩;rw[hs.2]
 (repeat' split) <;> first|rfl|(exfalso;omega)|(congr 1;omega)
end
end SS
end
section
namespace SS
open Go.Sort
variable{α:Type}[Inhabited α]{lt:α->α->Bool}{tag:α->Nat}
theorem Kg{d d':Array α}{a m b:Nat}(h:Wz d a m b d')(h1:a<=m)(h2:m<=b)(h3:b<=d.size):PermIn a b d d':=by
 refine⟨h.1,fun i hi=>by rw[h.2,if_neg (by omega),if_neg (by omega)],?_⟩;rw[extract_toList d' a b (by rw[h.1];exact h3),extract_toList d a b h3]
 have e1:(List.range' a (b-a)).map (fun i=>d'[i]!)=(List.range' m (b-m)).map (fun i=>d[i]!)++(List.range' a (m-a)).map (fun i=>d[i]!):=by
  apply List.ext_getElem
  ·simp;omega
  ·intro k k1 k2;simp only[List.length_map,List.length_range']at k1;simp only[List.getElem_map,List.getElem_range',List.getElem_append,List.length_map,List.length_range',h.2]
   (repeat' split) <;> first|rfl|(exfalso;omega)|(congr 1;omega)
 have e2:(List.range' a (b-a)).map (fun i=>d[i]!)=(List.range' a (m-a)).map (fun i=>d[i]!)++(List.range' m (b-m)).map (fun i=>d[i]!):=by
  rw[<- List.map_append];congr 1;have:=List.range'_append_1 (s:=a) (m:=m-a) (n:=b-m);rw[show a+(m-a)=m by omega,show m-a+(b-m)=b-a by omega]at this;exact this.symm
 rw[e1,e2];exact List.perm_append_comm
def Mg(L:α->α->Bool)(d:Array α)(a b:Nat)(d':Array α):Prop:=PermIn a b d d'/\SortedIn L a b d'
theorem L7(d:Array α)(a:Nat):Wz d a (a+1) (a+1) d:=⟨rfl,fun x=>by (repeat' split) <;> first|rfl|(exfalso;omega)|(congr 1;omega)⟩
theorem L8{d dk:Array α}{a k:Nat}(h:Wz d a (a+1) (k+1) dk)(ha:a<=k)(hk:k+1<d.size):Wz d a (a+1) (k+2) (swp dk k (k+1)):=by
 refine⟨by rw[swp_size];exact h.1,fun x=>?_⟩;rw[swp_get dk (by rw[h.1];omega) (by rw[h.1];omega)];simp only[h.2]
 (repeat' split) <;> first|rfl|(exfalso;omega)|(congr 1;omega)
theorem L9(d:Array α)(m:Nat):Wz d m m (m+1) d:=⟨rfl,fun x=>by (repeat' split) <;> first|rfl|(exfalso;omega)|(congr 1;omega)⟩
theorem Ka{d dk:Array α}{m k:Nat}(h:Wz d (k+1) m (m+1) dk)(hk:k+1<=m)(hm:m<d.size):Wz d k m (m+1) (swp dk (k+1) k):=by
 refine⟨by rw[swp_size];exact h.1,fun x=>?_⟩;rw[swp_get dk (by rw[h.1];omega) (by rw[h.1];omega)];simp only[h.2]
 (repeat' split) <;> first|rfl|(exfalso;omega)|(congr 1;omega)
theorem Ax{L:α->α->Bool}(hL:SWO L){d d':Array α}{a i b:Nat}(h:Wz d a (a+1) i d')(h1:a+1<=i)(h2:i<=b)(hb:b<=d.size)
  (hs:SortedIn L (a+1) b d) (lo:∀ k,a+1<=k->k<i->L d[k]! d[a]! = true) (hi:∀ k,i<=k->k<b->L d[k]! d[a]! = false):Mg L d a b d':=by
 refine⟨permIn_mono _ _ _ _ _ _ (Nat.le_refl _) h2 hb (Kg h (by omega) h1 (by omega)),fun x y hx hxy hy=>?_⟩
 have ex:(d'[x]! = d[x+1]! /\ x<i-1)\/(d'[x]! = d[a]! /\ x=i-1)\/(d'[x]! = d[x]! /\ i<=x):=by
  rw[h.2];by_cases c1:x<i-1
  ·rw[if_pos (by omega)];exact .inl ⟨by congr 1;omega,c1⟩
  ·rw[if_neg (by omega)];by_cases c2:x=i-1
   ·rw[if_pos (by omega)];exact .inr (.inl ⟨by congr 1;omega,c2⟩)
   ·rw[if_neg (by omega)];exact .inr (.inr ⟨rfl,by omega⟩)
 have ey:(d'[y]! = d[y+1]! /\ y<i-1)\/(d'[y]! = d[a]! /\ y=i-1)\/(d'[y]! = d[y]! /\ i<=y):=by
  rw[h.2];by_cases c1:y<i-1
  ·rw[if_pos (by omega)];exact .inl ⟨by congr 1;omega,c1⟩
  ·rw[if_neg (by omega)];by_cases c2:y=i-1
   ·rw[if_pos (by omega)];exact .inr (.inl ⟨by congr 1;omega,c2⟩)
   ·rw[if_neg (by omega)];exact .inr (.inr ⟨rfl,by omega⟩)
 rcases ex with ⟨e,c⟩|⟨e,c⟩|⟨e,c⟩ <;> rcases ey with ⟨e',c'⟩|⟨e',c'⟩|⟨e',c'⟩ <;> rw[e,e']
 ·exact hs _ _ (by omega) (by omega) (by omega)
 ·exact hL.asymmA (lo _ (by omega) (by omega))
 ·exact hs _ _ (by omega) (by omega) (by omega)
 ·omega
 ·omega
 ·exact hi _ (by omega) (by omega)
 ·omega
 ·omega
 ·exact hs _ _ (by omega) (by omega) (by omega)
theorem Aw{L:α->α->Bool}(hL:SWO L){d d':Array α}{a i m:Nat}(h:Wz d i m (m+1) d')(h1:a<=i)(h2:i<=m)(hb:m+1<=d.size)
  (hs:SortedIn L a m d) (lo:∀ k,a<=k->k<i->L d[m]! d[k]! = false) (hi:∀ k,i<=k->k<m->L d[m]! d[k]! = true):Mg L d a (m+1) d':=by
 refine⟨permIn_mono _ _ _ _ _ _ h1 (Nat.le_refl _) hb (Kg h h2 (by omega) (by omega)),fun x y hx hxy hy=>?_⟩
 have en:∀ x,(d'[x]! = d[x]! /\ (x<i\/m<x))\/(d'[x]! = d[m]! /\ x=i)\/(d'[x]! = d[x-1]! /\ i<x/\x<=m):=by
  intro x;rw[h.2];by_cases c1:x=i
  ·rw[if_pos (by omega)];exact .inr (.inl ⟨by congr 1;omega,c1⟩)
  ·rw[if_neg (by omega)];by_cases c2:i<x/\x<=m
   ·rw[if_pos (by omega)];exact .inr (.inr ⟨by congr 1;omega,c2⟩)
   ·rw[if_neg (by omega)];exact .inl ⟨rfl,by omega⟩
 rcases en x with ⟨e,c⟩|⟨e,c⟩|⟨e,c⟩ <;> rcases en y with ⟨e',c'⟩|⟨e',c'⟩|⟨e',c'⟩ <;> rw[e,e']
 ·exact hs _ _ (by omega) (by omega) (by omega)
 ·exact lo _ (by omega) (by omega)
 ·exact hs _ _ (by omega) (by omega) (by omega)
 ·omega
 ·omega
 ·exact hL.asymmA (hi _ (by omega) (by omega))
 ·omega
 ·omega
 ·exact hs _ _ (by omega) (by omega) (by omega)
theorem B9{L:α->α->Bool}(hL:SWO L){d:Array α}{a m b n c c':Nat}(hA:SortedIn L a m d)(hB:SortedIn L m b d)(h1:a<=c')(h2:c'<=c)(h3:c<m)(h4:n-1-c'<b)(h5:m<=n-1-c)(h6:c<n)
  (hc:L d[n-1-c]! d[c]! = false):L d[n-1-c']! d[c']! = false:=by
 by_cases e:c'=c
 ·rw[e];exact hc
 ·exact hL.ntrans _ _ _ (hL.ntrans _ _ _ (hB _ _ h5 (by omega) h4) hc) (hA _ _ h1 (by omega) h3)
structure Cut(L:α->α->Bool)(d:Array α)(a m b s e:Nat):Prop where
 h1:a<=s
 h2:s<=m
 h3:m<=e
 h4:e<=b
 hA:SortedIn L a m d
 hB:SortedIn L m b d
 less:∀ i j,s<=i->i<m->m<=j->j<e->L d[j]! d[i]! = true
 more:∀ i j,a<=i->i<s->e<=j->j<b->L d[j]! d[i]! = false
theorem Cut.nth{L:α->α->Bool}{d d1:Array α}{a m b s e:Nat}(c:Cut L d a m b s e)(h:Wz d s m e d1)(x:Nat) :
  (d1[x]! = d[x]! /\ (x<s\/e<=x))\/(d1[x]! = d[x+(m-s)]! /\ s<=x/\x<s+(e-m))\/(d1[x]! = d[x-(e-m)]! /\ s+(e-m)<=x/\x<e):=by
 have:=c.h1;have:=c.h2;have:=c.h3;have:=c.h4;rw[h.2];by_cases c1:s<=x/\x<s+(e-m)
 ·rw[if_pos c1];exact .inr (.inl ⟨rfl,c1⟩)
 ·rw[if_neg c1];by_cases c2:s+(e-m)<=x/\x<e
  ·rw[if_pos c2];exact .inr (.inr ⟨rfl,c2⟩)
  ·rw[if_neg c2];exact .inl ⟨rfl,by omega⟩
theorem Cut.sorts{L:α->α->Bool}{d d1:Array α}{a m b s e:Nat}(c:Cut L d a m b s e)(h:Wz d s m e d1) :
  SortedIn L a s d1/\SortedIn L s (s+(e-m)) d1/\SortedIn L (s+(e-m)) e d1/\SortedIn L e b d1:=by
 have:=c.h1;have:=c.h2;have:=c.h3;have:=c.h4;refine⟨fun x y h1 h2 h3=>?_,fun x y h1 h2 h3=>?_,fun x y h1 h2 h3=>?_,fun x y h1 h2 h3=>?_⟩
 ·rcases c.nth h x with ⟨e,c'⟩|⟨e,c'⟩|⟨e,c'⟩ <;> rcases c.nth h y with ⟨e',c''⟩|⟨e',c''⟩|⟨e',c''⟩ <;> first|(exfalso;omega)|(rw[e,e'];exact c.hA _ _ (by omega) (by omega) (by omega))
 ·rcases c.nth h x with ⟨e,c'⟩|⟨e,c'⟩|⟨e,c'⟩ <;> rcases c.nth h y with ⟨e',c''⟩|⟨e',c''⟩|⟨e',c''⟩ <;> first|(exfalso;omega)|(rw[e,e'];exact c.hB _ _ (by omega) (by omega) (by omega))
 ·rcases c.nth h x with ⟨e,c'⟩|⟨e,c'⟩|⟨e,c'⟩ <;> rcases c.nth h y with ⟨e',c''⟩|⟨e',c''⟩|⟨e',c''⟩ <;> first|(exfalso;omega)|(rw[e,e'];exact c.hA _ _ (by omega) (by omega) (by omega))
 ·rcases c.nth h x with ⟨e,c'⟩|⟨e,c'⟩|⟨e,c'⟩ <;> rcases c.nth h y with ⟨e',c''⟩|⟨e',c''⟩|⟨e',c''⟩ <;> first|(exfalso;omega)|(rw[e,e'];exact c.hB _ _ (by omega) (by omega) (by omega))
theorem Cut.tags{L:α->α->Bool}{d d1:Array α}{a m b s e:Nat}(c:Cut L d a m b s e)(h:Wz d s m e d1)(t:∀ i j,a<=i->i<m->m<=j->j<b->tag d[i]! < tag d[j]!) :
  (∀ i j,a<=i->i<s->s<=j->j<s+(e-m)->tag d1[i]! < tag d1[j]!)/\(∀ i j,s+(e-m)<=i->i<e->e<=j->j<b->tag d1[i]! < tag d1[j]!):=by
 have:=c.h1;have:=c.h2;have:=c.h3;have:=c.h4;refine⟨fun x y h1 h2 h3 h4=>?_,fun x y h1 h2 h3 h4=>?_⟩
 ·rcases c.nth h x with ⟨e,c'⟩|⟨e,c'⟩|⟨e,c'⟩ <;> rcases c.nth h y with ⟨e',c''⟩|⟨e',c''⟩|⟨e',c''⟩ <;> first|(exfalso;omega)|(rw[e,e'];exact t _ _ (by omega) (by omega) (by omega) (by omega))
 ·rcases c.nth h x with ⟨e,c'⟩|⟨e,c'⟩|⟨e,c'⟩ <;> rcases c.nth h y with ⟨e',c''⟩|⟨e',c''⟩|⟨e',c''⟩ <;> first|(exfalso;omega)|(rw[e,e'];exact t _ _ (by omega) (by omega) (by omega) (by omega))
theorem Ar{L:α->α->Bool}(hL:SWO L){d d1 d2 d3:Array α}{a m b s e mid:Nat}(c:Cut L d a m b s e)(hm:mid=s+(e-m))(h:Wz d s m e d1)(hb:b<=d.size)
  (k2:Mg L d1 a mid d2) (k3:Mg L d2 mid b d3):Mg L d a b d3:=by
 have g1:=c.h1;have g2:=c.h2;have g3:=c.h3;have g4:=c.h4;have s1:d1.size=d.size:=h.1;have s2:d2.size=d.size:=k2.1.1.trans s1;have p1:PermIn a b d d1:=permIn_mono _ _ _ _ _ _ g1 g4 hb (Kg h g2 g3 (by omega));have p2:PermIn a b d1 d2:=permIn_mono _ _ _ _ _ _ (Nat.le_refl _) (by omega) (by omega) k2.1;have p3:PermIn a b d2 d3:=permIn_mono _ _ _ _ _ _ (by omega) (Nat.le_refl _) (by omega) k3.1;refine⟨permIn_trans _ _ _ _ _ p1 (permIn_trans _ _ _ _ _ p2 p3),?_⟩
 have cross:∀ x y,a<=x->x<mid->mid<=y->y<b->L d1[y]! d1[x]! = false:=by
  intro x y x1 x2 y1 y2;rcases c.nth h x with ⟨e,c'⟩|⟨e,c'⟩|⟨e,c'⟩ <;> rcases c.nth h y with ⟨e',c''⟩|⟨e',c''⟩|⟨e',c''⟩ <;> first|(exfalso;omega)|rw[e,e']
  ·exact c.more _ _ (by omega) (by omega) (by omega) (by omega)
  ·exact c.hA _ _ (by omega) (by omega) (by omega)
  ·exact c.hB _ _ (by omega) (by omega) (by omega)
  ·exact hL.asymmA (c.less _ _ (by omega) (by omega) (by omega) (by omega))
 have cross2:∀ y,mid<=y->y<b->∀ x,a<=x->x<mid->L d1[y]! d2[x]! = false:=fun y y1 y2 =>
  permIn_all d1 d2 a mid (fun u=>L d1[y]! u=false) (by omega) k2.1 (fun x x1 x2=>cross x y x1 x2 y1 y2)
 have cross3:∀ x,a<=x->x<mid->∀ y,mid<=y->y<b->L d3[y]! d2[x]! = false:=fun x x1 x2 =>
  permIn_all d2 d3 mid b (fun u=>L u d2[x]! = false) (by omega) k3.1 (fun y y1 y2=>by rw[k2.1.2.1 y (by omega)];exact cross2 y y1 y2 x x1 x2)
 intro x y hx hxy hy;rcases Nat.lt_or_ge y mid with q|q
 ·rw[k3.1.2.1 x (by omega),k3.1.2.1 y (by omega)];exact k2.2 x y hx hxy q
 ·rcases Nat.lt_or_ge x mid with r|r
  ·rw[k3.1.2.1 x (by omega)];exact cross3 x hx r y q hy
  ·exact k3.2 x y r hxy hy
end SS
end
section
namespace SS
open Go.Sort
variable{α:Type}[Inhabited α]{lt:α->α->Bool}{tag:α->Nat}
theorem Tp{L:α->α->Bool}(hL:SWO L){d:Array α}{a m b s mid n lo hi:Nat}(hmid:mid=(a+b) / 2)(hn:n=mid+m)
  (hlo:lo=if m > mid then n-b else a) (hhi:hi=if m > mid then mid else m) (h1:lo<=s) (h2:s<=hi) (hA:SortedIn L a m d) (hB:SortedIn L m b d)
  (low:∀ c,lo<=c->c<s->L d[n-1-c]! d[c]! = false) (high:∀ c,s<=c->c<hi->L d[n-1-c]! d[c]! = true):Cut L d a m b s (n-s)/\mid=s+(n-s-m)/\a<=lo/\hi<=m/\hi<=mid:=by
 have f1:a<=lo:=by split at hlo <;> omega
 have f2:hi<=m:=by split at hhi <;> omega
 have f3:hi<=mid:=by split at hhi <;> omega
 have f4:n-lo<=b:=by split at hlo <;> omega
 have f5:m<=n-s:=by omega
 refine⟨⟨by omega,by omega,f5,by omega,hA,hB,fun i j i1 i2 j1 j2=>?_,fun i j i1 i2 j1 j2=>?_⟩,by omega,f1,f2,f3⟩
 ·have hs:s<hi:=by split at hhi <;> omega
  have F:=high s (Nat.le_refl _) hs
  cases e:L d[j]! d[i]! with
  | true=>rfl
  | false =>
   have g1:L d[j]! d[s]! = false:=by
    by_cases q:i=s
    ·rw[<- q];exact e
    ·exact hL.ntrans _ _ _ e (hA _ _ (by omega) (by omega) i2)
   have g2:L d[n-1-s]! d[s]! = false:=by
    by_cases q:j=n-1-s
    ·rw[<- q];exact g1
    ·exact hL.ntrans _ _ _ (hB _ _ j1 (by omega) (by omega)) g1
   rw[F]at g2;cases g2
 ·have hs:lo<s:=by split at hlo <;> omega
  have F:=low (s-1) (by omega) (by omega);rw[show n-1-(s-1)=n-s by omega]at F
  have g1:L d[j]! d[s-1]! = false:=by
   by_cases q:j=n-s
   ·rw[q];exact F
   ·exact hL.ntrans _ _ _ (hB _ _ f5 (by omega) j2) F
  by_cases q:i=s-1
  ·rw[q];exact g1
  ·exact hL.ntrans _ _ _ g1 (hA _ _ i1 (by omega) (by omega))
theorem O6(a:Nat):∀ (j:Nat) (d:Array α),j<d.size->(∀ x,a<=x->x<j->tag d[x]! < tag d[j]!)->insInner lt a j d=insInner (lt2 lt tag) a j d
 | 0,d,_,_=>rfl
 | j+1,d,hs,h=>by
  unfold insInner;by_cases hj:j+1 > a
  ·have e:lt2 lt tag d[j+1]! d[j]! = lt d[j+1]! d[j]!:=Xp (h j (by omega) (by omega));rw[e]
   split
   ·refine O6 a j (swp d (j+1) j) (by rw[swp_size];omega) (fun x h1 h2=>?_);rw[swp_get d hs (by omega),swp_get d hs (by omega),if_neg (by omega),if_neg (by omega),if_pos rfl];exact h x h1 (by omega)
   ·rfl
  ·simp[hj]
theorem O5(hS:SWO lt)(a b:Nat):∀ (n i:Nat) (d:Array α),b-i=n->a<=i->b<=d.size->(∀ x y,a<=x->x<y->i<=y->y<b->tag d[x]! < tag d[y]!)->insOuter lt a b i d=insOuter (lt2 lt tag) a b i d
 | 0,i,d,hn,_,_,_=>by
  rw[insOuter];conv=>rhs;rw[insOuter]
  rw[if_neg (by omega),if_neg (by omega)]
 | n+1,i,d,hn,hai,hb,h=>by
  rw[insOuter];conv=>rhs;rw[insOuter]
  rw[if_pos (by omega),if_pos (by omega)];have e:=O6 (lt:=lt) (tag:=tag) a i d (by omega) (fun x h1 h2=>h x i h1 h2 (Nat.le_refl _) (by omega));rw[e]
  have hp:PermIn a (i+1) d (insInner (lt2 lt tag) a i d):=by
   have key:∀ (j:Nat) (d:Array α),a<=j->j<=i->i<d.size->PermIn a (i+1) d (insInner (lt2 lt tag) a j d):=by
    intro j
    induction j with
    | zero=>intro d _ _ _;exact permIn_refl _ _ _
    | succ j ih =>
     intro d h1 h2 h3;unfold insInner
     split
     ·rename_i hc;simp only[Bool.and_eq_true,decide_eq_true_eq]at hc;exact permIn_trans _ _ _ _ _ (swp_permIn d a (i+1) (j+1) j h1 (by omega) (by omega) (by omega) (by omega)) (ih _ (by omega) (by omega) (by rw[swp_size];exact h3))
     ·exact permIn_refl _ _ _
   exact key i d hai (Nat.le_refl _) (by omega)
  refine O5 hS a b n (i+1) _ (by omega) (by omega) (by rw[hp.1];exact hb) (fun x y h1 h2 h3 h4=>?_);rw[hp.2.1 y (by omega)];rcases Nat.lt_or_ge x (i+1) with q|q
  ·exact permIn_all d _ a (i+1) (fun u=>tag u<tag d[y]!) (by omega) hp (fun z z1 z2=>h z y z1 (by omega) (by omega) h4) x h1 q
  ·rw[hp.2.1 x (by omega)];exact h x y h1 h2 (by omega) h4
theorem Wg(hS:SWO lt)(d:Array α)(a b:Nat)(hab:a<=b)(hb:b<=d.size)(h:∀ x y,a<=x->x<y->y<b->tag d[x]! < tag d[y]!):Mg (lt2 lt tag) d a b (insertionSort lt d a b):=by
 have e:insertionSort lt d a b=insertionSort (lt2 lt tag) d a b:=by
  unfold insertionSort;exact O5 hS a b _ (a+1) d rfl (by omega) hb (fun x y h1 h2 _ h4=>h x y h1 h2 h4)
 rw[e];exact insertionSort_holds (Ov hS) d a b hab hb
def Blk(L:α->α->Bool)(tag:α->Nat)(d:Array α)(s e:Nat):Prop:=SortedIn L s e d/\∀ i,s<=i->i<e->s<=tag d[i]! /\ tag d[i]! < e
theorem Blk.far{L:α->α->Bool}{d d':Array α}{s e a b:Nat}(h:Blk L tag d s e)(p:PermIn a b d d')(hf:e<=a\/b<=s):Blk L tag d' s e :=
 ⟨fun i j h1 h2 h3=>by rw[p.2.1 i (by omega),p.2.1 j (by omega)];exact h.1 i j h1 h2 h3,fun i h1 h2=>by rw[p.2.1 i (by omega)];exact h.2 i h1 h2⟩
theorem Blk.merged{L:α->α->Bool}{d d':Array α}{a m b:Nat}(h:Blk L tag d a m)(k:Blk L tag d m b)(hb:b<=d.size)(h1:a<=m)(h2:m<=b)(g:Mg L d a b d'):Blk L tag d' a b :=
 ⟨g.2,permIn_all d d' a b (fun u=>a<=tag u/\tag u<b) hb g.1 (fun i i1 i2=>by
  rcases Nat.lt_or_ge i m with q|q
  ·have:=h.2 i i1 q;omega
  ·have:=k.2 i q i2;omega)⟩
theorem Blk.tags{L:α->α->Bool}{d:Array α}{a m b:Nat}(h:Blk L tag d a m)(k:Blk L tag d m b):∀ i j,a<=i->i<m->m<=j->j<b->tag d[i]! < tag d[j]!:=fun i j h1 h2 h3 h4=>by
 have:=h.2 i h1 h2;have:=k.2 j h3 h4;omega
structure Ms(L:α->α->Bool)(tag:α->Nat)(n bs k:Nat)(d0 d:Array α):Prop where
 perm:PermIn 0 n d0 d
 done:∀ t,t<k->Blk L tag d (t*(2*bs)) (t*(2*bs)+2*bs)
 todo:∀ t,2*k<=t->t*bs<n->Blk L tag d (t*bs) (min (t*bs+bs) n)
structure Ta(L:α->α->Bool)(tag:α->Nat)(n bs:Nat)(d0 d:Array α):Prop where
 perm:PermIn 0 n d0 d
 blk:∀ t,t*bs<n->Blk L tag d (t*bs) (min (t*bs+bs) n)
variable{L:α->α->Bool}{n bs k:Nat}{d0 d d':Array α}
theorem Ta.start(h:Ta L tag n bs d0 d):Ms L tag n bs 0 d0 d:=⟨h.perm,fun t ht=>by omega,fun t _ ht=>h.blk t ht⟩
theorem Zfx(k bs:Nat):k*(2*bs)=2*k*bs:=by rw[<- Nat.mul_assoc,Nat.mul_comm k 2]
theorem Ms.pair(h:Ms L tag n bs k d0 d)(hn:n=d0.size)(hlt:2*k*bs+2*bs<=n) :
  Blk L tag d (2*k*bs) (2*k*bs+bs)/\Blk L tag d (2*k*bs+bs) (2*k*bs+2*bs):=by
 by_cases h0:bs=0
 ·subst h0;exact⟨⟨fun i j h1 h2 h3=>by omega,fun i h1 h2=>by omega⟩,⟨fun i j h1 h2 h3=>by omega,fun i h1 h2=>by omega⟩⟩
 have e:(2*k+1)*bs=2*k*bs+bs:=by rw[Nat.add_mul,Nat.one_mul]
 have b1:=h.todo (2*k) (Nat.le_refl _) (by omega);have b2:=h.todo (2*k+1) (by omega) (by omega);rw[show min (2*k*bs+bs) n=2*k*bs+bs by omega]at b1;rw[e,show min (2*k*bs+bs+bs) n=2*k*bs+2*bs by omega]at b2;exact⟨b1,b2⟩
theorem Ms.step(h:Ms L tag n bs k d0 d)(hn:n=d0.size)(hlt:2*k*bs+2*bs<=n)(g:Mg L d (2*k*bs) (2*k*bs+2*bs) d'):Ms L tag n bs (k+1) d0 d':=by
 have hs:d.size=n:=by rw[hn];exact h.perm.1
 obtain⟨b1,b2⟩:=h.pair hn hlt;refine⟨permIn_trans _ _ _ _ _ h.perm (permIn_mono _ _ _ _ _ _ (Nat.zero_le _) hlt (by omega) g.1),fun t ht=>?_,fun t ht hl=>?_⟩
 ·rcases Nat.lt_or_ge t k with q|q
  ·refine (h.done t q).far g.1 (.inl ?_);have:=Nat.mul_le_mul_right (2*bs) (show t+1<=k from q);rw[Nat.add_mul,Nat.one_mul]at this;rw[<- Zfx];exact this
  ·obtain rfl:t=k:=by omega
   rw[Zfx];exact b1.merged b2 (by omega) (by omega) (by omega) g
 ·refine (h.todo t (by omega) hl).far g.1 (.inr ?_);have:=Nat.mul_le_mul_right bs (show 2*k+2<=t by omega);rw[Nat.add_mul]at this;exact this
theorem Ms.tail(h:Ms L tag n bs k d0 d)(hn:n=d0.size)(h1:2*k*bs+bs<n)(h2:n<2*k*bs+2*bs):Blk L tag d (2*k*bs) (2*k*bs+bs)/\Blk L tag d (2*k*bs+bs) n:=by
 have e:(2*k+1)*bs=2*k*bs+bs:=by rw[Nat.add_mul,Nat.one_mul]
 have b1:=h.todo (2*k) (Nat.le_refl _) (by omega);have b2:=h.todo (2*k+1) (by omega) (by omega);rw[show min (2*k*bs+bs) n=2*k*bs+bs by omega]at b1;rw[e,show min (2*k*bs+bs+bs) n=n by omega]at b2;exact⟨b1,b2⟩
theorem Ms.close(h:Ms L tag n bs k d0 d)(hn:n=d0.size)(hk:2*k*bs<=n)(h2:n<2*k*bs+2*bs)(g:(d'=d/\n<=2*k*bs+bs)\/(2*k*bs+bs<n/\Mg L d (2*k*bs) n d')):Ta L tag n (2*bs) d0 d':=by
 have hs:d.size=n:=by rw[hn];exact h.perm.1
 have hp:PermIn (2*k*bs) n d d':=by
  rcases g with ⟨e,_⟩|⟨_,g⟩
  ·rw[e];exact permIn_refl _ _ _
  ·exact g.1
 refine⟨permIn_trans _ _ _ _ _ h.perm (permIn_mono _ _ _ _ _ _ (Nat.zero_le _) (Nat.le_refl _) (by omega) hp),fun t ht=>?_⟩;rcases Nat.lt_or_ge t k with q|q
 ·have:=Nat.mul_le_mul_right (2*bs) (show t+1<=k from q);rw[Nat.add_mul,Nat.one_mul,Zfx k]at this;have hb:=(h.done t q).far hp (.inl this);rw[show min (t*(2*bs)+2*bs) n=t*(2*bs)+2*bs by omega];exact hb
 ·have e:t=k:=by
   rcases Nat.lt_or_ge k t with r|r
   ·have:=Nat.mul_le_mul_right (2*bs) (show k+1<=t from r);rw[Nat.add_mul,Nat.one_mul,Zfx k]at this;omega
   ·omega
  subst e;rw[Zfx]at ht⊢;rw[show min (2*t*bs+2*bs) n=n by omega];rcases g with ⟨e,hle⟩|⟨hlt,g⟩
  ·have b1:=h.todo (2*t) (Nat.le_refl _) (by omega);rw[show min (2*t*bs+bs) n=n by omega]at b1;rw[e];exact b1
  ·obtain⟨b1,b2⟩:=h.tail hn hlt h2;exact b1.merged b2 (by omega) (by omega) (by omega) g
end SS
end
section
namespace SS
open Go.Sort
variable{α:Type}
def Tc(lt:α->α->Bool)(x:α):List α->List α
 | []=>[x]
 | y::l=>if lt x y then x::y::l else y::Tc lt x l
def Z2(lt:α->α->Bool)(l:List α):List α:=l.foldl (fun acc x=>Tc lt x acc) []
theorem T3(lt:α->α->Bool)(x:α):∀ l,(Tc lt x l).Perm (x::l)
 | []=>.refl _
 | y::l=>by
  unfold Tc
  split
  ·exact .refl _
  ·exact ((T3 lt x l).cons y).trans (.swap x y l)
theorem Qu(lt:α->α->Bool):∀ (l acc:List α),(l.foldl (fun acc x=>Tc lt x acc) acc).Perm (acc++l)
 | [],acc=>by simp
 | x::l,acc=>by
  show (l.foldl _ (Tc lt x acc)).Perm _;refine (Qu lt l _).trans ?_;refine ((T3 lt x acc).append_right l).trans ?_;exact (List.perm_middle (l₁:=acc) (a:=x) (l₂:=l)).symm
theorem Zw(lt:α->α->Bool)(l:List α):(Z2 lt l).Perm l:=by simpa [Z2] using Qu lt l []
theorem Dz{β:Type}(lt:α->α->Bool)(f:β->α)(x:β):∀ l,(Tc (fun a b=>lt (f a) (f b)) x l).map f=Tc lt (f x) (l.map f)
 | []=>rfl
 | y::l=>by
  simp only[Tc,List.map_cons]
  split
  ·rfl
  ·rw[List.map_cons,Dz lt f x l]
theorem N2{β:Type}(lt:α->α->Bool)(f:β->α)(l:List β):(Z2 (fun a b=>lt (f a) (f b)) l).map f=Z2 lt (l.map f):=by
 have:∀ (l acc:List β),(l.foldl (fun acc x=>Tc (fun a b=>lt (f a) (f b)) x acc) acc).map f=(l.map f).foldl (fun acc x=>Tc lt x acc) (acc.map f):=by
  intro l
  induction l with
  | nil=>intro acc;rfl
  | cons x l ih=>intro acc;rw[List.foldl_cons,ih,Dz];rfl
 exact this l []
variable{lt:α->α->Bool}{tag:α->Nat}
theorem Dy(h:SWO lt)(x:α):∀ l:List α,l.Pairwise (fun a b=>lt2 lt tag b a=false)->(∀ y∈l,tag y<tag x)->(Tc lt x l).Pairwise (fun a b=>lt2 lt tag b a=false)
 | [],_,_=>by simp[Tc]
 | y::l,hp,ht=>by
  have hy:tag y<tag x:=ht y (by simp);rw[List.pairwise_cons]at hp;unfold Tc
  split
  next c =>
   have hxy:lt2 lt tag y x=false:=by
    have a:=h.asymmA c;simp only[lt2,a,c,Bool.false_or,Bool.not_true,Bool.false_and]
   rw[List.pairwise_cons];refine⟨fun z hz=>?_,by rw[List.pairwise_cons];exact hp⟩;rcases List.mem_cons.1 hz with rfl|hz
   ·exact hxy
   ·exact (Ov h).ntrans _ _ _ (hp.1 z hz) hxy
  next c =>
   rw[List.pairwise_cons];refine⟨fun z hz=>?_,Dy h x l hp.2 (fun y' hy'=>ht y' (by simp[hy']))⟩;rcases List.mem_cons.1 ((T3 lt x l).mem_iff.1 hz) with rfl|hz
   ·rw[Xp hy];simpa using c
   ·exact hp.1 z hz
theorem Zc8(h:SWO lt)(l:List α)(ht:l.Pairwise (fun a b=>tag a<tag b)):(Z2 lt l).Pairwise (fun a b=>lt2 lt tag b a=false):=by
 have:∀ (l acc:List α),acc.Pairwise (fun a b=>lt2 lt tag b a=false)->(∀ a∈acc,∀ b∈l,tag a<tag b)->l.Pairwise (fun a b=>tag a<tag b)->(l.foldl (fun acc x=>Tc lt x acc) acc).Pairwise (fun a b=>lt2 lt tag b a=false):=by
  intro l
  induction l with
  | nil=>intro acc h1 _ _;exact h1
  | cons x l ih =>
   intro acc h1 h2 h3;rw[List.pairwise_cons]at h3;refine ih _ (Dy h x acc h1 (fun y hy=>h2 y hy x (by simp))) (fun a ha b hb=>?_) h3.2;rcases List.mem_cons.1 ((T3 lt x acc).mem_iff.1 ha) with rfl|ha
   ·exact h3.1 b hb
   ·exact h2 a ha b (by simp[hb])
 exact this l [] .nil (by simp) ht
theorem Jn(h:SWO lt){l l':List α}(ht:l.Pairwise (fun a b=>tag a<tag b))(hp:l'.Perm l)(hs:l'.Pairwise (fun a b=>lt2 lt tag b a=false)):l'=Z2 lt l:=by
 refine List.Perm.eq_of_pairwise (le:=fun a b=>lt2 lt tag b a=false) (fun a b ha hb h1 h2=>?_) hs (Zc8 h l ht) (hp.trans (Zw lt l).symm);have ha:a∈l:=hp.mem_iff.1 ha;have hb:b∈l:=(Zw lt l).mem_iff.1 hb
 have et:tag a=tag b:=by
  simp only[lt2,Bool.or_eq_false_iff,Bool.and_eq_false_iff,Bool.not_eq_false',decide_eq_false_iff_not]at h1 h2;rcases h1.2 with q|q
  ·rw[h2.1]at q;cases q
  ·rcases h2.2 with q'|q'
   ·rw[h1.1]at q';cases q'
   ·omega
 obtain⟨i,hi,rfl⟩:=List.getElem_of_mem ha;obtain⟨j,hj,rfl⟩:=List.getElem_of_mem hb;rw[List.pairwise_iff_getElem]at ht;rcases Nat.lt_trichotomy i j with q|q|q
 ·have:=ht i j hi hj q;omega
 ·subst q;rfl
 ·have:=ht j i hj hi q;omega
theorem Ta.stable[Inhabited α]{n bs:Nat}{d0 d:Array α}(hL:SWO lt)(h:Ta (lt2 lt tag) tag n bs d0 d)(hn:n=d0.size)(hb:n<=bs)(ht:∀ i,i<n->tag d0[i]! = i):d.toList=Z2 lt d0.toList:=by
 have hsz:d.size=n:=by rw[hn];exact h.perm.1
 refine Jn (tag:=tag) hL ?_ ?_ ?_
 ·rw[List.pairwise_iff_getElem];intro i j hi hj hij;simp only[Array.length_toList,<- hn]at hi hj;have e1:=ht i hi;have e2:=ht j hj;rw[getElem!_pos d0 i (by omega)]at e1;rw[getElem!_pos d0 j (by omega)]at e2;simp only[Array.getElem_toList];omega
 ·have:=h.perm.2.2;rw[extract_toList d 0 n (by omega),extract_toList d0 0 n (by omega)]at this
  have all:∀ (x:Array α),x.size=n->(List.range' 0 (n-0)).map (fun i=>x[i]!)=x.toList:=by
   intro x hx;apply List.ext_getElem
   ·simp[hx]
   ·intro k k1 k2;simp at k1;simp only[List.getElem_map,List.getElem_range',Array.getElem_toList];rw[getElem!_pos x (0+1*k) (by omega)];congr 1;omega
  rw[all d hsz,all d0 hn.symm]at this;exact this
 ·rw[List.pairwise_iff_getElem];intro i j hi hj hij;simp only[Array.length_toList,hsz]at hi hj;rcases Nat.eq_zero_or_pos n with hz|hz
  ·omega
  have b:=(h.blk 0 (by omega)).1;rw[Nat.zero_mul,Nat.zero_add,show min bs n=n by omega]at b;have:=b i j (Nat.zero_le _) hij hj;rw[getElem!_pos d i (by omega),getElem!_pos d j (by omega)]at this;simpa only [Array.getElem_toList] using this
end SS
end
section
namespace SS
open Go.Sort
def Ug(p:Nat->Bool)(lo hi i j:Nat):Prop:=lo<=i/\i<=j/\j<=hi/\(∀ c,lo<=c->c<i->p c=true)/\(∀ c,j<=c->c<hi->p c=false)
def Nn(p:Nat->Bool)(lo hi:Nat):Prop:=∀ c c',lo<=c->c<=c'->c'<hi->p c'=true->p c=true
theorem Ug.start(p:Nat->Bool){lo hi:Nat}(h:lo<=hi):Ug p lo hi lo hi:=⟨Nat.le_refl _,h,Nat.le_refl _,fun c _ _=>by omega,fun c _ _=>by omega⟩
theorem Ug.up{p:Nat->Bool}{lo hi i j h:Nat}(s:Ug p lo hi i j)(m:Nn p lo hi)(hi':i<=h)(hj:h<j)(hp:p h=true):Ug p lo hi (h+1) j:=by
 obtain⟨s1,s2,s3,s4,s5⟩:=s;exact⟨by omega,by omega,s3,fun c h1 h2=>m c h h1 (by omega) (by omega) hp,s5⟩
theorem Ug.down{p:Nat->Bool}{lo hi i j h:Nat}(s:Ug p lo hi i j)(m:Nn p lo hi)(hi':i<=h)(hj:h<j)(hp:p h=false):Ug p lo hi i h:=by
 obtain⟨s1,s2,s3,s4,s5⟩:=s;refine⟨s1,hi',by omega,s4,fun c h1 h2=>?_⟩
 cases e:p c with
 | false=>rfl
 | true=>have:=m h c (by omega) h1 h2 e;rw[hp]at this;cases this
variable{α:Type}[Inhabited α]{L:α->α->Bool}
theorem An(hL:SWO L){d:Array α}{a m b:Nat}(hB:SortedIn L m b d):Nn (fun c=>L d[c]! d[a]!) m b:=by
 intro c c' h1 h2 h3 h4;by_cases e:c=c'
 ·rw[e];exact h4
 ·cases q:L d[c]! d[a]! with
  | true=>exact q
  | false =>
   have:=hL.ntrans _ _ _ (hB c c' h1 (by omega) h3) q;simp only at h4;rw[this]at h4;cases h4
theorem Aj(hL:SWO L){d:Array α}{a m:Nat}(hA:SortedIn L a m d):Nn (fun c=>!L d[m]! d[c]!) a m:=by
 intro c c' h1 h2 h3 h4;by_cases e:c=c'
 ·rw[e];exact h4
 ·simp only[Bool.not_eq_true']at h4⊢;exact hL.ntrans _ _ _ h4 (hA c c' h1 (by omega) h3)
theorem Ah(hL:SWO L){d:Array α}{a m b n lo hi:Nat}(hA:SortedIn L a m d)(hB:SortedIn L m b d)(h1:a<=lo)(h2:hi<=m)(h3:n-1-lo<b\/hi<=lo)(h4:∀ c,lo<=c->c<hi->m<=n-1-c/\c<n):Nn (fun c=>!L d[n-1-c]! d[c]!) lo hi:=by
 intro c c' k1 k2 k3 k4;simp only[Bool.not_eq_true']at k4⊢;have:=h4 c' (by omega) k3;have:=h4 c k1 (by omega);exact B9 hL hA hB (c:=c') (c':=c) (by omega) k2 (by omega) (by omega) (by omega) (by omega) k4
theorem Tx(d:Array α){a m b:Nat}(h:a=m\/m=b):Wz d a m b d:=⟨rfl,fun x=>by (repeat' split) <;> first|rfl|(exfalso;omega)|(congr 1;omega)⟩
theorem Va{d:Array α}{a b:Nat}(h:SortedIn L a b d):Mg L d a b d:=⟨permIn_refl _ _ _,h⟩
theorem V1{d d':Array α}{a b x y:Nat}(h:SortedIn L x y d)(p:PermIn a b d d')(hf:b<=x):SortedIn L x y d':=fun i j h1 h2 h3=>by rw[p.2.1 i (by omega),p.2.1 j (by omega)];exact h i j h1 h2 h3
end SS
end
section
namespace SS
open Go.Sort
variable{α:Type}[Inhabited α]{L:α->α->Bool}{tag:α->Nat}{n t:Nat}{d0 d d':Array α}
structure Ui(L:α->α->Bool)(tag:α->Nat)(n t:Nat)(d0 d:Array α):Prop where
 perm:PermIn 0 n d0 d
 done:∀ x,x<t->Blk L tag d (x*20) (x*20+20)
 rest:∀ i,t*20<=i->d[i]! = d0[i]!
theorem Ui.start:Ui L tag n 0 d0 d0:=⟨permIn_refl _ _ _,fun x hx=>by omega,fun _ _=>rfl⟩
theorem Ui.tags(h:Ui L tag n t d0 d)(hn:n=d0.size)(ht:∀ i,i<n->tag d0[i]! = i){b:Nat}(hb:b<=n):∀ x y,t*20<=x->x<y->y<b->tag d[x]! < tag d[y]!:=fun x y h1 h2 h3=>by
 rw[h.rest x h1,h.rest y (by omega),ht x (by omega),ht y (by omega)];exact h2
theorem Ui.blk(h:Ui L tag n t d0 d)(hn:n=d0.size)(ht:∀ i,i<n->tag d0[i]! = i){b:Nat}(hb:b<=n)(g:Mg L d (t*20) b d'):Blk L tag d' (t*20) b :=
 ⟨g.2,permIn_all d d' (t*20) b (fun u=>t*20<=tag u/\tag u<b) (by rw[h.perm.1];omega) g.1 (fun i h1 h2=>by rw[h.rest i h1,ht i (by omega)];exact⟨h1,h2⟩)⟩
theorem Ui.step(h:Ui L tag n t d0 d)(hn:n=d0.size)(ht:∀ i,i<n->tag d0[i]! = i)(hb:t*20+20<=n)(g:Mg L d (t*20) (t*20+20) d'):Ui L tag n (t+1) d0 d':=by
 have hs:d.size=n:=by rw[hn];exact h.perm.1
 refine⟨permIn_trans _ _ _ _ _ h.perm (permIn_mono _ _ _ _ _ _ (Nat.zero_le _) hb (by omega) g.1),fun x hx=>?_,fun i hi=>?_⟩
 ·rcases Nat.lt_or_ge x t with q|q
  ·exact (h.done x q).far g.1 (.inl (by omega))
  ·have:x=t:=by omega
   subst this;exact h.blk hn ht hb g
 ·rw[g.1.2.1 i (by omega)];exact h.rest i (by omega)
theorem Ui.close(h:Ui L tag n t d0 d)(hn:n=d0.size)(ht:∀ i,i<n->tag d0[i]! = i)(h1:t*20<=n)(h2:n<t*20+20)(g:Mg L d (t*20) n d'):Ta L tag n 20 d0 d':=by
 have hs:d.size=n:=by rw[hn];exact h.perm.1
 refine⟨permIn_trans _ _ _ _ _ h.perm (permIn_mono _ _ _ _ _ _ (Nat.zero_le _) (Nat.le_refl _) (by omega) g.1),fun x hx=>?_⟩;rcases Nat.lt_or_ge x t with q|q
 ·rw[show min (x*20+20) n=x*20+20 by omega];exact (h.done x q).far g.1 (.inl (by omega))
 ·have:x=t:=by omega
  subst this;rw[show min (x*20+20) n=n by omega];exact h.blk hn ht (Nat.le_refl _) g
end SS
end
section
namespace Go.Proofs
open Go.Shelf
def YtoliamijgmifkaaGreatDoor.laysDec_ren:Go.Shelf.Ren:=⟨fun|197=>110|260=>138|n=>n,fun|9=>9|21=>21|3=>3|4=>4|5=>5|105=>227|119=>242|0=>0|46=>246|139=>245|138=>244|n=>n,fun|3=>0|4=>1|n=>n⟩
theorem YtoliamijgmifkaaGreatDoor.laysDec:Go.Proofs.Lays.n197 Tryz.prog YtoliamijgmifkaaGreatDoor.laysDec_ren:={
 mixed:=by kernel_rfl
 f197:=Tryz.func110.trans (congrArg some (by kernel_rfl))
 f260:=Tryz.func138.trans (congrArg some (by kernel_rfl))
 t0:=Tryz.underlying0
 a0:=Tryz.isAgg0
 z0:=Tryz.sizeOf0
 v0:=Tryz.zeroValue0
 t3:=Tryz.underlying3
 a3:=Tryz.isAgg3
 z3:=Tryz.sizeOf3
 v3:=Tryz.zeroValue3
 t4:=Tryz.underlying4
 a4:=Tryz.isAgg4
 z4:=Tryz.sizeOf4
 v4:=Tryz.zeroValue4
 t5:=Tryz.underlying5
 a5:=Tryz.isAgg5
 z5:=Tryz.sizeOf5
 v5:=Tryz.zeroValue5
 t9:=Tryz.underlying9
 a9:=Tryz.isAgg9
 z9:=Tryz.sizeOf9
 v9:=Tryz.zeroValue9
 t21:=Tryz.underlying21
 a21:=Tryz.isAgg21
 z21:=Tryz.sizeOf21
 v21:=Tryz.zeroValue21
 t46:=Tryz.underlying246
 a46:=Tryz.isAgg246
 z46:=Tryz.sizeOf246
 v46:=Tryz.zeroValue246
 t105:=Tryz.underlying227
 a105:=Tryz.isAgg227
 z105:=Tryz.sizeOf227
 v105:=Tryz.zeroValue227
 t119:=Tryz.underlying242
 a119:=Tryz.isAgg242
 z119:=Tryz.sizeOf242
 t138:=Tryz.underlying244
 a138:=Tryz.isAgg244
 z138:=Tryz.sizeOf244
 v138:=Tryz.zeroValue244
 t139:=Tryz.underlying245
 a139:=Tryz.isAgg245
 z139:=Tryz.sizeOf245
 v139:=Tryz.zeroValue245
 g3:=by kernel_rfl
 g4:=by kernel_rfl }
def YtoliamijgmifkaaGreatDoor.laysLast_ren:Go.Shelf.Ren:=⟨fun|271=>111|120=>139|197=>110|260=>138|n=>n,fun|9=>9|21=>21|3=>3|4=>4|5=>5|105=>227|119=>242|0=>0|46=>246|139=>245|138=>244|n=>n,fun|3=>0|4=>1|n=>n⟩
theorem YtoliamijgmifkaaGreatDoor.laysLast:Go.Proofs.Lays.n271 Tryz.prog YtoliamijgmifkaaGreatDoor.laysLast_ren:={
 mixed:=by kernel_rfl
 f120:=Tryz.func139.trans (congrArg some (by kernel_rfl))
 f197:=Tryz.func110.trans (congrArg some (by kernel_rfl))
 f260:=Tryz.func138.trans (congrArg some (by kernel_rfl))
 f271:=Tryz.func111.trans (congrArg some (by kernel_rfl))
 t0:=Tryz.underlying0
 a0:=Tryz.isAgg0
 z0:=Tryz.sizeOf0
 v0:=Tryz.zeroValue0
 t3:=Tryz.underlying3
 a3:=Tryz.isAgg3
 z3:=Tryz.sizeOf3
 v3:=Tryz.zeroValue3
 t4:=Tryz.underlying4
 a4:=Tryz.isAgg4
 z4:=Tryz.sizeOf4
 v4:=Tryz.zeroValue4
 t5:=Tryz.underlying5
 a5:=Tryz.isAgg5
 z5:=Tryz.sizeOf5
 v5:=Tryz.zeroValue5
 t9:=Tryz.underlying9
 a9:=Tryz.isAgg9
 z9:=Tryz.sizeOf9
 v9:=Tryz.zeroValue9
 t21:=Tryz.underlying21
 a21:=Tryz.isAgg21
 z21:=Tryz.sizeOf21
 v21:=Tryz.zeroValue21
 t46:=Tryz.underlying246
 a46:=Tryz.isAgg246
 z46:=Tryz.sizeOf246
 v46:=Tryz.zeroValue246
 t105:=Tryz.underlying227
 a105:=Tryz.isAgg227
 z105:=Tryz.sizeOf227
 v105:=Tryz.zeroValue227
 t119:=Tryz.underlying242
 a119:=Tryz.isAgg242
 z119:=Tryz.sizeOf242
 t138:=Tryz.underlying244
 a138:=Tryz.isAgg244
 z138:=Tryz.sizeOf244
 v138:=Tryz.zeroValue244
 t139:=Tryz.underlying245
 a139:=Tryz.isAgg245
 z139:=Tryz.sizeOf245
 v139:=Tryz.zeroValue245
 g3:=by kernel_rfl
 g4:=by kernel_rfl }
def YtoliamijgmifkaaGreatDoor.laysRl_ren:Go.Shelf.Ren:=⟨fun|118=>109|n=>n,fun|21=>21|3=>3|4=>4|n=>n,fun|n=>n⟩
theorem YtoliamijgmifkaaGreatDoor.laysRl:Go.Proofs.Lays.n118 Tryz.prog YtoliamijgmifkaaGreatDoor.laysRl_ren:={
 mixed:=by kernel_rfl
 f118:=Tryz.func109.trans (congrArg some (by kernel_rfl))
 t3:=Tryz.underlying3
 a3:=Tryz.isAgg3
 z3:=Tryz.sizeOf3
 v3:=Tryz.zeroValue3
 t4:=Tryz.underlying4
 a4:=Tryz.isAgg4
 z4:=Tryz.sizeOf4
 v4:=Tryz.zeroValue4
 t21:=Tryz.underlying21
 a21:=Tryz.isAgg21
 z21:=Tryz.sizeOf21
 v21:=Tryz.zeroValue21 }
def YtoliamijgmifkaaGreatDoor.laysCount_ren:Go.Shelf.Ren:=⟨fun|195=>103|n=>n,fun|9=>9|3=>3|0=>0|4=>4|n=>n,fun|n=>n⟩
theorem YtoliamijgmifkaaGreatDoor.laysCount:Go.Proofs.Lays.n195 Tryz.prog YtoliamijgmifkaaGreatDoor.laysCount_ren:={
 mixed:=by kernel_rfl
 f195:=Tryz.func103.trans (congrArg some (by kernel_rfl))
 t0:=Tryz.underlying0
 a0:=Tryz.isAgg0
 z0:=Tryz.sizeOf0
 v0:=Tryz.zeroValue0
 t3:=Tryz.underlying3
 a3:=Tryz.isAgg3
 z3:=Tryz.sizeOf3
 v3:=Tryz.zeroValue3
 t4:=Tryz.underlying4
 a4:=Tryz.isAgg4
 z4:=Tryz.sizeOf4
 v4:=Tryz.zeroValue4
 t9:=Tryz.underlying9
 a9:=Tryz.isAgg9
 z9:=Tryz.sizeOf9
 v9:=Tryz.zeroValue9 }
def YtoliamijgmifkaaGreatDoor.laysValid_ren:Go.Shelf.Ren:=⟨fun|196=>84|259=>121|n=>n,fun|9=>9|4=>4|3=>3|5=>5|12=>12|119=>242|0=>0|46=>246|139=>245|138=>244|53=>267|n=>n,fun|3=>0|4=>1|n=>n⟩
theorem YtoliamijgmifkaaGreatDoor.laysValid:Go.Proofs.Lays.n196 Tryz.prog YtoliamijgmifkaaGreatDoor.laysValid_ren:={
 mixed:=by kernel_rfl
 f196:=Tryz.func84.trans (congrArg some (by kernel_rfl))
 f259:=Tryz.func121.trans (congrArg some (by kernel_rfl))
 t0:=Tryz.underlying0
 a0:=Tryz.isAgg0
 z0:=Tryz.sizeOf0
 v0:=Tryz.zeroValue0
 t3:=Tryz.underlying3
 a3:=Tryz.isAgg3
 z3:=Tryz.sizeOf3
 v3:=Tryz.zeroValue3
 t4:=Tryz.underlying4
 a4:=Tryz.isAgg4
 z4:=Tryz.sizeOf4
 v4:=Tryz.zeroValue4
 t5:=Tryz.underlying5
 a5:=Tryz.isAgg5
 z5:=Tryz.sizeOf5
 v5:=Tryz.zeroValue5
 t9:=Tryz.underlying9
 a9:=Tryz.isAgg9
 z9:=Tryz.sizeOf9
 v9:=Tryz.zeroValue9
 t12:=Tryz.underlying12
 a12:=Tryz.isAgg12
 z12:=Tryz.sizeOf12
 v12:=Tryz.zeroValue12
 t46:=Tryz.underlying246
 a46:=Tryz.isAgg246
 z46:=Tryz.sizeOf246
 v46:=Tryz.zeroValue246
 t53:=Tryz.underlying267
 a53:=Tryz.isAgg267
 z53:=Tryz.sizeOf267
 v53:=Tryz.zeroValue267
 t119:=Tryz.underlying242
 a119:=Tryz.isAgg242
 z119:=Tryz.sizeOf242
 t138:=Tryz.underlying244
 a138:=Tryz.isAgg244
 z138:=Tryz.sizeOf244
 v138:=Tryz.zeroValue244
 t139:=Tryz.underlying245
 a139:=Tryz.isAgg245
 z139:=Tryz.sizeOf245
 v139:=Tryz.zeroValue245
 g3:=by kernel_rfl
 g4:=by kernel_rfl }
def YtoliamijgmifkaaGreatDoor.layInsu_ren:Go.Shelf.Ren:=⟨fun|20=>172|n=>n,fun|24=>61|22=>26|3=>3|25=>254|4=>4|0=>0|n=>n,fun|n=>n⟩
theorem YtoliamijgmifkaaGreatDoor.layInsu:Go.Proofs.SlLaysF0.n20 Tryz.prog YtoliamijgmifkaaGreatDoor.layInsu_ren:={
 mixed:=by kernel_rfl
 f20:=⟨Tryz.f172.name,by decide,Tryz.func172.trans (congrArg some (by kernel_rfl))⟩
 t0:=Tryz.underlying0
 a0:=Tryz.isAgg0
 z0:=Tryz.sizeOf0
 v0:=Tryz.zeroValue0
 t3:=Tryz.underlying3
 a3:=Tryz.isAgg3
 z3:=Tryz.sizeOf3
 v3:=Tryz.zeroValue3
 t4:=Tryz.underlying4
 a4:=Tryz.isAgg4
 z4:=Tryz.sizeOf4
 v4:=Tryz.zeroValue4
 t22:=Tryz.underlying26
 a22:=Tryz.isAgg26
 z22:=Tryz.sizeOf26
 v22:=Tryz.zeroValue26
 t25:=Tryz.underlying254
 a25:=Tryz.isAgg254
 z25:=Tryz.sizeOf254
 v25:=Tryz.zeroValue254 }
def YtoliamijgmifkaaGreatDoor.layInsw_ren:Go.Shelf.Ren:=⟨fun|20=>145|n=>n,fun|24=>45|22=>22|3=>3|25=>203|4=>4|0=>0|n=>n,fun|n=>n⟩
theorem YtoliamijgmifkaaGreatDoor.layInsw:Go.Proofs.SlLaysF0.n20 Tryz.prog YtoliamijgmifkaaGreatDoor.layInsw_ren:={
 mixed:=by kernel_rfl
 f20:=⟨Tryz.f145.name,by decide,Tryz.func145.trans (congrArg some (by kernel_rfl))⟩
 t0:=Tryz.underlying0
 a0:=Tryz.isAgg0
 z0:=Tryz.sizeOf0
 v0:=Tryz.zeroValue0
 t3:=Tryz.underlying3
 a3:=Tryz.isAgg3
 z3:=Tryz.sizeOf3
 v3:=Tryz.zeroValue3
 t4:=Tryz.underlying4
 a4:=Tryz.isAgg4
 z4:=Tryz.sizeOf4
 v4:=Tryz.zeroValue4
 t22:=Tryz.underlying22
 a22:=Tryz.isAgg22
 z22:=Tryz.sizeOf22
 v22:=Tryz.zeroValue22
 t25:=Tryz.underlying203
 a25:=Tryz.isAgg203
 z25:=Tryz.sizeOf203
 v25:=Tryz.zeroValue203 }
def YtoliamijgmifkaaGreatDoor.laysCompare_ren:Go.Shelf.Ren:=⟨fun|106=>92|213=>125|265=>147|n=>n,fun|9=>9|3=>3|n=>n,fun|n=>n⟩
theorem YtoliamijgmifkaaGreatDoor.laysCompare:Go.Proofs.Lays.n106 Tryz.prog YtoliamijgmifkaaGreatDoor.laysCompare_ren:={
 mixed:=by kernel_rfl
 f106:=Tryz.func92.trans (congrArg some (by kernel_rfl))
 f213:=Tryz.func125.trans (congrArg some (by kernel_rfl))
 f265:=Tryz.func147.trans (congrArg some (by kernel_rfl))
 t3:=Tryz.underlying3
 a3:=Tryz.isAgg3
 z3:=Tryz.sizeOf3
 v3:=Tryz.zeroValue3
 t9:=Tryz.underlying9
 a9:=Tryz.isAgg9
 z9:=Tryz.sizeOf9
 v9:=Tryz.zeroValue9 }
def YtoliamijgmifkaaGreatDoor.sortedS_ren:Go.Shelf.Ren:=⟨fun|11=>127|19=>148|25=>168|n=>n,fun|25=>43|27=>9|4=>4|3=>3|0=>0|n=>n,fun|n=>n⟩
theorem YtoliamijgmifkaaGreatDoor.sortedS:Go.Proofs.SlLaysO.n11 Tryz.prog YtoliamijgmifkaaGreatDoor.sortedS_ren:={
 mixed:=by kernel_rfl
 f11:=⟨Tryz.f127.name,by decide,Tryz.func127.trans (congrArg some (by kernel_rfl))⟩
 f19:=⟨Tryz.f148.name,by decide,Tryz.func148.trans (congrArg some (by kernel_rfl))⟩
 f25:=⟨Tryz.f168.name,by decide,Tryz.func168.trans (congrArg some (by kernel_rfl))⟩
 t0:=Tryz.underlying0
 a0:=Tryz.isAgg0
 z0:=Tryz.sizeOf0
 v0:=Tryz.zeroValue0
 t3:=Tryz.underlying3
 a3:=Tryz.isAgg3
 z3:=Tryz.sizeOf3
 v3:=Tryz.zeroValue3
 t4:=Tryz.underlying4
 a4:=Tryz.isAgg4
 z4:=Tryz.sizeOf4
 v4:=Tryz.zeroValue4
 t25:=Tryz.underlying43
 a25:=Tryz.isAgg43
 z25:=Tryz.sizeOf43
 v25:=Tryz.zeroValue43
 t27:=Tryz.underlying9
 a27:=Tryz.isAgg9
 z27:=Tryz.sizeOf9
 v27:=Tryz.zeroValue9 }
end Go.Proofs
end
namespace Go.Proofs.YtoliamijgmifkaaGreatDoor
section
open Go.RowKit Go.Shelf
def U8(w:World):Prop:=Lib.Utf8Tabs 0 1 w
theorem U8.fr{S:Nat->Prop}{w w':World}(h:U8 w)(f:Fr S w w')(h1:¬ S 0)(h2:¬ S 1):U8 w' :=
 ⟨fun c hc=>f.cell (h.1 c hc) h1,fun i hi=>⟨f.cell (h.2 i hi).1 h2,f.cell (h.2 i hi).2 h2⟩⟩
theorem U8.ext{w w':World}(h:U8 w)(f:Ext w w'):U8 w':=h.fr f id id
theorem Zcj(s:ByteArray)(w:World)(hs:s.size<=9223372036854775807)(hT:U8 w):Calls Tryz.prog 84 #[.string s] w fun e w'=>e = .returned (.bool (Lib.validD s.data.toList))/\Ext w w' :=
 (Any.utf8_ValidString laysValid s w hs hT).mono fun _ _ h=>⟨h.1,Fr.of_below h.2⟩
def Wl(s:ByteArray):Bool:=decide ((0:UInt8) ∉ s.data.toList) && !s.data.toList.isEmpty&&Lib.validD s.data.toList
theorem Ch(s:ByteArray)(i:Nat)(h:i<s.size):s.data.toList[i]? = some s[i]:=by
 rw[Array.getElem?_toList];exact Array.getElem?_eq_getElem h
theorem Zde(s:ByteArray)(w:World)(hs:s.size<=9223372036854775807)(hT:U8 w):Calls Tryz.prog 53 #[.string s] w fun e w'=>e = .returned (.bool (Wl s))/\Ext w w':=by
 have HT:=Lib.hid hT;clear hT;go_enter Tryz.func53,Tryz.ntmps53
 go_wp2
 go_loopg [6] s.size (fun g1 v wr=>∃ k:Nat,v = .int .i64 k/\k<=s.size/\s.size<=k+g1/\wr=w/\Hid (∀ j (h:j<s.size),j<k->s[j]≠0))
 case atStart=>exact⟨0,rfl,by omega,by omega,rfl,fun j _ h=>by omega⟩
 case round =>
  obtain⟨k,rfl,hk,hg,rfl,HZ⟩:=hrel;by_cases hlt:k<s.size
  ·have hltz:(k:Int)<s.size:=by omega
   by_cases h0:s[k]=0
   ·have h0z:((s[k].toNat:Int)==0)=true:=by rw[h0];rfl
    have hp:Wl s=false:=by
     unfold Wl;have:(0:UInt8)∈s.data.toList:=by rw[<- h0];exact List.mem_of_getElem? (Ch s k hlt)
     simp[this]
    go_wp2_with fail
    exact bodyPost_ret (results_tmp rfl _ _ _) rfl ⟨by rw[hp];rfl,Fr.refl _ _⟩
   ·have h0n:s[k].toNat≠0:=fun e=>h0 (UInt8.toNat_inj.1 e)
    have h0z:((s[k].toNat:Int)==0)=false:=by simpa using h0n
    go_wp2_with fail
    go_roundg (s.size-(k+1))
    case measure=>omega
    case rel=>exact⟨k+1,by go_num,by omega,by omega,rfl,fun j h1 h2=>by
     rcases Nat.lt_or_ge j k with q|q
     ·exact HZ.out j h1 q
     ·have:j=k:=by omega
      subst this;exact h0⟩
  ·have hltz:¬ (k:Int)<s.size:=by omega
   have hz:(0:UInt8) ∉ s.data.toList:=by
    intro hm;obtain⟨j,hj,e⟩:=List.getElem_of_mem hm;have hj':j<s.size:=by simpa using hj
    exact HZ.out j hj' (by omega) (by have:=Ch s j hj';rw[List.getElem?_eq_getElem hj]at this;rw[<- Option.some.inj this];exact e)
   by_cases he:s.data.toList=[]
   ·have hez:(s.toList==[])=true:=by rw[ByteArray.toList_eq];simp[he]
    have hp:Wl s=false:=by unfold Wl;simp[he]
    clear hz;go_wp2_with fail
    first|go_ret|go_ret2
    exact⟨rfl,Fr.refl _ _⟩
   ·have hez:(s.toList==[])=false:=by rw[ByteArray.toList_eq];simpa using he
    have hp:Wl s=Lib.validD s.data.toList:=by unfold Wl;simp only[hz,not_false_eq_true,decide_true,Bool.true_and];cases hq:s.data.toList.isEmpty with|true=>exact absurd (List.isEmpty_iff.1 hq) he|false=>simp
    have C1:=Zcj s wr (by omega) HT;rw[<- hp]at C1;clear hz hp;go_wp2_with (go_at_call 84;refine C1.mono ?_;rintro e W1 ⟨rfl,hx⟩;clear C1;have HX:=Lib.hid hx;clear hx)
    first|go_ret|go_ret2
    exact⟨rfl,HX⟩
end
end Go.Proofs.YtoliamijgmifkaaGreatDoor
