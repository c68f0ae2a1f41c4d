/- Words on memory: worlds that extend a world, blocks known whole, slices of bytes that read as lists. Laws: an aggregate stored whole into a block, or into a part of it; loaded whole out of a part. A law for a region that draws its order: each operation is shown ALONE, from what the operations that it waits for have left (facts that every later world keeps); behind the region all facts hold. No goal bears the frame or the region whole. A law for any region (its order drawn or not) as front and tail: each operation of the front is shown alone; the tail is walked in its order. The frame is a letter. A walk's small steps, each fact found by itself. A walk's plain steps at a stroke. Plain mathematics: SHA-256 on lists of bytes (integers from 0 to 255), in the forms in which a walk meets it. No program in sight. SHA-256 of the package: turns. Slices of bytes that a call owns: what they read as, append onto them, whatever the source. SHA-256 of the package: plain laws on the words that a walk shows. -/
import Derived.WalkKit
import Derived.KernelRfl
import Derived.BigQuiet
import Derived.Deep.QuietTactic
import Derived.Outline
import Derived.WalkSmall
import Derived.Lib.ConvBytes
import Derived.Deep.RegionHeld3
import Derived.Orders
import Derived.StillTail
import Derived.Test.YtjhnnjhaklohhaaGreatDoorChecked
import Derived.Maps.AppendAt
import Derived.Laws.BitsAllLaws
set_option linter.unusedVariables false
set_option linter.unusedSimpArgs false
set_option maxHeartbeats 4000000
set_option maxRecDepth 100000
namespace Go.Proofs.YtjhnnjhaklohhaaGreatDoor
open Go.RowKit
theorem bcell{W w1:World}(hb:Below W.heap.size W w1):(∀b o,b<W.heap.size→w1.cell? ⟨b,o,none⟩=W.cell? ⟨b,o,none⟩)∧(∀b o,b<W.heap.size→w1.frozen? ⟨b,o,none⟩=W.frozen? ⟨b,o,none⟩):=
 ⟨fun b o h=>hb.cell (p:=⟨b,o,none⟩) h,fun b o h=>hb.frozen (p:=⟨b,o,none⟩) h⟩
structure Sl where
 a:Option Addr
 n:Nat
 c:Nat
theorem sx_of{W w':World}(h:Below W.heap.size W w'):Below W.heap.size W w'∧∀b o,b<W.heap.size→w'.cell? ⟨b,o,none⟩=W.cell? ⟨b,o,none⟩:=⟨h,(bcell h).1⟩
theorem sx_drew0(W:World):Below W.heap.size W W.drew∧∀b o,b<W.heap.size→W.drew.cell? ⟨b,o,none⟩=W.cell? ⟨b,o,none⟩:=sx_of (Below.refl _ _).drew
theorem sx_drewN0(W:World)(n:Nat):Below W.heap.size W (W.drewN n)∧∀b o,b<W.heap.size→(W.drewN n).cell? ⟨b,o,none⟩=W.cell? ⟨b,o,none⟩:=sx_of (below_drewN (Below.refl _ _) _)
theorem sx_drew{W w':World}(h:Below W.heap.size W w'∧∀b o,b<W.heap.size→w'.cell? ⟨b,o,none⟩=W.cell? ⟨b,o,none⟩):
  Below W.heap.size W w'.drew∧∀b o,b<W.heap.size→w'.drew.cell? ⟨b,o,none⟩=W.cell? ⟨b,o,none⟩:=sx_of h.1.drew
theorem sx_drewN{W w':World}(h:Below W.heap.size W w'∧∀b o,b<W.heap.size→w'.cell? ⟨b,o,none⟩=W.cell? ⟨b,o,none⟩)(n:Nat):
  Below W.heap.size W (w'.drewN n)∧∀b o,b<W.heap.size→(w'.drewN n).cell? ⟨b,o,none⟩=W.cell? ⟨b,o,none⟩:=sx_of (below_drewN h.1 _)
theorem sx_alloc{W w':World}(h:Below W.heap.size W w'∧∀b o,b<W.heap.size→w'.cell? ⟨b,o,none⟩=W.cell? ⟨b,o,none⟩)(x:Obj):
  Below W.heap.size W (w'.alloc x)∧∀b o,b<W.heap.size→(w'.alloc x).cell? ⟨b,o,none⟩=W.cell? ⟨b,o,none⟩:=sx_of (h.1.alloc h.1.size _)
theorem sx_after{W w' w1:World}(h:Below W.heap.size W w'∧∀b o,b<W.heap.size→w'.cell? ⟨b,o,none⟩=W.cell? ⟨b,o,none⟩)(hb:Below w'.heap.size w' w1):
  Below W.heap.size W w1∧∀b o,b<W.heap.size→w1.cell? ⟨b,o,none⟩=W.cell? ⟨b,o,none⟩:=sx_of (h.1.trans (hb.mono h.1.size))
theorem sx_end{w W w':World}(hW:Below w.heap.size w W)(h:Below W.heap.size W w'∧∀b o,b<W.heap.size→w'.cell? ⟨b,o,none⟩=W.cell? ⟨b,o,none⟩):Below w.heap.size w w':=hW.trans (h.1.mono hW.size)
theorem below_bytes{B:Nat}{W w':World}(h:Below B W w')(hB:B≤w'.heap.size)(e:TypeId)(s:ByteArray):Below B W (Lib.bytesWorld w' e s):=
 h.trans ⟨by simp[Lib.bytesWorld,World.freeze,World.alloc,World.drew,-World.alloc_eq,-World.drew_eq],by simp[Lib.bytesWorld,World.freeze,World.alloc,World.drew,-World.alloc_eq,-World.drew_eq],
  by simp[Lib.bytesWorld,World.freeze,World.alloc,World.drew,-World.alloc_eq,-World.drew_eq],by rw[Lib.bytesWorld_size];omega,fun k hk=>Lib.bytesWorld_at_old _ _ _ _ (by omega)⟩
theorem sx_bytes{W w':World}(h:Below W.heap.size W w'∧∀b o,b<W.heap.size→w'.cell? ⟨b,o,none⟩=W.cell? ⟨b,o,none⟩)(e:TypeId)(s:ByteArray):
  Below W.heap.size W (Lib.bytesWorld w' e s)∧∀b o,b<W.heap.size→(Lib.bytesWorld w' e s).cell? ⟨b,o,none⟩=W.cell? ⟨b,o,none⟩:=sx_of (below_bytes h.1 h.1.size _ _)
theorem below_after{B:Nat}{w w1 w2:World}(h:Below B w w1)(hB:B≤w1.heap.size)(k:Below w1.heap.size w1 w2):Below B w w2:=h.trans (k.mono hB)
theorem bz_refl(w:World):Below w.heap.size w w:=Below.refl _ _
theorem bz_then{w w1 w2:World}(h:Below w.heap.size w w1)(k:Below w1.heap.size w1 w2):Below w.heap.size w w2:=h.trans (k.mono h.size)
theorem bz_alloc{w w1:World}(h:Below w.heap.size w w1)(o:Obj):Below w.heap.size w (w1.alloc o):=h.alloc h.size o
theorem bz_drew{w w1:World}(h:Below w.heap.size w w1):Below w.heap.size w w1.drew:=h.drew
theorem bz_drewN{w w1:World}(h:Below w.heap.size w w1)(n:Nat):Below w.heap.size w (w1.drewN n):=below_drewN h n
theorem bz_bytes{w w1:World}(h:Below w.heap.size w w1)(e:TypeId)(s:ByteArray):Below w.heap.size w (Lib.bytesWorld w1 e s):=below_bytes h h.size e s
theorem below_undrew{W w1:World}(h:Below W.drew.heap.size W.drew w1):Below W.heap.size W w1:=⟨h.os,h.tape,h.output,h.size,h.block⟩
def Blk(w:World)(g:Nat)(t:TypeId)(cs:Array Value):Prop:=w.heap[g]?=some (.cells cs t (0,0))
theorem Blk.lt{w:World}{g:Nat}{t:TypeId}{cs:Array Value}(h:Blk w g t cs):g<w.heap.size:=by
 rcases Nat.lt_or_ge g w.heap.size with hlt|hge
 ·exact hlt
 ·unfold Blk at h;rw[Array.getElem?_eq_none hge]at h;cases h
theorem Blk.cell{w:World}{g:Nat}{t:TypeId}{cs:Array Value}(h:Blk w g t cs)(i:Nat):w.cell? ⟨g,i,none⟩=cs[i]?:=cell_of_row w g i cs t (0,0) h
theorem Blk.free{w:World}{g:Nat}{t:TypeId}{cs:Array Value}(h:Blk w g t cs)(i:Nat):w.frozen? ⟨g,i,none⟩=false:=by
 unfold Blk at h;simp[World.frozen?,h]
theorem Blk.new(w:World)(t:TypeId)(cs:Array Value):Blk (w.alloc (.cells cs t)) w.heap.size t cs:=heap_alloc_new w _
theorem Blk.below{w w':World}{g:Nat}{t:TypeId}{cs:Array Value}(h:Blk w g t cs){B:Nat}(hb:Below B w w')(hg:g<B):Blk w' g t cs:=(hb.block g hg).trans h
theorem Blk.after{w w':World}{g:Nat}{t:TypeId}{cs:Array Value}(h:Blk w g t cs)(hb:Below w.heap.size w w'):Blk w' g t cs:=h.below hb h.lt
theorem Blk.alloc{w:World}{g:Nat}{t:TypeId}{cs:Array Value}(h:Blk w g t cs)(o:Obj):Blk (w.alloc o) g t cs:=(Below.heap_alloc w o g h.lt).trans h
theorem Blk.drew{w:World}{g:Nat}{t:TypeId}{cs:Array Value}(h:Blk w g t cs):Blk w.drew g t cs:=h
theorem Blk.drewN{w:World}{g:Nat}{t:TypeId}{cs:Array Value}(h:Blk w g t cs)(n:Nat):Blk (w.drewN n) g t cs:=h
theorem Blk.set_{w:World}{g:Nat}{t:TypeId}{cs:Array Value}(h:Blk w g t cs)(i:Nat)(u:Value):Blk (w.setCell ⟨g,i,none⟩ u) g t (cs.setIfInBounds i u):=by
 unfold Blk at h⊢;simp[World.setCell,Array.getElem?_modify,h]
theorem Blk.far{w:World}{g:Nat}{t:TypeId}{cs:Array Value}(h:Blk w g t cs){p:Addr}(hp:g≠p.block)(u:Value):Blk (w.setCell p u) g t cs:=(Below.heap_setCell w p u g hp).trans h
def Bs(w:World)(A:Option Addr)(l:List Int):Prop:=
 ∀i,i<l.length→∃b o,A=some ⟨b,o,none⟩∧b<w.heap.size∧w.cell? ⟨b,o+i,none⟩=some (.int .u8 (l.getD i 0))
theorem Bs.nil(w:World)(A:Option Addr):Bs w A []:=fun i hi=>by simp at hi
theorem Bs.below{w w':World}{A:Option Addr}{l:List Int}(h:Bs w A l)(hb:Below w.heap.size w w'):Bs w' A l:=fun i hi=>by
 obtain⟨b,o,e,hlt,hc⟩:=h i hi;exact⟨b,o,e,Nat.lt_of_lt_of_le hlt hb.size,(hb.cell (p:=⟨b,o+i,none⟩) hlt).trans hc⟩
theorem Bs.alloc{w:World}{A:Option Addr}{l:List Int}(h:Bs w A l)(o:Obj):Bs (w.alloc o) A l:=h.below ((Below.refl _ _).alloc (Nat.le_refl _) _)
def bytesOf(s:ByteArray):List Int:=s.data.toList.map fun b=>((b.toNat:Nat):Int)
theorem bytesOf_length(s:ByteArray):(bytesOf s).length=s.size:=by
 unfold bytesOf;rw[List.length_map];exact Array.length_toList
theorem bytesOf_range(s:ByteArray):∀x∈bytesOf s,0≤x∧x<256:=by
 intro x hx;simp only[bytesOf,List.mem_map]at hx;obtain⟨b,_,rfl⟩:=hx;have:=b.toNat_lt;omega
theorem bs_conv(w:World)(e:TypeId)(s:ByteArray):Bs (Lib.bytesWorld w e s) (some ⟨w.heap.size,0,none⟩) (bytesOf s):=fun i hi=>by
 have hi':i<s.size:=by rw[bytesOf_length]at hi;exact hi
 refine⟨w.heap.size,0,rfl,by rw[Lib.bytesWorld_size];omega,?_⟩;rw[Nat.zero_add,Lib.bytesWorld_cell w e s i hi']
 congr 2
 have hs:i<s.data.toList.length:=by rw[Array.length_toList];exact hi'
 simp only[bytesOf,List.getD_eq_getElem?_getD,List.getElem?_map];rw[List.getElem?_eq_getElem hs];rfl
theorem bs_conv'(w:World)(e:TypeId)(s:ByteArray)(n:Nat)(hn:n=w.heap.size):Bs (Lib.bytesWorld w e s) (some ⟨n,0,none⟩) (bytesOf s):=hn▸bs_conv w e s
theorem setRow_alloc_at(w:World)(cur cs:Array Value)(t:TypeId)(n:Nat)(hn:n=w.heap.size):(w.alloc (.cells cur t)).setRow n cs=w.alloc (.cells cs t):=by
 subst hn;show World.setRow (w.alloc (.cells cur t)) w.heap.size cs=w.alloc (.cells cs t)
 unfold World.setRow;have h1:(w.alloc (.cells cur t))= {w with heap:=w.heap.push (.cells cur t)}:=rfl;have h2:(w.alloc (.cells cs t))= {w with heap:=w.heap.push (.cells cs t)}:=rfl;rw[h1,h2]
 congr 1
 apply Array.ext
 ·simp
 ·intro i hi hi';simp only[Array.getElem_modify,Array.getElem_push];simp at hi;by_cases h:w.heap.size=i
  ·subst h;simp
  ·rw[if_neg h];have:i<w.heap.size:=by omega
   simp[this]
theorem below_setRow{B:Nat}{a w:World}(h:Below B a w){g:Nat}(hg:B≤g)(cs:Array Value):Below B a (w.setRow g cs):=
 h.trans ⟨rfl,rfl,rfl,by simp,fun k hk=>setRow_other _ _ _ _ (by omega)⟩
theorem Blk.setRow{w:World}{g:Nat}{t:TypeId}{cs:Array Value}(h:Blk w g t cs)(cs':Array Value):Blk (w.setRow g cs') g t cs':=setRow_heap _ _ _ _ _ _ h
theorem Blk.setRow_far{w:World}{g g':Nat}{t:TypeId}{cs:Array Value}(h:Blk w g t cs)(hn:g≠g')(cs':Array Value):Blk (w.setRow g' cs') g t cs:=(setRow_other _ _ _ _ hn).trans h
def putAt(cur:Array Value)(o:Nat)(cs:Array Value):Array Value:=(cur.toList.take o++cs.toList++cur.toList.drop (o+cs.size)).toArray
section
variable{P:Program}{ops:Array Oper}{rest:List Oper}{o:Oper}{a:Act}{w:World}{Q:Exit→Act→World→Prop}
theorem run_store_part(ty:TypeId)(g off:Nat)(t:TypeId)(cur cs:Array Value)(hg:Blk w g t cur)(hoff:off+cs.size≤cur.size)(hi:(P.info? ty).map (·.size)=some cs.size)(h1:∀v∈cs.toList,v.oneCell'=true):
  (storeVar ty ⟨g,off,none⟩ (.agg cs)).run P w=.ok () (w.setRow g (putAt cur off cs)):=by
 cases hq:P.info? ty with
 |none=>simp[hq]at hi
 |some i=>
  have hs:i.size=cs.size:=by simpa [hq]using hi
  have h:=run_storeCells_at (P:=P) g off t cs.toList 0 cur w hg (by simpa using hoff) h1;simp only[Nat.add_zero,Array.length_toList]at h;simp[storeVar,Sem.run_bind,Value.cells,sizeOf,typeInfo,hq,hs,h,putAt]
theorem wpList_store_part(hgd:o.guard=none)(ty:TypeId)(x y:Operand)(ho:o.op=.store ty x y)(g off:Nat)(hx:a.eval x=.pointer (some ⟨g,off,none⟩))(cs:Array Value)(hy:a.eval y=.agg cs)
  (t:TypeId)(cur:Array Value)(hg:Blk w g t cur)(hoff:off+cs.size≤cur.size)(hi:(P.info? ty).map (·.size)=some cs.size)(h1:∀v∈cs.toList,v.oneCell'=true)
  (h:wpList P ops Q rest (a.put o.dst undef) (w.setRow g (putAt cur off cs))):wpList P ops Q (o::rest) a w:=
 wpList_plain hgd fun _ hK=>by
  unfold Oper.wp execOp;simp only[ho,hx,hy,Instr.storeAt,Instr.sureAddr,Sem.run_bind,Sem.run_pure,Result.andThen_ok,run_store_part ty g off t cur cs hg hoff hi h1];exact hK _ _ h
theorem putAt_whole(cur cs:Array Value)(h:cs.size=cur.size):putAt cur 0 cs=cs:=by
 unfold putAt;rw[Nat.zero_add,h,List.take_zero,List.nil_append,List.drop_of_length_le (by simp),List.append_nil]
theorem wpList_store_row(hgd:o.guard=none)(ty:TypeId)(x y:Operand)(ho:o.op=.store ty x y)(g:Nat)(hx:a.eval x=.pointer (some ⟨g,0,none⟩))(cs:Array Value)(hy:a.eval y=.agg cs)
  (t:TypeId)(cur:Array Value)(hg:Blk w g t cur)(hs:cs.size=cur.size)(hi:(P.info? ty).map (·.size)=some cs.size)(h1:∀v∈cs.toList,v.oneCell'=true)
  (h:wpList P ops Q rest (a.put o.dst undef) (w.setRow g cs)):wpList P ops Q (o::rest) a w:=
 wpList_store_part hgd ty x y ho g 0 hx cs hy t cur hg (by omega) hi h1 (by rw[putAt_whole cur cs hs];exact h)
theorem run_load_part(ty:TypeId)(g off:Nat)(t:TypeId)(cur:Array Value)(m:Nat)(d:TypeDesc)(hg:Blk w g t cur)(hoff:off+m≤cur.size)
  (hu:P.underlying ty=some d)(hd:(match d with| .struct _| .array _ _=>true|_=>false)=true)(hi:(P.info? ty).map (·.size)=some m):
  (loadVar ty ⟨g,off,none⟩).run P w=.ok (.agg (cur.extract off (off+m))) w:=by
 have hlen:(cur.extract off (off+m)).toList.length=m:=by simp;omega
 have hl:(loadCells ⟨g,off,none⟩ (cur.extract off (off+m)).toList.length).run P w=.ok (cur.extract off (off+m)).toList.toArray w:=
  run_loadCells_list (P:=P) w ⟨g,off,none⟩ (cur.extract off (off+m)).toList (fun j v hv=>by
   have hadd:(⟨g,off,none⟩:Addr).add j=⟨g,off+j,none⟩:=by unfold Addr.add;split <;> simp_all
   rw[hadd,hg.cell];have hj:j<m:=by
    have:=(List.getElem?_eq_some_iff.1 hv).1;omega
   rw[← hv];simp[Array.getElem?_extract,hj,show j<min (off+m) cur.size-off by omega])
 cases hq:P.info? ty with
 |none=>simp[hq]at hi
 |some i=>
  have hs:i.size=m:=by simpa [hq]using hi
  have hagg:(isAgg ty).run P w=.ok true w:=by
   unfold isAgg;rw[Sem.run_bind,run_underlying hu w]
   cases d <;> simp_all
  rw[hlen]at hl;simp only[Array.toArray_toList]at hl;simp[loadVar,Sem.run_bind,hagg,sizeOf,typeInfo,hq,hs,hl]
theorem wpList_load_part(hgd:o.guard=none)(ty:TypeId)(x:Operand)(ho:o.op=.load ty x)(g off:Nat)(hx:a.eval x=.pointer (some ⟨g,off,none⟩))(t:TypeId)(cur:Array Value)(m:Nat)(d:TypeDesc)(hg:Blk w g t cur)(hoff:off+m≤cur.size)
  (hu:P.underlying ty=some d)(hd:(match d with| .struct _| .array _ _=>true|_=>false)=true)(hi:(P.info? ty).map (·.size)=some m)
  (h:wpList P ops Q rest (a.put o.dst (.agg (cur.extract off (off+m)))) w):wpList P ops Q (o::rest) a w:=
 wpList_plain hgd fun _ hK=>by
  unfold Oper.wp execOp;simp only[ho,hx,Instr.loadAt,Instr.sureAddr,Sem.run_bind,Sem.run_pure,Result.andThen_ok,run_load_part ty g off t cur m d hg hoff hu hd hi];exact hK _ _ h
theorem end_row{fn:Func}{R:Ending→World→Prop}{p:Tmp}{ty:TypeId}(hr:fn.results=#[.cell p ty])(g:Nat)(hp:a.tmps.getD p undef=.pointer (some ⟨g,0,none⟩))(hdf:a.defers=[])(t:TypeId)(cs:Array Value)(d:TypeDesc)(hg:Blk w g t cs)
  (hu:P.underlying ty=some d)(hd:(match d with| .struct _| .array _ _=>true|_=>false)=true)(hi:(P.info? ty).map (·.size)=some cs.size)(hR:R (.returned (.agg cs)) w):bodyPost P fn R .ret a w:=
 bodyPost_ret (results_cell_row hr a.tmps w g t cs (0,0) d hp hg hu hd hi) hdf hR
end
structure FItem where
 reads:List Nat
 fact:List Value→World→Prop
 keeps:∀vs w w',Below w.heap.size w w'→fact vs w→fact vs w'
def FItem.holds(it:FItem)(a:Act)(w:World):Prop:=it.fact (it.reads.map fun t=>a.tmps.getD t undef) w
def FItem.eq(t:Nat)(v:Value):FItem:={reads:=[t],fact:=fun vs _=>vs=[v],keeps:=fun _ _ _ _ h=>h}
def FItem.skip:FItem:={reads:=[],fact:=fun _ _=>True,keeps:=fun _ _ _ _ h=>h}
theorem FItem.eq_holds{t:Nat}{v:Value}{a:Act}{w:World}:(FItem.eq t v).holds a w↔a.tmps.getD t undef=v:=by simp[FItem.holds,FItem.eq]
def deps(o:Oper):List Nat:=(o.after.toList.filter fun e=>Region.binds .any e).map (·.on)
def flowOk(ops:Array Oper)(rs:List (List Nat)):Bool:=
 rs.length == ops.size && (List.range ops.size).all fun i=>match ops[i]? with
  |none=>false
  |some o=>(deps o).all (· <i) && ((rs[i]?).getD []).all fun t=>(List.range ops.size).all fun j=>match(ops[j]?).bind (·.dst)with
   |some d=>d != t || j == i || (deps o).contains j
   |none=>true
def Same(ops:Array Oper)(a0 a:Act):Prop:=
 a.tmps.size=a0.tmps.size∧a.defers=a0.defers∧∀t,(ops.toList.all fun o=>o.dst != some t)=true→a.tmps.getD t undef=a0.tmps.getD t undef
theorem put_getD(a:Act)(d:Option Nat)(v:Value)(t:Nat)(h:d≠some t):(a.put d v).tmps.getD t undef=a.tmps.getD t undef:=by
 cases d with
 |none=>rfl
 |some d=>
  have hd:d≠t:=fun e=>h (by rw[e])
  simp[Act.put,Array.getD_eq_getD_getElem?,Array.getElem?_setIfInBounds_ne hd]
theorem put_size(a:Act)(d:Option Nat)(v:Value):(a.put d v).tmps.size=a.tmps.size:=by cases d <;> simp[Act.put]
theorem put_defers(a:Act)(d:Option Nat)(v:Value):(a.put d v).defers=a.defers:=by cases d <;> rfl
theorem put_self(a:Act)(d:Nat)(v:Value)(h:d<a.tmps.size):(a.put (some d) v).tmps.getD d undef=v:=by
 simp[Act.put,Array.getD_eq_getD_getElem?,h]
theorem Same.put{ops:Array Oper}{a0 a:Act}(h:Same ops a0 a){i:Nat}{o:Oper}(ho:ops[i]?=some o)(v:Value):Same ops a0 (a.put o.dst v):=by
 obtain⟨h1,h2,h3⟩:=h;refine⟨(put_size _ _ _).trans h1,(put_defers _ _ _).trans h2,fun t ht=>?_⟩;rw[put_getD,h3 t ht];intro e;have hm:o∈ops.toList:=by
  rw[Array.mem_toList_iff];exact Array.mem_of_getElem? ho
 have:=List.all_eq_true.1 ht o hm;simp[e]at this
theorem countP_lt_of{p q:Nat→Bool}{x:Nat}:∀l:List Nat,(∀y∈l,q y=true→p y=true)→x∈l→p x=true→q x=false→l.countP q<l.countP p
 | [],_,hx,_,_=>by cases hx
 |y::l,h,hx,hp,hq=>by
  have hle:l.countP q≤l.countP p:=List.countP_mono_left (fun z hz hz'=>h z (List.mem_cons_of_mem _ hz) hz');simp only[List.countP_cons];rcases List.mem_cons.1 hx with rfl|hx
  ·simp[hp,hq];omega
  ·have ih:=countP_lt_of l (fun z hz=>h z (List.mem_cons_of_mem _ hz)) hx hp hq;have hy:=h y (List.mem_cons_self ..);by_cases hqy:q y=true
   ·simp[hqy,hy hqy];omega
   ·simp[hqy];split <;> omega
section
variable{P:Program}{ops:Array Oper}{Q:Exit→Act→World→Prop}
theorem flow_deps{rs:List (List Nat)}(h:flowOk ops rs=true){i:Nat}{o:Oper}(ho:ops[i]?=some o):∀j∈deps o,j<i:=by
 simp only[flowOk,Bool.and_eq_true,List.all_eq_true,List.mem_range]at h;have hi:i<ops.size:=(Array.getElem?_eq_some_iff.1 ho).1;have:=h.2 i hi;rw[ho]at this;simp only[Bool.and_eq_true,List.all_eq_true,decide_eq_true_eq]at this;exact this.1
theorem flow_reads{rs:List (List Nat)}(h:flowOk ops rs=true){i j:Nat}{o oj:Oper}(ho:ops[i]?=some o)(hj:ops[j]?=some oj){t:Nat}(ht:t∈(rs[i]?).getD [])(hd:oj.dst=some t):j=i∨j∈deps o:=by
 simp only[flowOk,Bool.and_eq_true,List.all_eq_true,List.mem_range]at h;have hi:i<ops.size:=(Array.getElem?_eq_some_iff.1 ho).1;have:=h.2 i hi;rw[ho]at this;simp only[Bool.and_eq_true,List.all_eq_true]at this;have:=this.2 t ht j (List.mem_range.2 (Array.getElem?_eq_some_iff.1 hj).1);rw[hj]at this;simpa [hd]using this
theorem wpAny_flow(its:List FItem)(a0:Act)(W:World)(hck:flowOk ops (its.map FItem.reads)=true)
  (hstep:∀(i:Nat) (o:Oper) (it:FItem),ops[i]?=some o→its[i]?=some it→∀a w,Below W.heap.size W w→Same ops a0 a→(∀j∈deps o,∀(jt:FItem),its[j]?=some jt→jt.holds a w)→
   ∀K:Act→World→Prop,(∀v w',Below w.heap.size w w'→it.holds (a.put o.dst v) w'→K (a.put o.dst v) w')→if Region.wanted o (yielded ops a.tmps)=true then o.wp P a w K Q else K (a.put o.dst undef) w)
  (hend:∀a w,Below W.heap.size W w→Same ops a0 a→(∀(i:Nat) (it:FItem),its[i]?=some it→it.holds a w)→Q .normal a w):
  ∀(fuel:Nat) (listed:Array Bool) (a:Act) (w:World),listed.size=ops.size→(List.range ops.size).countP (fun i=>!listed.getD i true)≤fuel→Below W.heap.size W w→Same ops a0 a→
   (∀(i:Nat) (o:Oper) (it:FItem),ops[i]?=some o→its[i]?=some it→listed.getD i false=true→(∀j∈deps o,listed.getD j false=true)∧it.holds a w)→wpAny P .any ops Q fuel listed a w:=by
 have hlen:its.length=ops.size:=by
  simp only[flowOk,Bool.and_eq_true,beq_iff_eq,List.length_map]at hck;exact hck.1
 have hall:∀(listed:Array Bool) (a:Act) (w:World),listed.size=ops.size→Region.ready .any ops listed=[]→Below W.heap.size W w→Same ops a0 a→
   (∀(i:Nat) (o:Oper) (it:FItem),ops[i]?=some o→its[i]?=some it→listed.getD i false=true→(∀j∈deps o,listed.getD j false=true)∧it.holds a w)→Q .normal a w:=by
  intro listed a w hls hr hb hs hinv;have hdone:∀i,i<ops.size→listed.getD i false=true:=by
   intro i;induction i using Nat.strongRecOn with
   |_ i ih=>
    intro hi;by_cases hli:listed.getD i false=true
    ·exact hli
    ·exfalso;obtain⟨o,ho⟩:∃o,ops[i]?=some o:=⟨ops[i],Array.getElem?_eq_getElem hi⟩;have hd:=flow_deps hck ho;have hmem:i∈Region.ready .any ops listed:=by
      unfold Region.ready;rw[List.mem_filter];refine⟨List.mem_range.2 hi,?_⟩;have h1:listed.getD i true=false:=by
       have hi':i<listed.size:=by omega
       simp[Array.getD_eq_getD_getElem?,hi']at hli⊢;exact hli
      rw[h1,ho];simp only[Bool.not_false,Bool.true_and,Option.map_some,Option.getD_some,Array.all_eq_true'];intro e he;by_cases hbd:Region.binds .any e=true
      ·have:e.on∈deps o:=by
        unfold deps;exact List.mem_map.2 ⟨e,List.mem_filter.2 ⟨Array.mem_toList_iff.2 he,hbd⟩,rfl⟩
       have hlt:=hd _ this;simp[hbd,ih e.on hlt (by omega)]
      ·simp at hbd;simp[hbd]
     rw[hr]at hmem
     cases hmem
  refine hend a w hb hs fun(i:Nat) (it:FItem) hit=>?_
  have hi:i<ops.size:=by
   have:=(List.getElem?_eq_some_iff.1 hit).1;omega
  exact(hinv i ops[i] it (Array.getElem?_eq_getElem hi) hit (hdone i hi)).2
 intro fuel;induction fuel with
 |zero=>
  intro listed a w hls hc hb hs hinv;have hr:Region.ready .any ops listed=[]:=by
   unfold Region.ready;rw[List.filter_eq_nil_iff];intro i hi;have h0:(List.range ops.size).countP (fun i=>!listed.getD i true)=0:=by omega
   have:=List.countP_eq_zero.1 h0 i hi;simp at this;simp[this]
  exact⟨hr,hall listed a w hls hr hb hs hinv⟩
 |succ fuel ih=>
  intro listed a w hls hc hb hs hinv;refine⟨fun hr=>hall listed a w hls hr hb hs hinv,fun i hi=>?_⟩;unfold Region.ready at hi;rw[List.mem_filter]at hi;obtain⟨hir,hi2⟩:=hi;have hin:i<ops.size:=List.mem_range.1 hir;obtain⟨o,ho⟩:∃o,ops[i]?=some o:=⟨ops[i],Array.getElem?_eq_getElem hin⟩;obtain⟨it,hit⟩:∃it,its[i]?=some it:=⟨its[i]'(by omega),List.getElem?_eq_getElem (by omega)⟩;rw[ho]at hi2;simp only[Bool.and_eq_true,Option.map_some,Option.getD_some,Array.all_eq_true']at hi2;obtain⟨hun,hed⟩:=hi2;have hunl:listed.getD i true=false:=by simpa using hun
  have hdl:∀j∈deps o,listed.getD j false=true:=by
   intro j hj;unfold deps at hj;obtain⟨e,he,rfl⟩:=List.mem_map.1 hj;obtain⟨he1,he2⟩:=List.mem_filter.1 he;have:=hed e (Array.mem_toList_iff.1 he1);simpa [he2]using this
  refine wpOp_step ho fun K' hK=>?_
  refine hstep i o it ho hit a w hb hs (fun j hj jt hjt=>?_) K' (fun v w' hbw hitw=>hK _ _ ?_)
  ·have hjn:j<ops.size:=Nat.lt_trans (flow_deps hck ho j hj) hin;exact(hinv j ops[j] jt (Array.getElem?_eq_getElem hjn) hjt (hdl j hj)).2
  ·have hset:∀k,(listed.setIfInBounds i true).getD k false=true→k=i∨listed.getD k false=true:=by
    intro k hk;by_cases hki:k=i
    ·exact .inl hki
    ·right
     simpa [Array.getD_eq_getD_getElem?,Array.getElem?_setIfInBounds_ne (Ne.symm hki)]using hk
   have hkeep:∀k,listed.getD k false=true→(listed.setIfInBounds i true).getD k false=true:=by
    intro k hk;by_cases hki:k=i
    ·subst hki;simp[Array.getD_eq_getD_getElem?,show k<listed.size by omega]
    ·simpa [Array.getD_eq_getD_getElem?,Array.getElem?_setIfInBounds_ne (Ne.symm hki)]using hk
   have hself:(listed.setIfInBounds i true).getD i false=true:=by simp[Array.getD_eq_getD_getElem?,show i<listed.size by omega]
   refine ih _ _ _ (by simpa using hls) ?_ (hb.trans (hbw.mono hb.size)) (hs.put ho v) ?_
   ·have hlt:(List.range ops.size).countP (fun k=>!(listed.setIfInBounds i true).getD k true)<(List.range ops.size).countP (fun k=>!listed.getD k true):=by
     refine countP_lt_of (x:=i) _ ?_ hir (by simp[hunl]) (by simp[Array.getD_eq_getD_getElem?,show i<listed.size by omega]);intro k hk hk';by_cases hki:k=i
     ·subst hki;simp[hunl]
     ·simpa [Array.getD_eq_getD_getElem?,Array.getElem?_setIfInBounds_ne (Ne.symm hki)]using hk'
    omega
   ·intro k ok kt hok hkt hkl;rcases hset k hkl with rfl|hkl'
    ·rw[ho]at hok;rw[hit]at hkt;injection hok with hok;injection hkt with hkt;subst hok hkt;exact⟨fun j hj=>hkeep j (hdl j hj),hitw⟩
    ·obtain⟨hkd,hkh⟩:=hinv k ok kt hok hkt hkl';refine⟨fun j hj=>hkeep j (hkd j hj),?_⟩;have hne:∀t∈kt.reads,o.dst≠some t:=by
      intro t ht hdt;have htr:t∈(((its.map FItem.reads)[k]?).getD []):=by simp[List.getElem?_map,hkt,ht]
      rcases flow_reads hck hok ho htr hdt with h|h
      ·subst h;have:listed.getD i true=true:=by
        simp only[Array.getD_eq_getD_getElem?]at hkl'⊢;rw[Array.getElem?_eq_getElem (show i<listed.size by omega)]at hkl'⊢;simpa using hkl'
       rw[hunl]at this
       cases this
      ·have:=hkd i h;have h2:listed.getD i true=true:=by
        simp only[Array.getD_eq_getD_getElem?]at this⊢;rw[Array.getElem?_eq_getElem (show i<listed.size by omega)]at this⊢;simpa using this
       rw[hunl]at h2
       cases h2
     have hmap:(kt.reads.map fun t=>(a.put o.dst v).tmps.getD t undef)=kt.reads.map fun t=>a.tmps.getD t undef:=
      List.map_congr_left fun t ht=>put_getD _ _ _ _ (hne t ht)
     unfold FItem.holds at hkh⊢;rw[hmap];exact kt.keeps _ _ _ hbw hkh
theorem wp_flow{id:Nat}(its:List FItem){a0:Act}{W:World}(hm:P.follows .mixedOrders=true)(hck:flowOk ops (its.map FItem.reads)=true)
  (hstep:∀(i:Nat) (o:Oper) (it:FItem),ops[i]?=some o→its[i]?=some it→∀a w,Below W.heap.size W w→Same ops a0 a→(∀j∈deps o,∀(jt:FItem),its[j]?=some jt→jt.holds a w)→
   ∀K:Act→World→Prop,(∀v w',Below w.heap.size w w'→it.holds (a.put o.dst v) w'→K (a.put o.dst v) w')→if Region.wanted o (yielded ops a.tmps)=true then o.wp P a w K Q else K (a.put o.dst undef) w)
  (hend:∀a w,Below W.heap.size W w→Same ops a0 a→(∀(i:Nat) (it:FItem),its[i]?=some it→it.holds a w)→Q .normal a w):(Code.region id ops true).wp P Q a0 W:=
 wp_region_any hm (wpAny_flow its a0 W hck hstep hend ops.size (Array.replicate ops.size false) a0 _ (by simp) (by
   refine Nat.le_trans (List.countP_le_length) (by simp)) (Below.refl _ _).drew ⟨rfl,rfl,fun _ _=>rfl⟩ (fun i o it ho hit hl=>by
   have hi:i<ops.size:=(Array.getElem?_eq_some_iff.1 ho).1;simp[Array.getD_eq_getD_getElem?,hi]at hl))
structure SzIs(a:Act)(sz:Nat):Prop where
 out:a.tmps.size=sz
def LiveAll:List (Nat×Value)→Act→Prop
 | [],_=>True
 |(t,v)::ps,a=>a.tmps.getD t undef=v∧LiveAll ps a
def HoldAll(a:Act)(w:World):List FItem→Prop
 | []=>True
 |it::its=>it.holds a w∧HoldAll a w its
def DepsHold(its:List FItem)(a:Act)(w:World):List Nat→Prop
 | []=>True
 |j::js=>(match its[j]? with|some jt=>jt.holds a w|none=>True)∧DepsHold its a w js
def StepOk(P:Program)(ops:Array Oper)(Q:Exit→Act→World→Prop)(F:List (Nat×Value))(sz:Nat)(W:World)(its:List FItem)(o:Oper)(it:FItem):Prop:=
 ∀a w,Below W.heap.size W w→SzIs a sz→LiveAll F a→DepsHold its a w (deps o)→
  ∀K:Act→World→Prop,(∀v w',Below w.heap.size w w'→it.holds (a.put o.dst v) w'→K (a.put o.dst v) w')→if Region.wanted o (yielded ops a.tmps)=true then o.wp P a w K Q else K (a.put o.dst undef) w
def StepsOk(P:Program)(ops:Array Oper)(Q:Exit→Act→World→Prop)(F:List (Nat×Value))(sz:Nat)(W:World)(all:List FItem):List Oper→List FItem→Prop
 |o::os,it::its=>StepOk P ops Q F sz W all o it∧StepsOk P ops Q F sz W all os its
 |_,_=>True
theorem StepsOk.get{F:List (Nat×Value)}{sz:Nat}{W:World}{all:List FItem}:∀(os:List Oper) (its:List FItem),StepsOk P ops Q F sz W all os its→∀(i:Nat) (o:Oper) (it:FItem),os[i]?=some o→its[i]?=some it→StepOk P ops Q F sz W all o it
 | [],_,_,i,o,it,ho,_=>by simp at ho
 |_::_,[],_,i,o,it,_,hi=>by simp at hi
 |o::os,it::its,h,0,o',it',ho,hi=>by
  simp at ho hi;subst ho hi;exact h.1
 |o::os,it::its,h,i+1,o',it',ho,hi=>StepsOk.get os its h.2 i o' it' (by simpa using ho) (by simpa using hi)
def liveOk(ops:Array Oper)(F:List Nat):Bool:=F.all fun t=>ops.toList.all fun o=>o.dst != some t
theorem live_of_same{a0 a:Act}(h:Same ops a0 a):∀F:List (Nat×Value),liveOk ops (F.map (·.1))=true→LiveAll F a0→LiveAll F a
 | [],_,_=>trivial
 |p::ps,hk,hl=>by
  simp only[liveOk,List.map_cons,List.all_cons,Bool.and_eq_true]at hk;exact⟨(h.2.2 p.1 hk.1).trans hl.1,live_of_same h ps hk.2 hl.2⟩
theorem depsHold_of{its:List FItem}{a:Act}{w:World}:∀l:List Nat,(∀j∈l,∀(jt:FItem),its[j]?=some jt→jt.holds a w)→DepsHold its a w l
 | [],_=>trivial
 |j::js,h=>⟨by
   cases hj:its[j]? with
   |none=>trivial
   |some jt=>exact h j (List.mem_cons_self ..) jt hj,depsHold_of js fun k hk=>h k (List.mem_cons_of_mem _ hk)⟩
theorem holdAll_of{a:Act}{w:World}:∀its:List FItem,(∀(i:Nat) (it:FItem),its[i]?=some it→it.holds a w)→HoldAll a w its
 | [],_=>trivial
 |it::its,h=>⟨h 0 it rfl,holdAll_of its fun i jt hj=>h (i+1) jt (by simpa using hj)⟩
theorem wp_flow_use{id:Nat}(F:List (Nat×Value))(its:List FItem){a0:Act}{W:World}(sz:Nat)(hm:P.follows .mixedOrders=true)(hck:flowOk ops (its.map FItem.reads)=true)
  (hlk:liveOk ops (F.map (·.1))=true)(hsz:a0.tmps.size=sz)(hl:LiveAll F a0)(hstep:StepsOk P ops Q F sz W its ops.toList its)
  (hend:∀a w,Below W.heap.size W w→SzIs a sz→a.defers=a0.defers→LiveAll F a→HoldAll a w its→Q .normal a w):(Code.region id ops true).wp P Q a0 W:=
 wp_flow its hm hck
  (fun i o it ho hit a w hb hs hd K hK=>StepsOk.get _ _ hstep i o it (by simpa using ho) hit a w hb ⟨hs.1.trans hsz⟩ (live_of_same hs F hlk hl) (depsHold_of _ hd) K hK)
  (fun a w hb hs hh=>hend a w hb ⟨hs.1.trans hsz⟩ hs.2.1 (live_of_same hs F hlk hl) (holdAll_of its hh))
theorem gd{l:Array Value}{t:Nat}{v:Value}(h:l.getD t undef=v):l[t]?.getD undef=v:=by rw[← Array.getD_eq_getD_getElem?];exact h
theorem dep_get0{its:List FItem}{a:Act}{w:World}:∀{l:List Nat},DepsHold its a w l→∀j,l.contains j=true→(match its[j]? with|some jt=>jt.holds a w|none=>True)
 | [],_,j,hj=>by simp at hj
 |k::ks,h,j,hj=>by
  by_cases e:j=k
  ·subst e;exact h.1
  ·exact dep_get0 h.2 j (by simpa [e]using hj)
theorem dep_get{its:List FItem}{a:Act}{w:World}{l:List Nat}(h:DepsHold its a w l)(j:Nat)(hj:l.contains j=true){t:Nat}{v:Value}(hi:its[j]?=some (FItem.eq t v)):a.tmps.getD t undef=v:=by
 have:=dep_get0 h j hj;rw[hi]at this;exact FItem.eq_holds.1 this
theorem step_plain{o:Oper}{a:Act}{w:World}{K:Act→World→Prop}(hg:o.guard=none)(h:o.wp P a w K Q):
  if Region.wanted o (yielded ops a.tmps)=true then o.wp P a w K Q else K (a.put o.dst undef) w:=by
 rw[if_pos (by simp[Region.wanted,hg])];exact h
theorem yielded_of{a:Act}{j d:Nat}{b:Bool}{oj:Oper}(hj:ops[j]?=some oj)(hd:oj.dst=some d)(hv:a.tmps.getD d undef=.bool b):yielded ops a.tmps j=some b:=by
 unfold yielded;rw[hj];simp only[Option.bind_some,hd];rw[Array.getD_eq_getD_getElem?]at hv
 cases h:a.tmps[d]? with
 |none=>rw[h]at hv;simp[undef]at hv
 |some v=>
  rw[h]at hv;simp only[Option.getD_some]at hv;subst hv;rfl
theorem step_yes{o:Oper}{a:Act}{w:World}{K:Act→World→Prop}{j d:Nat}{b:Bool}{oj:Oper}(hg:o.guard=some (j,b))(hj:ops[j]?=some oj)(hd:oj.dst=some d)(hv:a.tmps.getD d undef=.bool b)(h:o.wp P a w K Q):
  if Region.wanted o (yielded ops a.tmps)=true then o.wp P a w K Q else K (a.put o.dst undef) w:=by
 rw[if_pos (by simp[Region.wanted,hg,yielded_of hj hd hv])];exact h
theorem step_no{o:Oper}{a:Act}{w:World}{K:Act→World→Prop}{j d:Nat}{b c:Bool}{oj:Oper}(hg:o.guard=some (j,b))(hj:ops[j]?=some oj)(hd:oj.dst=some d)(hv:a.tmps.getD d undef=.bool c)(hbc:c≠b)(h:K (a.put o.dst undef) w):
  if Region.wanted o (yielded ops a.tmps)=true then o.wp P a w K Q else K (a.put o.dst undef) w:=by
 rw[if_neg (by simp[Region.wanted,hg,yielded_of hj hd hv,hbc])];exact h
theorem hold_get{a:Act}{w:World}:∀{its:List FItem},HoldAll a w its→∀j:Nat,(match its[j]? with|some jt=>FItem.holds jt a w|none=>True)
 | [],_,j=>by simp
 |it::its,h,0=>h.1
 |it::its,h,j+1=>by simpa using hold_get h.2 j
theorem hold_eq{its:List FItem}{a:Act}{w:World}(h:HoldAll a w its)(j:Nat){t:Nat}{v:Value}(hi:its[j]?=some (FItem.eq t v)):a.tmps.getD t undef=v:=by
 have:=hold_get h j;rw[hi]at this;exact FItem.eq_holds.1 this
theorem eq_put{a:Act}{d:Nat}{v:Value}{w:World}{sz:Nat}(hs:SzIs a sz)(hd:d<sz):(FItem.eq d v).holds (a.put (some d) v) w:=FItem.eq_holds.2 (put_self a d v (by rw[hs.out];exact hd))
end
def flowOk2(ops:Array Oper)(m:Nat)(rs:List (List Nat)):Bool:=
 rs.length == m && decide (m<ops.size) && (List.range m).all fun i=>match ops[i]? with
  |none=>false
  |some o=>(deps o).all (· <i) && ((rs[i]?).getD []).all fun t=>(List.range m).all fun j=>match(ops[j]?).bind (·.dst)with
   |some d=>d != t || j == i || (deps o).contains j
   |none=>true
def Same2(ops:Array Oper)(m:Nat)(a0 a:Act):Prop:=
 a.tmps.size=a0.tmps.size∧a.defers=a0.defers∧∀t,((ops.toList.take m).all fun o=>o.dst != some t)=true→a.tmps.getD t undef=a0.tmps.getD t undef
theorem Same2.put{ops:Array Oper}{m:Nat}{a0 a:Act}(h:Same2 ops m a0 a){i:Nat}{o:Oper}(hi:i<m)(ho:ops[i]?=some o)(v:Value):Same2 ops m a0 (a.put o.dst v):=by
 obtain⟨h1,h2,h3⟩:=h;refine⟨(put_size _ _ _).trans h1,(put_defers _ _ _).trans h2,fun t ht=>?_⟩;rw[put_getD,h3 t ht];intro e;have hm:o∈ops.toList.take m:=by
  apply List.mem_of_getElem? (i:=i);rw[List.getElem?_take,if_pos hi];simpa using ho
 have:=List.all_eq_true.1 ht o hm;simp[e]at this
def frontArr(ops:Array Oper)(m:Nat):Array Bool:=((List.range ops.size).map fun i=>decide (i<m)).toArray
section
variable{P:Program}{ops:Array Oper}{Q:Exit→Act→World→Prop}
theorem flow2_deps{m:Nat}{rs:List (List Nat)}(h:flowOk2 ops m rs=true){i:Nat}{o:Oper}(hi:i<m)(ho:ops[i]?=some o):∀j∈deps o,j<i:=by
 simp only[flowOk2,Bool.and_eq_true,List.all_eq_true,List.mem_range]at h;have:=h.2 i hi;rw[ho]at this;simp only[Bool.and_eq_true,List.all_eq_true,decide_eq_true_eq]at this;exact this.1
theorem flow2_reads{m:Nat}{rs:List (List Nat)}(h:flowOk2 ops m rs=true){i j:Nat}{o oj:Oper}(hi:i<m)(hjm:j<m)(ho:ops[i]?=some o)(hj:ops[j]?=some oj){t:Nat}(ht:t∈(rs[i]?).getD [])(hd:oj.dst=some t):j=i∨j∈deps o:=by
 simp only[flowOk2,Bool.and_eq_true,List.all_eq_true,List.mem_range]at h;have:=h.2 i hi;rw[ho]at this;simp only[Bool.and_eq_true,List.all_eq_true]at this;have:=this.2 t ht j (List.mem_range.2 hjm);rw[hj]at this;simpa [hd]using this
theorem flow2_lt{m:Nat}{rs:List (List Nat)}(h:flowOk2 ops m rs=true):m<ops.size∧rs.length=m:=by
 simp only[flowOk2,Bool.and_eq_true,beq_iff_eq,decide_eq_true_eq]at h;exact⟨h.1.2,h.1.1⟩
theorem dep_mem{o:Oper}{e:Edge}(he:e∈o.after)(hb:Region.binds .any e=true):e.on∈deps o:=by
 unfold deps;exact List.mem_map.2 ⟨e,List.mem_filter.2 ⟨Array.mem_toList_iff.2 he,hb⟩,rfl⟩
theorem dep_edge{o:Oper}{j:Nat}(h:j∈deps o):∃e∈o.after,Region.binds .any e=true∧e.on=j:=by
 unfold deps at h;obtain⟨e,he,rfl⟩:=List.mem_map.1 h;obtain⟨he1,he2⟩:=List.mem_filter.1 he;exact⟨e,Array.mem_toList_iff.1 he1,he2,rfl⟩
theorem wpAny_flow2(its:List FItem)(m:Nat)(a0:Act)(W:World)(hck:flowOk2 ops m (its.map FItem.reads)=true)(hs:Region.sinkB .any ops m=true)(hc:Region.chainB .any ops m=true)
  (hq:Region.seqB .any ops (ops.size-m) m (frontArr ops m)=true)
  (hstep:∀(i:Nat) (o:Oper) (it:FItem),i<m→ops[i]?=some o→its[i]?=some it→∀a w,Below W.heap.size W w→Same2 ops m a0 a→(∀j∈deps o,∀(jt:FItem),its[j]?=some jt→jt.holds a w)→
   ∀K:Act→World→Prop,(∀v w',Below w.heap.size w w'→it.holds (a.put o.dst v) w'→K (a.put o.dst v) w')→if Region.wanted o (yielded ops a.tmps)=true then o.wp P a w K Q else K (a.put o.dst undef) w)
  (hend:∀a w,Below W.heap.size W w→Same2 ops m a0 a→(∀(i:Nat) (it:FItem),its[i]?=some it→it.holds a w)→wpList P ops Q (ops.toList.drop m) a w):
  ∀(fuel:Nat) (listed:Array Bool) (a:Act) (w:World),listed.size=ops.size→(List.range ops.size).countP (fun i=>!listed.getD i true)=fuel→(∀t,m≤t→t<ops.size→listed.getD t true=false)→Below W.heap.size W w→Same2 ops m a0 a→
   (∀(i:Nat) (o:Oper) (it:FItem),ops[i]?=some o→its[i]?=some it→listed.getD i false=true→(∀j∈deps o,listed.getD j false=true)∧it.holds a w)→wpAny P .any ops Q fuel listed a w:=by
 obtain⟨hmn,hlen⟩:=flow2_lt hck;rw[List.length_map]at hlen;have hfin:∀(fuel:Nat) (listed:Array Bool) (a:Act) (w:World),listed.size=ops.size→(List.range ops.size).countP (fun i=>!listed.getD i true)=fuel→(∀t,m≤t→t<ops.size→listed.getD t true=false)→(∀i,i<m→listed.getD i false=true)→Below W.heap.size W w→Same2 ops m a0 a→
   (∀(i:Nat) (o:Oper) (it:FItem),ops[i]?=some o→its[i]?=some it→listed.getD i false=true→(∀j∈deps o,listed.getD j false=true)∧it.holds a w)→wpAny P .any ops Q fuel listed a w:=by
  intro fuel listed a w hls hcn htl hfr hb hsm hinv;have hL:listed=frontArr ops m:=by
   apply Array.ext
   ·simp[frontArr,hls]
   ·intro i h1 h2;simp only[frontArr,List.getElem_toArray,List.getElem_map,List.getElem_range];by_cases him:i<m
    ·have:=hfr i him;rw[Array.getD_eq_getD_getElem?,Array.getElem?_eq_getElem h1]at this;simpa [him]using this
    ·have:=htl i (by omega) (by omega);rw[Array.getD_eq_getD_getElem?,Array.getElem?_eq_getElem h1]at this;simpa [him]using this
  have hcnt:fuel=(ops.toList.drop m).length:=by
   rw[← hcn,List.length_drop,Array.length_toList];have key:∀n,m≤n→n≤ops.size→(List.range n).countP (fun i=>!listed.getD i true)=n-m:=by
    intro n;induction n with
    |zero=>intro h1 _;simp
    |succ n ih=>
     intro h1 h2;rw[List.range_succ,List.countP_append];rcases Nat.lt_or_ge n m with h|h
     ·obtain rfl:m=n+1:=by omega
      have h0:(List.range n).countP (fun i=>!listed.getD i true)=0:=by
       rw[List.countP_eq_zero];intro i hi;have hi':=List.mem_range.1 hi;have:=hfr i (by omega);have hsz:i<listed.size:=by omega
       simp[Array.getD_eq_getD_getElem?,hsz]at this⊢;exact this
      have h3:=hfr n (by omega);have hsz:n<listed.size:=by omega
      rw[h0];simp[Array.getD_eq_getD_getElem?,hsz]at h3⊢;exact h3
     ·have h3:=htl n h (by omega);have h4:[n].countP (fun i=>!listed.getD i true)=1:=by rw[List.countP_singleton,h3];rfl
      rw[ih h (by omega),h4];omega
   exact key ops.size (by omega) (Nat.le_refl _)
  subst hL;rw[hcnt];refine wpAny_of_seq (ops.toList.drop m) m _ a w (fun j=>by simp[List.getElem?_drop]) (by rw[List.length_drop,Array.length_toList];exact hq) ?_;refine hend a w hb hsm fun(i:Nat) (it:FItem) hit=>?_
  have hi:i<m:=by
   have:=(List.getElem?_eq_some_iff.1 hit).1;omega
  exact(hinv i _ it (Array.getElem?_eq_getElem (by omega)) hit (hfr i hi)).2
 intro fuel;induction fuel with
 |zero=>
  intro listed a w hls hcn htl hb hsm hinv;refine hfin 0 listed a w hls hcn htl (fun i hi=>?_) hb hsm hinv;have:=List.countP_eq_zero.1 hcn i (List.mem_range.2 (by omega));have hsz:i<listed.size:=by omega
  simp[Array.getD_eq_getD_getElem?,hsz]at this⊢;exact this
 |succ fuel ih=>
  intro listed a w hls hcn htl hb hsm hinv;by_cases hall:∀i,i<m→listed.getD i false=true
  ·exact hfin _ listed a w hls hcn htl hall hb hsm hinv
  have hex:∃i,i<m∧listed.getD i false=false∧∀j,j<i→listed.getD j false=true:=by
   have hne:∃i,i<m∧listed.getD i false=false:=by
    refine Classical.byContradiction fun h=>hall fun i hi=>?_
    cases hv:listed.getD i false with
    |true=>rfl
    |false=>exact absurd ⟨i,hi,hv⟩ h
   obtain⟨i,hi,hv⟩:=hne;induction i using Nat.strongRecOn with
   |_ i ihi=>
    by_cases hj:∃j,j<i∧listed.getD j false=false
    ·obtain⟨j,hji,hjv⟩:=hj;exact ihi j hji (by omega) hjv
    ·refine⟨i,hi,hv,fun j hji=>?_⟩
     cases hjv:listed.getD j false with
     |true=>rfl
     |false=>exact absurd ⟨j,hji,hjv⟩ hj
  obtain⟨i0,hi0,hv0,hlow⟩:=hex;have hun0:listed.getD i0 true=false:=by
   have hsz:i0<listed.size:=by omega
   simp[Array.getD_eq_getD_getElem?,hsz]at hv0⊢;exact hv0
  have hready0:i0∈Region.ready .any ops listed:=by
   unfold Region.ready;rw[List.mem_filter];refine⟨List.mem_range.2 (by omega),?_⟩;have ho:ops[i0]?=some ops[i0]:=Array.getElem?_eq_getElem (by omega);rw[hun0,ho];simp only[Bool.not_false,Bool.true_and,Option.map_some,Option.getD_some,Array.all_eq_true'];intro e he;by_cases hbd:Region.binds .any e=true
   ·have hlt:=flow2_deps hck hi0 ho _ (dep_mem he hbd);simp[hbd,hlow e.on hlt]
   ·simp at hbd;simp[hbd]
  have hHI:HeadInv .any ops m listed:=by
   refine⟨hls,fun j oj hj hl e he hb'=>?_,htl⟩;have hjm:j<m:=by
    rcases Nat.lt_or_ge j m with h|h
    ·exact h
    ·have hjn:j<ops.size:=(Array.getElem?_eq_some_iff.1 hj).1;have:=getD_both (htl j h hjn);rw[this]at hl
     cases hl
   exact(hinv j oj _ hj (List.getElem?_eq_getElem (by omega)) hl).1 _ (dep_mem he hb')
  refine⟨fun hr=>absurd hready0 (by rw[hr];simp),fun i hi=>?_⟩;have him:i<m:=by
   rcases Nat.lt_or_ge i m with h|h
   ·exact h
   ·exact absurd hi (tail_waits hs hc hmn hHI _ i0 rfl hi0 hun0 i h)
  unfold Region.ready at hi;rw[List.mem_filter]at hi;obtain⟨hir,hi2⟩:=hi;have hin:i<ops.size:=List.mem_range.1 hir;obtain⟨o,ho⟩:∃o,ops[i]?=some o:=⟨ops[i],Array.getElem?_eq_getElem hin⟩;obtain⟨it,hit⟩:∃it,its[i]?=some it:=⟨its[i]'(by omega),List.getElem?_eq_getElem (by omega)⟩;rw[ho]at hi2;simp only[Bool.and_eq_true,Option.map_some,Option.getD_some,Array.all_eq_true']at hi2;obtain⟨hun,hed⟩:=hi2;have hunl:listed.getD i true=false:=by simpa using hun
  have hdl:∀j∈deps o,listed.getD j false=true:=by
   intro j hj;obtain⟨e,he,hb',rfl⟩:=dep_edge hj;have:=hed e he;simpa [hb']using this
  refine wpOp_step ho fun K' hK=>?_
  refine hstep i o it him ho hit a w hb hsm (fun j hj jt hjt=>?_) K' (fun v w' hbw hitw=>hK _ _ ?_)
  ·have hjn:j<ops.size:=Nat.lt_trans (flow2_deps hck him ho j hj) hin;exact(hinv j ops[j] jt (Array.getElem?_eq_getElem hjn) hjt (hdl j hj)).2
  ·have hset:∀k,(listed.setIfInBounds i true).getD k false=true→k=i∨listed.getD k false=true:=by
    intro k hk;by_cases hki:k=i
    ·exact .inl hki
    ·right
     simpa [Array.getD_eq_getD_getElem?,Array.getElem?_setIfInBounds_ne (Ne.symm hki)]using hk
   have hkeep:∀k,listed.getD k false=true→(listed.setIfInBounds i true).getD k false=true:=by
    intro k hk;by_cases hki:k=i
    ·subst hki;simp[Array.getD_eq_getD_getElem?,show k<listed.size by omega]
    ·simpa [Array.getD_eq_getD_getElem?,Array.getElem?_setIfInBounds_ne (Ne.symm hki)]using hk
   have hself:(listed.setIfInBounds i true).getD i false=true:=by simp[Array.getD_eq_getD_getElem?,show i<listed.size by omega]
   refine ih _ _ _ (by simpa using hls) ?_ (fun t ht htn=>?_) (hb.trans (hbw.mono hb.size)) (hsm.put him ho v) ?_
   ·have hcc:(List.range ops.size).countP (fun k=>!listed.getD k true)=(List.range ops.size).countP (fun k=>!(listed.setIfInBounds i true).getD k true)+1:=by
     have key:∀l:List Nat,l.Nodup→l.countP (fun k=>!listed.getD k true)=l.countP (fun k=>!(listed.setIfInBounds i true).getD k true)+(if i∈l then 1 else 0):=by
      intro l;induction l with
      |nil=>intro _;simp
      |cons y l ihl=>
       intro hnd;rw[List.nodup_cons]at hnd;rw[List.countP_cons,List.countP_cons,ihl hnd.2];by_cases hyi:y=i
       ·subst hyi;have h2:(listed.setIfInBounds y true).getD y true=true:=by simp[Array.getD_eq_getD_getElem?,show y<listed.size by omega]
        simp[hunl,h2,hnd.1]
       ·have h2:(listed.setIfInBounds i true).getD y true=listed.getD y true:=by simp[Array.getD_eq_getD_getElem?,Array.getElem?_setIfInBounds_ne (Ne.symm hyi)]
        rw[h2];have:(i∈y::l)↔i∈l:=by simp[Ne.symm hyi]
        simp only[this];split <;> omega
     rw[key _ List.nodup_range,if_pos hir]
    omega
   ·have hti:t≠i:=by omega
    have:=htl t ht htn;simpa [Array.getD_eq_getD_getElem?,Array.getElem?_setIfInBounds_ne (Ne.symm hti)]using this
   ·intro k ok kt hok hkt hkl;rcases hset k hkl with rfl|hkl'
    ·rw[ho]at hok;rw[hit]at hkt;injection hok with hok;injection hkt with hkt;subst hok hkt;exact⟨fun j hj=>hkeep j (hdl j hj),hitw⟩
    ·obtain⟨hkd,hkh⟩:=hinv k ok kt hok hkt hkl';have hkm:k<m:=by
      have:=(List.getElem?_eq_some_iff.1 hkt).1;omega
     refine⟨fun j hj=>hkeep j (hkd j hj),?_⟩;have hne:∀t∈kt.reads,o.dst≠some t:=by
      intro t ht hdt;have htr:t∈(((its.map FItem.reads)[k]?).getD []):=by simp[List.getElem?_map,hkt,ht]
      rcases flow2_reads hck hkm him hok ho htr hdt with h|h
      ·subst h;have:listed.getD i true=true:=by
        simp only[Array.getD_eq_getD_getElem?]at hkl'⊢;rw[Array.getElem?_eq_getElem (show i<listed.size by omega)]at hkl'⊢;simpa using hkl'
       rw[hunl]at this
       cases this
      ·have:=hkd i h;have h2:listed.getD i true=true:=by
        simp only[Array.getD_eq_getD_getElem?]at this⊢;rw[Array.getElem?_eq_getElem (show i<listed.size by omega)]at this⊢;simpa using this
       rw[hunl]at h2
       cases h2
     have hmap:(kt.reads.map fun t=>(a.put o.dst v).tmps.getD t undef)=kt.reads.map fun t=>a.tmps.getD t undef:=
      List.map_congr_left fun t ht=>put_getD _ _ _ _ (hne t ht)
     unfold FItem.holds at hkh⊢;rw[hmap];exact kt.keeps _ _ _ hbw hkh
theorem wpList_flow2(its:List FItem)(m:Nat)(a0:Act)(W:World)(hck:flowOk2 ops m (its.map FItem.reads)=true)
  (hstep:∀(i:Nat) (o:Oper) (it:FItem),i<m→ops[i]?=some o→its[i]?=some it→∀a w,Below W.heap.size W w→Same2 ops m a0 a→(∀j∈deps o,∀(jt:FItem),its[j]?=some jt→jt.holds a w)→
   ∀K:Act→World→Prop,(∀v w',Below w.heap.size w w'→it.holds (a.put o.dst v) w'→K (a.put o.dst v) w')→if Region.wanted o (yielded ops a.tmps)=true then o.wp P a w K Q else K (a.put o.dst undef) w)
  (hend:∀a w,Below W.heap.size W w→Same2 ops m a0 a→(∀(i:Nat) (it:FItem),its[i]?=some it→it.holds a w)→wpList P ops Q (ops.toList.drop m) a w):
  ∀(d i:Nat) (a:Act) (w:World),m-i=d→i≤m→Below W.heap.size W w→Same2 ops m a0 a→(∀(k:Nat) (kt:FItem),k<i→its[k]?=some kt→kt.holds a w)→wpList P ops Q (ops.toList.drop i) a w:=by
 obtain⟨hmn,hlen⟩:=flow2_lt hck;rw[List.length_map]at hlen;intro d;induction d with
 |zero=>
  intro i a w hd hi hb hsm hinv;obtain rfl:i=m:=by omega
  exact hend a w hb hsm fun k kt hk=>hinv k kt (by have:=(List.getElem?_eq_some_iff.1 hk).1;omega) hk
 |succ d ih=>
  intro i a w hd hi hb hsm hinv;have him:i<m:=by omega
  have hin:i<ops.size:=by omega
  have ho:ops[i]?=some ops[i]:=Array.getElem?_eq_getElem hin;obtain⟨it,hit⟩:∃it,its[i]?=some it:=⟨its[i]'(by omega),List.getElem?_eq_getElem (by omega)⟩;have hdr:ops.toList.drop i=ops[i]::ops.toList.drop (i+1):=by
   rw[List.drop_eq_getElem_cons (by simpa using hin)];simp
  rw[hdr];have hst:=hstep i ops[i] it him ho hit a w hb hsm (fun j hj jt hjt=>hinv j jt (flow2_deps hck him ho j hj) hjt) (wpList P ops Q (ops.toList.drop (i+1))) (fun v w' hbw hitw=>by
   refine ih (i+1) _ _ (by omega) (by omega) (hb.trans (hbw.mono hb.size)) (hsm.put him ho v) fun k kt hk hkt=>?_
   rcases Nat.lt_or_ge k i with h|h
   ·have hkh:=hinv k kt h hkt;have hne:∀t∈kt.reads,ops[i].dst≠some t:=by
     intro t ht hdt;have htr:t∈(((its.map FItem.reads)[k]?).getD []):=by simp[List.getElem?_map,hkt,ht]
     rcases flow2_reads hck (by omega) him (Array.getElem?_eq_getElem (by omega)) ho htr hdt with h'|h'
     ·omega
     ·have:=flow2_deps hck (by omega) (Array.getElem?_eq_getElem (show k<ops.size by omega)) i h';omega
    have hmap:(kt.reads.map fun t=>(a.put ops[i].dst v).tmps.getD t undef)=kt.reads.map fun t=>a.tmps.getD t undef:=
     List.map_congr_left fun t ht=>put_getD _ _ _ _ (hne t ht)
    unfold FItem.holds at hkh⊢;rw[hmap];exact kt.keeps _ _ _ hbw hkh
   ·obtain rfl:k=i:=by omega
    rw[hit]at hkt;injection hkt with hkt;subst hkt;exact hitw)
  unfold wpList;by_cases hw:Region.wanted ops[i] (yielded ops a.tmps)=true
  ·rw[if_pos hw]at hst⊢;exact .inl hst
  ·rw[if_neg hw]at hst⊢;exact hst
def liveOk2(ops:Array Oper)(m:Nat)(F:List Nat):Bool:=F.all fun t=>(ops.toList.take m).all fun o=>o.dst != some t
theorem live_of_same2{m:Nat}{a0 a:Act}(h:Same2 ops m a0 a):∀F:List (Nat×Value),liveOk2 ops m (F.map (·.1))=true→LiveAll F a0→LiveAll F a
 | [],_,_=>trivial
 |p::ps,hk,hl=>by
  simp only[liveOk2,List.map_cons,List.all_cons,Bool.and_eq_true]at hk;exact⟨(h.2.2 p.1 hk.1).trans hl.1,live_of_same2 h ps hk.2 hl.2⟩
structure DfNil(a:Act):Prop where
 out:a.defers=[]
def drawOk2(ops:Array Oper)(m:Nat):Bool:=Region.sinkB .any ops m && Region.chainB .any ops m && Region.seqB .any ops (ops.size-m) m (frontArr ops m)
theorem wp_flow2_use{id:Nat}{draw:Bool}(F:List (Nat×Value))(its:List FItem)(m:Nat){a0:Act}{W:World}(sz:Nat)(hm:P.follows .mixedOrders=true)(hck:flowOk2 ops m (its.map FItem.reads)=true)(hdr:(!draw || drawOk2 ops m)=true)
  (hlk:liveOk2 ops m (F.map (·.1))=true)(hsz:SzIs a0 sz)(hdf:DfNil a0)(hl:LiveAll F a0)(hstep:StepsOk P ops Q F sz W its ops.toList its)
  (hend:∀a w,Below W.heap.size W w→SzIs a sz→DfNil a→LiveAll F a→HoldAll a w its→wpList P ops Q (ops.toList.drop m) a w):(Code.region id ops draw).wp P Q a0 W:=by
 have hst:∀(i:Nat) (o:Oper) (it:FItem),i<m→ops[i]?=some o→its[i]?=some it→∀a w,Below W.heap.size W w→Same2 ops m a0 a→(∀j∈deps o,∀(jt:FItem),its[j]?=some jt→jt.holds a w)→
   ∀K:Act→World→Prop,(∀v w',Below w.heap.size w w'→it.holds (a.put o.dst v) w'→K (a.put o.dst v) w')→if Region.wanted o (yielded ops a.tmps)=true then o.wp P a w K Q else K (a.put o.dst undef) w:=
  fun i o it _ ho hit a w hb hs hd K hK=>StepsOk.get _ _ hstep i o it (by simpa using ho) hit a w hb ⟨hs.1.trans hsz.out⟩ (live_of_same2 hs F hlk hl) (depsHold_of _ hd) K hK
 have hen:∀a w,Below W.heap.size W w→Same2 ops m a0 a→(∀(i:Nat) (it:FItem),its[i]?=some it→it.holds a w)→wpList P ops Q (ops.toList.drop m) a w:=
  fun a w hb hs hh=>hend a w hb ⟨hs.1.trans hsz.out⟩ ⟨hs.2.1.trans hdf.out⟩ (live_of_same2 hs F hlk hl) (holdAll_of its hh)
 cases draw with
 |false=>exact wp_region_list (wpList_flow2 its m a0 W hck hst hen m 0 a0 W rfl (Nat.zero_le _) (Below.refl _ _) ⟨rfl,rfl,fun _ _=>rfl⟩ (fun k kt hk=>absurd hk (Nat.not_lt_zero _)))
 |true=>
  simp only[drawOk2,Bool.not_true,Bool.false_or,Bool.and_eq_true]at hdr;refine wp_region_any hm (wpAny_flow2 its m a0 W hck hdr.1.1 hdr.1.2 hdr.2 hst hen ops.size (Array.replicate ops.size false) a0 _ (by simp) ?_ (fun t _ ht=>?_) (Below.refl _ _).drew ⟨rfl,rfl,fun _ _=>rfl⟩ (fun i o it ho hit hl=>?_))
  ·have:(List.range ops.size).countP (fun i=>!(Array.replicate ops.size false).getD i true)=(List.range ops.size).length:=by
    rw[List.countP_eq_length];intro i hi;have hi':=List.mem_range.1 hi;simp[Array.getD_eq_getD_getElem?,hi']
   rw[this,List.length_range]
  ·simp[Array.getD_eq_getD_getElem?,ht]
  ·have hi:i<ops.size:=(Array.getElem?_eq_some_iff.1 ho).1;simp[Array.getD_eq_getD_getElem?,hi]at hl
theorem tail_op{o:Oper}{rest:List Oper}{a:Act}{w:World}(hg:o.guard=none)(h:∀K:Act→World→Prop,(∀a w,wpList P ops Q rest a w→K a w)→o.wp P a w K Q):wpList P ops Q (o::rest) a w:=wpList_plain hg h
theorem put_ne{a:Act}{d t:Nat}{v u:Value}(h:a.tmps.getD t undef=u)(hd:d≠t):(a.put (some d) v).tmps.getD t undef=u:=(put_getD a (some d) v t (fun e=>hd (by injection e))).trans h
theorem put_eq{a:Act}{d sz:Nat}{v:Value}(hs:SzIs a sz)(hd:d<sz):(a.put (some d) v).tmps.getD d undef=v:=put_self a d v (by rw[hs.out];exact hd)
theorem SzIs.put{a:Act}{sz:Nat}(hs:SzIs a sz)(d:Option Nat)(v:Value):SzIs (a.put d v) sz:=⟨(put_size _ _ _).trans hs.out⟩
theorem df_put{a:Act}(h:DfNil a)(d:Option Nat)(v:Value):DfNil (a.put d v):=⟨(put_defers _ _ _).trans h.out⟩
theorem act_put{rest:List Oper}{w:World}{a:Act}{d sz:Nat}(v:Value)(hs:SzIs a sz)(hd:DfNil a)(hlt:d<sz)(F:List (Nat×Value))(hl:LiveAll F a)(hF:(F.all fun p=>p.1 != d)=true)
  (h:∀a',SzIs a' sz→DfNil a'→LiveAll ((d,v)::F) a'→wpList P ops Q rest a' w):wpList P ops Q rest (a.put (some d) v) w:=by
 refine h _ (hs.put _ _) (df_put hd _ _) ⟨put_eq hs hlt,?_⟩;clear h;induction F with
 |nil=>trivial
 |cons p ps ih=>
  simp only[List.all_cons,Bool.and_eq_true,bne_iff_ne]at hF;exact⟨put_ne hl.1 (fun e=>hF.1 e.symm),ih hl.2 hF.2⟩
theorem enter_abs{f:FuncId}{fn:Func}{c:Code}{args:Array Value}{w:World}{R:Ending→World→Prop}(hf:P.funcs[f]?=some fn)(hb:fn.body=some c)(sz:Nat)(hn:fn.ntmps=sz)(hle:args.size≤sz)
  (h:∀a:Act,SzIs a sz→DfNil a→(∀i v,args[i]?=some v→a.tmps.getD i undef=v)→c.wp P (bodyPost P fn R) a w):Calls P f args w R:=by
 refine calls_of_wp hf hb (h _ ⟨by simp;omega⟩ ⟨rfl⟩ fun i v hv=>?_);have hi:i<args.size:=(Array.getElem?_eq_some_iff.1 hv).1;rw[Array.getD_eq_getD_getElem?,Array.getElem?_append_left hi,hv];rfl
theorem end_none{fn:Func}{R:Ending→World→Prop}{a:Act}{w:World}(hr:fn.results=#[])(hd:DfNil a)(h:R (.returned (.tuple #[])) w):bodyPost P fn R .normal a w:=
 ⟨hd.out,.tuple #[],by simp[results,hr],h⟩
theorem end_none'{fn:Func}{R:Ending→World→Prop}{a:Act}{w:World}(hr:fn.results=#[])(hd:DfNil a)(h:R (.returned (.tuple #[])) w):bodyPost P fn R .ret a w:=
 ⟨hd.out,.tuple #[],by simp[results,hr],h⟩
theorem end_tmp{fn:Func}{R:Ending→World→Prop}{a:Act}{w:World}{t:Nat}{v:Value}(hr:fn.results=#[.tmp t])(hd:DfNil a)(hv:a.tmps.getD t undef=v)(h:R (.returned v) w):bodyPost P fn R .ret a w:=
 ⟨hd.out,v,by rw[← hv];simp[results,hr],h⟩
theorem end_tmp2{fn:Func}{R:Ending→World→Prop}{a:Act}{w:World}{t t':Nat}{v v':Value}(hr:fn.results=#[.tmp t,.tmp t'])(hd:DfNil a)(hv:a.tmps.getD t undef=v)(hv':a.tmps.getD t' undef=v')(h:R (.returned (.tuple #[v,v'])) w):bodyPost P fn R .ret a w:=
 ⟨hd.out,.tuple #[v,v'],by rw[← hv,← hv'];simp[results,hr],h⟩
def loopIn(b:Nat):Code→Option Code
 | .block b' c=>if b=b' then(match c with| .loop c=>some c|c=>some c)else loopIn b c
 | .seq x y=>match loopIn b x with
  |some c=>some c
  |none=>loopIn b y
 | .cond _ x y=>match loopIn b x with
  |some c=>some c
  |none=>loopIn b y
 | .loop c=>loopIn b c
 | .scope c=>loopIn b c
 |_=>none
theorem eq_put'{a:Act}{d:Nat}{v v':Value}{w:World}{sz:Nat}(hs:SzIs a sz)(hd:d<sz)(hv:v=v'):(FItem.eq d v').holds (a.put (some d) v) w:=hv▸eq_put hs hd
theorem cell_up{W u:World}{p:Addr}{v:Value}(hb:Below W.heap.size W u)(c:W.cell? p=some v):u.cell? p=some v:=(hb.cell (World.block_lt_of_cell? W p c)).trans c
theorem then_exit{id:Nat}{N:Act→World→Prop}{a:Act}{w:World}(h:Q (.exit id) a w):Exit.then N Q (.exit id) a w:=h
theorem then_ret{N:Act→World→Prop}{a:Act}{w:World}(h:Q .ret a w):Exit.then N Q .ret a w:=h
theorem inBlock_ret{id:Nat}{a:Act}{w:World}(h:Q .ret a w):Exit.inBlock id Q .ret a w:=h
theorem inBlock_exit{id:Nat}{a:Act}{w:World}(h:Q .normal a w):Exit.inBlock id Q (.exit id) a w:=by simp only[Exit.inBlock,if_true];exact h
theorem inBlock_other{id id':Nat}{a:Act}{w:World}(hn:id'≠id)(h:Q (.exit id') a w):Exit.inBlock id Q (.exit id') a w:=by simp only[Exit.inBlock,if_neg hn];exact h
theorem vL{F:List (Nat×Value)}{a:Act}(h:LiveAll F a)(k:Nat){t:Nat}{v:Value}(e:F[k]?=some (t,v):=by exact rfl):a.tmps.getD t undef=v:=by
 induction F generalizing k with
 |nil=>simp at e
 |cons p ps ih=>
  obtain⟨h0,h1⟩:=h
  cases k with
  |zero=>
   obtain rfl:p=(t,v):=by simpa using e
   exact h0
  |succ k=>exact ih h1 k (by simpa using e)
theorem gL{F:List (Nat×Value)}{a:Act}(h:LiveAll F a)(k:Nat){t:Nat}{v:Value}(e:F[k]?=some (t,v):=by exact rfl):a.tmps[t]?.getD undef=v:=gd (vL h k e)
theorem vD{its:List FItem}{a:Act}{w:World}{l:List Nat}(h:DepsHold its a w l)(j:Nat){t:Nat}{v:Value}(hi:its[j]?=some (FItem.eq t v):=by exact rfl)(hj:l.contains j=true:=by kernel_rfl):a.tmps.getD t undef=v:=dep_get h j hj hi
theorem gD{its:List FItem}{a:Act}{w:World}{l:List Nat}(h:DepsHold its a w l)(j:Nat){t:Nat}{v:Value}(hi:its[j]?=some (FItem.eq t v):=by exact rfl)(hj:l.contains j=true:=by kernel_rfl):a.tmps[t]?.getD undef=v:=gd (dep_get h j hj hi)
theorem kE{a:Act}{w:World}{K:Act→World→Prop}{dst:Option Nat}{it:FItem}{d sz:Nat}{v:Value}(hK:∀v' w',Below w.heap.size w w'→it.holds (a.put dst v') w'→K (a.put dst v') w')(hs:SzIs a sz)(hd:d<sz:=by decide)(ed:dst=some d:=by exact rfl)(ei:it=FItem.eq d v:=by exact rfl):K (a.put (some d) v) w:=by
 subst ed ei;exact hK _ _ (Below.refl _ _) (eq_put hs hd)
theorem lH{its:List FItem}{F:List (Nat×Value)}{a:Act}{w:World}(h:HoldAll a w its)(j:Nat)(hl:LiveAll F a){t:Nat}{v:Value}(hi:its[j]?=some (FItem.eq t v):=by exact rfl):LiveAll ((t,v)::F) a:=⟨hold_eq h j hi,hl⟩
theorem stp{F:List (Nat×Value)}{sz:Nat}{W:World}{its:List FItem}{o:Oper}{it:FItem}(hg:o.guard=none)(h:∀a w,Below W.heap.size W w→SzIs a sz→LiveAll F a→DepsHold its a w (deps o)→∀K:Act→World→Prop,(∀v w',Below w.heap.size w w'→it.holds (a.put o.dst v) w'→K (a.put o.dst v) w')→o.wp P a w K Q):StepOk P ops Q F sz W its o it:=
 fun a w hb hs hl hd K hK=>step_plain hg (h a w hb hs hl hd K hK)
theorem tP{rest:List Oper}{w:World}{a:Act}{d sz:Nat}{v:Value}{F:List (Nat×Value)}(hs:SzIs a sz)(hd:DfNil a)(hl:LiveAll F a)(h:∀a',SzIs a' sz→DfNil a'→LiveAll ((d,v)::F) a'→wpList P ops Q rest a' w)(hlt:d<sz:=by decide)(hF:(F.all fun p=>p.1 != d)=true:=by exact rfl):wpList P ops Q rest (a.put (some d) v) w:=act_put v hs hd hlt F hl hF h
theorem fl2{id:Nat}{draw:Bool}{F:List (Nat×Value)}(its:List FItem)(m:Nat){a0:Act}{W:World}{sz:Nat}(hsz:SzIs a0 sz)(hdf:DfNil a0)(hl:LiveAll F a0)(hstep:StepsOk P ops Q F sz W its ops.toList its)
  (hend:∀a w,Below W.heap.size W w→SzIs a sz→DfNil a→LiveAll F a→HoldAll a w its→wpList P ops Q (ops.toList.drop m) a w)(hm:P.follows .mixedOrders=true:=by kernel_rfl)(hck:flowOk2 ops m (its.map FItem.reads)=true:=by kernel_rfl)(hdr:(!draw || drawOk2 ops m)=true:=by kernel_rfl)
  (hlk:liveOk2 ops m (F.map (·.1))=true:=by kernel_rfl):(Code.region id ops draw).wp P Q a0 W:=wp_flow2_use F its m sz hm hck hdr hlk hsz hdf hl hstep hend
end
def GetAll:List (Nat×Value)→Act→Prop
 | [],_=>True
 |(t,v)::ps,a=>a.tmps[t]?.getD undef=v∧GetAll ps a
theorem gA:∀{F:List (Nat×Value)} {a:Act},LiveAll F a→GetAll F a
 | [],_,_=>trivial
 |_::_,_,h=>⟨gd h.1,gA h.2⟩
theorem kp(ts:List Nat){F F':List (Nat×Value)}{a:Act}(h:LiveAll F a)(e:F.filter (fun p=>ts.contains p.1)=F':=by simp[List.filter];rfl):LiveAll F' a:=by
 subst e;induction F with
 |nil=>trivial
 |cons p ps ih=>
  rw[List.filter_cons];split
  ·exact⟨h.1,ih h.2⟩
  ·exact ih h.2
def SubF(F:List (Nat×Value)):List (Nat×Value)→Prop
 | []=>True
 |p::ps=>F.lookup p.1=some p.2∧SubF F ps
theorem sl{F:List (Nat×Value)}{a:Act}(h:LiveAll F a)(t:Nat){v:Value}(e:F.lookup t=some v:=by exact rfl):a.tmps.getD t undef=v:=by
 induction F with
 |nil=>cases e
 |cons p ps ih=>
  obtain⟨x,y⟩:=p;rw[List.lookup_cons]at e;split at e
  ·rename_i hb;obtain rfl:t=x:=by simpa using hb
   injection e with e;rw[← e];exact h.1
  ·exact ih h.2 e
theorem ks{F:List (Nat×Value)}{a:Act}(h:LiveAll F a){G:List (Nat×Value)}(e:SubF F G:=by(repeat' first|exact trivial|refine⟨rfl,?_⟩)):LiveAll G a:=by
 induction G with
 |nil=>trivial
 |cons p ps ih=>exact⟨sl h p.1 e.1,ih e.2⟩
section
variable{P:Program}{ops:Array Oper}{Q:Exit→Act→World→Prop}
def GuardOk(ops:Array Oper)(o:Oper)(a:Act):Prop:=o.guard=none∨∃(j:Nat) (b:Bool) (oj:Oper) (dj:Nat),o.guard=some (j,b)∧ops[j]?=some oj∧oj.dst=some dj∧a.tmps.getD dj undef=.bool b
theorem tail_opG{o:Oper}{rest:List Oper}{a:Act}{w:World}(hg:GuardOk ops o a)(h:∀K:Act→World→Prop,(∀a w,wpList P ops Q rest a w→K a w)→o.wp P a w K Q):wpList P ops Q (o::rest) a w:=by
 rcases hg with hg|⟨j,b,oj,dj,h1,h2,h3,h4⟩
 ·exact tail_op hg h
 ·exact wpList_step fun K hK=>step_yes h1 h2 h3 h4 (h K hK)
theorem tn{o:Oper}{rest:List Oper}{a:Act}{w:World}{d sz:Nat}{F F':List (Nat×Value)}(hs:SzIs a sz)(hd:DfNil a)(zl:LiveAll F a)
  (h:∀a',SzIs a' sz→DfNil a'→LiveAll ((d,undef)::F') a'→wpList P ops Q rest a' w)
  (hg:∃(j:Nat) (b:Bool) (oj:Oper) (dj:Nat) (c:Bool),o.guard=some (j,b)∧ops[j]?=some oj∧oj.dst=some dj∧F.lookup dj=some (.bool c)∧c≠b:=by exact⟨_,_,_,_,_,rfl,rfl,rfl,rfl,by decide⟩)
  (hdst:o.dst=some d:=by exact rfl)(hlt:d<sz:=by decide)
  (hF:F.filter (fun p=>p.1 != d)=F':=by simp[List.filter];rfl):wpList P ops Q (o::rest) a w:=by
 subst hF;obtain⟨j,b,oj,dj,c,h1,h2,h3,h4,h5⟩:=hg;refine wpList_step fun K hK=>step_no h1 h2 h3 (sl zl dj h4) h5 (hK _ _ ?_)
 rw[hdst];refine act_put undef hs hd hlt _ ?_ ?_ h
 ·clear h h4;induction F with
  |nil=>trivial
  |cons p ps ih=>
   rw[List.filter_cons];split
   ·exact⟨zl.1,ih zl.2⟩
   ·exact ih zl.2
 ·simp
theorem tx{o:Oper}{rest:List Oper}{a:Act}{w:World}{d sz:Nat}{v:Value}{F F':List (Nat×Value)}(hs:SzIs a sz)(hd:DfNil a)(zl:LiveAll F a)
  (h:∀a',SzIs a' sz→DfNil a'→LiveAll ((d,v)::F') a'→wpList P ops Q rest a' w)
  (hg:GuardOk ops o a:=by first|exact .inl rfl|exact .inr ⟨_,_,_,_,rfl,rfl,rfl,sl zl _⟩)(_hdst:o.dst=some d:=by exact rfl)(hlt:d<sz:=by decide)
  (hF:F.filter (fun p=>p.1 != d)=F':=by simp[List.filter];rfl)
  (hop:∀(K:Act→World→Prop) (Q:Exit→Act→World→Prop),K (a.put (some d) v) w→o.wp P a w K Q:=by(intro K Q hK;have q:=gA zl;simp only[GetAll]at q;go_simp;exact hK)):wpList P ops Q (o::rest) a w:=by
 subst hF;refine tail_opG hg fun K hK=>hop K _ (hK _ _ (act_put v hs hd hlt _ ?_ ?_ h))
 ·clear h hop;induction F with
  |nil=>trivial
  |cons p ps ih=>
   rw[List.filter_cons];split
   ·exact⟨zl.1,ih zl.2⟩
   ·exact ih zl.2
 ·simp
theorem tw{o:Oper}{rest:List Oper}{a:Act}{w:World}{d sz:Nat}{F F':List (Nat×Value)}(R:Value→World→Prop)(hs:SzIs a sz)(hd:DfNil a)(zl:LiveAll F a)
  (hop:∀(K:Act→World→Prop) (Q:Exit→Act→World→Prop),(∀v w',R v w'→K (a.put (some d) v) w')→o.wp P a w K Q)
  (h:∀v w',R v w'→∀a',SzIs a' sz→DfNil a'→LiveAll ((d,v)::F') a'→wpList P ops Q rest a' w')
  (hg:GuardOk ops o a:=by first|exact .inl rfl|exact .inr ⟨_,_,_,_,rfl,rfl,rfl,sl zl _⟩)(_hdst:o.dst=some d:=by exact rfl)(hlt:d<sz:=by decide)
  (hF:F.filter (fun p=>p.1 != d)=F':=by simp[List.filter];rfl):wpList P ops Q (o::rest) a w:=by
 subst hF;refine tail_opG hg fun K hK=>hop K _ fun v w' hR=>hK _ _ (act_put v hs hd hlt _ ?_ ?_ (h v w' hR))
 ·clear h hop;induction F with
  |nil=>trivial
  |cons p ps ih=>
   rw[List.filter_cons];split
   ·exact⟨zl.1,ih zl.2⟩
   ·exact ih zl.2
 ·simp
theorem tk{o:Oper}{rest:List Oper}{a:Act}{w w':World}{d sz:Nat}{v:Value}{F F':List (Nat×Value)}(hs:SzIs a sz)(hd:DfNil a)(zl:LiveAll F a)
  (hop:∀(K:Act→World→Prop) (Q:Exit→Act→World→Prop),K (a.put (some d) v) w'→o.wp P a w K Q)
  (h:∀a',SzIs a' sz→DfNil a'→LiveAll ((d,v)::F') a'→wpList P ops Q rest a' w')
  (hg:GuardOk ops o a:=by first|exact .inl rfl|exact .inr ⟨_,_,_,_,rfl,rfl,rfl,sl zl _⟩)(hdst:o.dst=some d:=by exact rfl)(hlt:d<sz:=by decide)
  (hF:F.filter (fun p=>p.1 != d)=F':=by simp[List.filter];rfl):wpList P ops Q (o::rest) a w:=
 tw (fun v1 w1=>v1=v∧w1=w') hs hd zl (fun K Q hK=>hop K Q (hK v w' ⟨rfl,rfl⟩)) (fun _ _ e a' h1 h2 h3=>by obtain⟨rfl,rfl⟩:=e;exact h a' h1 h2 h3) hg hdst hlt hF
theorem tc{o:Oper}{rest:List Oper}{a:Act}{w:World}{d sz:Nat}{F F':List (Nat×Value)}{f:FuncId}{args:Array Value}{R:Ending→World→Prop}(hc:Calls P f args w R)(hs:SzIs a sz)(hd:DfNil a)(zl:LiveAll F a)
  (h:∀e w',R e w'→∃v,e=.returned v∧∀a',SzIs a' sz→DfNil a'→LiveAll ((d,v)::F') a'→wpList P ops Q rest a' w')
  (hg:GuardOk ops o a:=by first|exact .inl rfl|exact .inr ⟨_,_,_,_,rfl,rfl,rfl,sl zl _⟩)(_hdst:o.dst=some d:=by exact rfl)(hlt:d<sz:=by decide)
  (hF:F.filter (fun p=>p.1 != d)=F':=by simp[List.filter];rfl)
  (hop:∀(K:Act→World→Prop) (Q:Exit→Act→World→Prop),(∀S:Ending→World→Prop,(∀v w',K (a.put (some d) v) w'→S (.returned v) w')→Calls P f args w S)→o.wp P a w K Q:=by(intro K Q hK;have q:=gA zl;simp only[GetAll]at q;go_simp;(with_reducible refine hK _ ?_);exact fun v w' h=>h)):wpList P ops Q (o::rest) a w:=by
 refine tail_opG hg fun K hK=>hop K _ fun S hS=>hc.mono fun e w' hR=>?_
 obtain⟨v,rfl,hh⟩:=h e w' hR;subst hF;refine hS v w' (hK _ _ (act_put v hs hd hlt _ ?_ ?_ hh))
 ·clear h hop hh;induction F with
  |nil=>trivial
  |cons p ps ih=>
   rw[List.filter_cons];split
   ·exact⟨zl.1,ih zl.2⟩
   ·exact ih zl.2
 ·simp
theorem ta{o:Oper}{rest:List Oper}{a:Act}{w:World}{d sz:Nat}{F F':List (Nat×Value)}{cs:Array Value}{T:TypeId}(hs:SzIs a sz)(hd:DfNil a)(zl:LiveAll F a)
  (h:∀g w',Blk w' g T cs→w.heap.size≤g→Below w.heap.size w w'→∀a',SzIs a' sz→DfNil a'→LiveAll ((d,.pointer (some ⟨g,0,none⟩))::F') a'→wpList P ops Q rest a' w')
  (hg:GuardOk ops o a:=by first|exact .inl rfl|exact .inr ⟨_,_,_,_,rfl,rfl,rfl,sl zl _⟩)(hdst:o.dst=some d:=by exact rfl)(hlt:d<sz:=by decide)
  (hF:F.filter (fun p=>p.1 != d)=F':=by simp[List.filter];rfl)
  (hop:∀(K:Act→World→Prop) (Q:Exit→Act→World→Prop),K (a.put (some d) (.pointer (some ⟨w.heap.size,0,none⟩))) (w.alloc (.cells cs T))→o.wp P a w K Q:=by(intro K Q hK;have q:=gA zl;simp only[GetAll]at q;go_simp;exact hK)):wpList P ops Q (o::rest) a w:=
 tk hs hd zl hop (h _ _ (Blk.new w _ _) (Nat.le_refl _) ((Below.refl _ _).alloc (Nat.le_refl _) _)) hg hdst hlt hF
theorem ts{o:Oper}{rest:List Oper}{a:Act}{w:World}{x:Addr}{u:Value}{sz:Nat}{F:List (Nat×Value)}(hs:SzIs a sz)(hd:DfNil a)(zl:LiveAll F a)
  (h:∀a',SzIs a' sz→DfNil a'→LiveAll F a'→wpList P ops Q rest a' (w.setCell x u))
  (hg:GuardOk ops o a:=by first|exact .inl rfl|exact .inr ⟨_,_,_,_,rfl,rfl,rfl,sl zl _⟩)
  (hop:∀(K:Act→World→Prop) (Q:Exit→Act→World→Prop),(∀v,K (a.put none v) (w.setCell x u))→o.wp P a w K Q:=by(intro K Q hK;have q:=gA zl;simp only[GetAll]at q;go_simp;exact hK undef)):wpList P ops Q (o::rest) a w:=
 tail_opG hg fun K hK=>hop K _ fun _=>hK _ _ (h _ hs hd zl)
theorem tz{o:Oper}{rest:List Oper}{a:Act}{w:World}{sz:Nat}{F:List (Nat×Value)}(R:World→Prop)(hs:SzIs a sz)(hd:DfNil a)(zl:LiveAll F a)
  (hop:∀(K:Act→World→Prop) (Q:Exit→Act→World→Prop),(∀v w',R w'→K (a.put none v) w')→o.wp P a w K Q)
  (h:∀w',R w'→∀a',SzIs a' sz→DfNil a'→LiveAll F a'→wpList P ops Q rest a' w')
  (hg:GuardOk ops o a:=by first|exact .inl rfl|exact .inr ⟨_,_,_,_,rfl,rfl,rfl,sl zl _⟩):wpList P ops Q (o::rest) a w:=
 tail_opG hg fun K hK=>hop K _ fun _ w' hR=>hK _ _ (h w' hR _ hs hd zl)
theorem ct{t:Nat}{x y:Code}{a:Act}{w:World}{F:List (Nat×Value)}(zl:LiveAll F a)(h:x.wp P Q a w)(e:F.lookup t=some (.bool true):=by exact rfl):(Code.cond (.tmp t) x y).wp P Q a w:=wp_cond_true (sl zl t e) h
theorem cf{t:Nat}{x y:Code}{a:Act}{w:World}{F:List (Nat×Value)}(zl:LiveAll F a)(h:y.wp P Q a w)(e:F.lookup t=some (.bool false):=by exact rfl):(Code.cond (.tmp t) x y).wp P Q a w:=wp_cond_false (sl zl t e) h
end
theorem eqG{t:Nat}{v:Value}{a:Act}{w:World}:(FItem.eq t v).holds a w↔a.tmps[t]?.getD undef=v:=by
 rw[FItem.eq_holds,Array.getD_eq_getD_getElem?]
theorem deG{its:List FItem}{a:Act}{w:World}{j:Nat}{js:List Nat}:DepsHold its a w (j::js)↔(match its[j]? with|some jt=>jt.holds a w|none=>True)∧DepsHold its a w js:=Iff.rfl
theorem deN{its:List FItem}{a:Act}{w:World}:DepsHold its a w []↔True:=Iff.rfl
theorem bup{W w:World}(hb:Below W.heap.size W w):∀p:Addr,p.block<W.heap.size→w.cell? p=W.cell? p:=fun _ h=>hb.cell h
section
variable{P:Program}{ops:Array Oper}{Q:Exit→Act→World→Prop}
def Bare(P:Program)(Q:Exit→Act→World→Prop)(F:List (Nat×Value))(sz:Nat)(W:World)(its:List FItem)(o:Oper)(it:FItem):Prop:=
 ∀a w,Below W.heap.size W w→SzIs a sz→LiveAll F a→DepsHold its a w (deps o)→∀K:Act→World→Prop,(∀v w',Below w.heap.size w w'→it.holds (a.put o.dst v) w'→K (a.put o.dst v) w')→o.wp P a w K Q
theorem sP{F:List (Nat×Value)}{sz:Nat}{W:World}{its:List FItem}{o:Oper}{it:FItem}(h:Bare P Q F sz W its o it)(hg:o.guard=none:=by exact rfl):StepOk P ops Q F sz W its o it:=fun a w hb hs hl hd K hK=>step_plain hg (h a w hb hs hl hd K hK)
theorem sY{F:List (Nat×Value)}{sz:Nat}{W:World}{its:List FItem}{o oj:Oper}{it:FItem}{j dj:Nat}{b:Bool}(h:Bare P Q F sz W its o it)(hg:o.guard=some (j,b):=by exact rfl)(hj:ops[j]?=some oj:=by exact rfl)(hdj:oj.dst=some dj:=by exact rfl)
  (hij:its[j]?=some (FItem.eq dj (.bool b)):=by exact rfl)(hcj:(deps o).contains j=true:=by kernel_rfl):StepOk P ops Q F sz W its o it:=fun a w hb hs hl hd K hK=>step_yes hg hj hdj (dep_get hd j hcj hij) (h a w hb hs hl hd K hK)
theorem sN{F:List (Nat×Value)}{sz:Nat}{W:World}{its:List FItem}{o oj:Oper}{j dj d:Nat}{b c:Bool}(hg:o.guard=some (j,b):=by exact rfl)(hj:ops[j]?=some oj:=by exact rfl)(hdj:oj.dst=some dj:=by exact rfl)
  (hij:its[j]?=some (FItem.eq dj (.bool c)):=by exact rfl)(hbc:c≠b:=by decide)(hcj:(deps o).contains j=true:=by kernel_rfl)(hdst:o.dst=some d:=by exact rfl)(hlt:d<sz:=by decide):StepOk P ops Q F sz W its o (FItem.eq d undef):=
 fun a w hb hs hl hd K hK=>step_no hg hj hdj (dep_get hd j hcj hij) hbc (hK _ _ (Below.refl _ _) (by rw[hdst];exact eq_put hs hlt))
theorem bo{F:List (Nat×Value)}{sz:Nat}{W:World}{its:List FItem}{o:Oper}{d:Nat}{v:Value}(hdst:o.dst=some d:=by exact rfl)(hlt:d<sz:=by decide)
  (h:∀(a:Act) (w:World),Below W.heap.size W w→LiveAll F a→DepsHold its a w (deps o)→∀(K:Act→World→Prop) (Q:Exit→Act→World→Prop),K (a.put (some d) v) w→o.wp P a w K Q:=by
   (intro a w hb zl hd K Q hK;have q:=gA zl;have q1:=bup hb;(try have q2:=bup (bz_then hB hb));simp only[GetAll]at q;simp[deps,Region.binds,deG,deN,eqG]at hd;go_simp;exact hK)):
  Bare P Q F sz W its o (FItem.eq d v):=fun a w hb hs hl hd K hK=>h a w hb hl hd K Q (by rw[hdst]at hK;exact hK _ _ (Below.refl _ _) (eq_put hs hlt))
theorem bc{F:List (Nat×Value)}{sz:Nat}{W:World}{its:List FItem}{o:Oper}{d:Nat}{v:Value}{f:FuncId}{args:Array Value}(hc:∀w,Below W.heap.size W w→Calls P f args w fun e w'=>e=.returned v∧Below w.heap.size w w')
  (hdst:o.dst=some d:=by exact rfl)(hlt:d<sz:=by decide)
  (h:∀(a:Act) (w:World),LiveAll F a→DepsHold its a w (deps o)→∀(K:Act→World→Prop) (Q:Exit→Act→World→Prop),(∀S:Ending→World→Prop,(∀v w',K (a.put (some d) v) w'→S (.returned v) w')→Calls P f args w S)→o.wp P a w K Q:=by
   (intro a w zl hd K Q hK;have q:=gA zl;simp only[GetAll]at q;simp[deps,Region.binds,deG,deN,eqG]at hd;go_simp;(with_reducible refine hK _ ?_);exact fun v w' h=>h)):
  Bare P Q F sz W its o (FItem.eq d v):=fun a w hb hs hl hd K hK=>h a w hl hd K Q fun S hS=>(hc w hb).mono fun e w' he=>by
 obtain⟨rfl,hb'⟩:=he;rw[hdst]at hK;exact hS _ _ (hK _ _ hb' (eq_put hs hlt))
theorem hAll:∀(G:List (Nat×Value)) {a:Act} {w:World},HoldAll a w (G.map fun p=>FItem.eq p.1 p.2)→∀F,LiveAll F a→LiveAll (G++F) a
 | [],_,_,_,_,h=>h
 |_::G,_,_,h,F,hl=>⟨FItem.eq_holds.1 h.1,hAll G h.2 F hl⟩
theorem fx{id:Nat}{draw:Bool}{F H:List (Nat×Value)}(G:List (Nat×Value))(m:Nat){a0:Act}{W:World}{sz:Nat}(hsz:SzIs a0 sz)(hdf:DfNil a0)(hl:LiveAll F a0)
  (hend:∀a w,Below W.heap.size W w→SzIs a sz→DfNil a→LiveAll H a→wpList P ops Q (ops.toList.drop m) a w)
  (hG:G++F=H:=by simp only[List.cons_append,List.nil_append];rfl)
  (hstep:StepsOk P ops Q F sz W (G.map fun p=>FItem.eq p.1 p.2) ops.toList (G.map fun p=>FItem.eq p.1 p.2):=by(simp only[List.map_cons,List.map_nil];(repeat' first|exact trivial|refine And.intro (sP bo) ?_|refine And.intro (sY bo) ?_|refine And.intro sN ?_)))
  (hm:P.follows .mixedOrders=true:=by kernel_rfl)(hck:flowOk2 ops m ((G.map fun p=>FItem.eq p.1 p.2).map FItem.reads)=true:=by kernel_rfl)(hdr:(!draw || drawOk2 ops m)=true:=by kernel_rfl)
  (hlk:liveOk2 ops m (F.map (·.1))=true:=by kernel_rfl):(Code.region id ops draw).wp P Q a0 W:=by
 subst hG;exact fl2 _ m hsz hdf hl hstep (fun a w hb hs hd hl hh=>hend a w hb hs hd (hAll G hh F hl)) hm hck hdr hlk
end
theorem en{P:Program}{f:FuncId}{fn:Func}{c:Code}{args:Array Value}{w:World}{R:Ending→World→Prop}{sz:Nat}{F:List (Nat×Value)}(hf:P.funcs[f]?=some fn)(hb:fn.body=some c)(hn:fn.ntmps=sz)
  (h:∀a:Act,SzIs a sz→DfNil a→LiveAll F a→c.wp P (bodyPost P fn R) a w)(hle:args.size≤sz:=by simp)
  (hF:((List.range args.size).zip args.toList)=F:=by simp[List.range,List.range.loop];rfl):Calls P f args w R:=by
 subst hF;refine enter_abs hf hb sz hn hle fun a hs hd ha=>h a hs hd ?_
 have key:∀n (l:List Nat) (k:List Value),(∀(i t:Nat) (v:Value),l[i]?=some t→k[i]?=some v→a.tmps.getD t undef=v)→l.length=n→LiveAll (l.zip k) a:=by
  intro n;induction n with
  |zero=>intro l k _ e;rw[List.length_eq_zero_iff.1 e];trivial
  |succ n ih=>
   intro l k hh e
   match l,k with
   | [],_=>trivial
   |_::_,[]=>trivial
   |t::l,v::k=>exact⟨hh 0 t v rfl rfl,ih l k (fun i t v h1 h2=>hh (i+1) t v h1 h2) (by simpa using e)⟩
 refine key _ _ _ (fun i t v h1 h2=>?_) rfl;have h3:=(List.getElem?_eq_some_iff.1 h1).1;rw[List.getElem?_eq_getElem h3]at h1;injection h1 with h1;rw[List.getElem_range]at h1;subst h1;exact ha _ v (by rw[← Array.getElem?_toList];exact h2)
def Go(_:Nat)(p:Prop):Prop:=p
theorem gE{n sz:Nat}{F:List (Nat×Value)}{a:Act}{X:Act→Prop}(h:∀a,SzIs a sz→DfNil a→LiveAll F a→X a)(hs:SzIs a sz)(hd:DfNil a)(zl:LiveAll F a):Go n (X a):=h a hs hd zl
theorem gM{n:Nat}{p p':Prop}(f:p→p')(h:Go (n+1) p):Go (n+1) p':=f h
section
variable{P:Program}{ops:Array Oper}{Q:Exit→Act→World→Prop}
theorem gt{n:Nat}{o:Oper}{rest:List Oper}{a:Act}{w:World}{d sz:Nat}{v:Value}{F F':List (Nat×Value)}(hs:SzIs a sz)(hd:DfNil a)(zl:LiveAll F a)
  (h:∀a',SzIs a' sz→DfNil a'→LiveAll ((d,v)::F') a'→Go n (wpList P ops Q rest a' w))
  (hg:GuardOk ops o a:=by first|exact .inl rfl|exact .inr ⟨_,_,_,_,rfl,rfl,rfl,sl zl _⟩)(hdst:o.dst=some d:=by exact rfl)(hlt:d<sz:=by decide)
  (hF:F.filter (fun p=>p.1 != d)=F':=by simp[List.filter];rfl)
  (hop:∀(K:Act→World→Prop) (Q:Exit→Act→World→Prop),K (a.put (some d) v) w→o.wp P a w K Q:=by(intro K Q hK;have q:=gA zl;simp only[GetAll]at q;go_simp;exact hK)):Go (n+1) (wpList P ops Q (o::rest) a w):=
 tx hs hd zl h hg hdst hlt hF hop
theorem gn{n:Nat}{o:Oper}{rest:List Oper}{a:Act}{w:World}{d sz:Nat}{F F':List (Nat×Value)}(hs:SzIs a sz)(hd:DfNil a)(zl:LiveAll F a)
  (h:∀a',SzIs a' sz→DfNil a'→LiveAll ((d,undef)::F') a'→Go n (wpList P ops Q rest a' w))
  (hg:∃(j:Nat) (b:Bool) (oj:Oper) (dj:Nat) (c:Bool),o.guard=some (j,b)∧ops[j]?=some oj∧oj.dst=some dj∧F.lookup dj=some (.bool c)∧c≠b:=by exact⟨_,_,_,_,_,rfl,rfl,rfl,rfl,by decide⟩)
  (hdst:o.dst=some d:=by exact rfl)(hlt:d<sz:=by decide)
  (hF:F.filter (fun p=>p.1 != d)=F':=by simp[List.filter];rfl):Go (n+1) (wpList P ops Q (o::rest) a w):=
 tn hs hd zl h hg hdst hlt hF
end
theorem wn(n:Nat){q p:Prop}(h:q)(e:q→Go n p:=by
 (intro hq;(repeat first|refine gM wp_seq ?_|refine gM wp_block ?_|refine gM wp_region_list ?_|(refine gt hs hd zl ?_;intro a hs hd zl)|(refine gn hs hd zl ?_;intro a hs hd zl)|refine gM (ct zl) ?_|refine gM (cf zl) ?_|refine gM wp_skip ?_);exact gE hq hs hd zl)):p:=e h
theorem wW{q p:Prop}(h:q)(e:q→Go 999 p:=by
 (intro hq;(repeat first|refine gM wp_seq ?_|refine gM wp_block ?_|refine gM wp_region_list ?_|(refine gt hs hd zl ?_;intro a hs hd zl)|(refine gn hs hd zl ?_;intro a hs hd zl)|refine gM (ct zl) ?_|refine gM (cf zl) ?_|refine gM wp_skip ?_);exact gE hq hs hd zl)):p:=e h
section
variable{P:Program}{Q:Exit→Act→World→Prop}
theorem bq{F:List (Nat×Value)}{sz:Nat}{W:World}{its:List FItem}{o:Oper}{d:Nat}{v:Value}(hdst:o.dst=some d:=by exact rfl)(hlt:d<sz:=by decide)
  (h:∀(a:Act) (w:World),Below W.heap.size W w→LiveAll F a→DepsHold its a w (deps o)→∀(K:Act→World→Prop) (Q:Exit→Act→World→Prop),K (a.put (some d) v) w→o.wp P a w K Q:=by
   (intro a w hb zl hd K Q hK;have q:=gA zl;simp only[GetAll]at q;simp[deps,Region.binds,deG,deN,eqG]at hd;(try replace c0:=cell_up hb c0);(try replace c1:=cell_up hb c1);(try replace c2:=cell_up hb c2);(try replace c3:=cell_up hb c3);(try replace c4:=cell_up hb c4);(try replace c5:=cell_up hb c5);(try replace c6:=cell_up hb c6);(try replace c7:=cell_up hb c7);(try replace c8:=cell_up hb c8);(try replace c9:=cell_up hb c9);(try replace c10:=cell_up hb c10);(try replace c11:=cell_up hb c11);(try replace c12:=cell_up hb c12);(try replace c13:=cell_up hb c13);(try replace c14:=cell_up hb c14);(try replace c15:=cell_up hb c15);(try replace c16:=cell_up hb c16);(try replace c17:=cell_up hb c17);(try replace a0:=cell_up hb a0);(try replace a1:=cell_up hb a1);(try replace cm0:=cell_up hb cm0);(try replace cm2:=cell_up hb cm2);(try replace ck0:=cell_up hb ck0);(try replace ck2:=cell_up hb ck2);(try replace cw:=cell_up hb cw);(try replace ck:=cell_up hb ck);(try replace d1:=cell_up hb d1);(try replace d4:=cell_up hb d4);(try replace g0:=cell_up hb g0);(try replace g1:=cell_up hb g1);(try replace g2:=cell_up hb g2);(try replace g3:=cell_up hb g3);(try replace g4:=cell_up hb g4);(try replace g5:=cell_up hb g5);(try replace g6:=cell_up hb g6);(try replace g7:=cell_up hb g7);(try replace c:=cell_up hb c);go_simp;exact hK)):
  Bare P Q F sz W its o (FItem.eq d v):=bo hdst hlt h
end
def add32(a b:Int):Int:=IntKind.u32.wrap (a+b)
def rr(n:Nat)(x:Int):Int:=bits .or .u32 (x / 2 ^ n) (IntKind.u32.wrap (x*2 ^ (32-n)))
def xor32(a b:Int):Int:=bits .xor .u32 a b
def and32(a b:Int):Int:=bits .and .u32 a b
def be4(b:List Int)(i:Nat):Int:=((b.getD i 0*256+b.getD (i+1) 0)*256+b.getD (i+2) 0)*256+b.getD (i+3) 0
def sg0(x:Int):Int:=xor32 (xor32 (rr 7 x) (rr 18 x)) (x / 8)
def sg1(x:Int):Int:=xor32 (xor32 (rr 17 x) (rr 19 x)) (x / 1024)
def Sg0(x:Int):Int:=xor32 (xor32 (rr 2 x) (rr 13 x)) (rr 22 x)
def Sg1(x:Int):Int:=xor32 (xor32 (rr 6 x) (rr 11 x)) (rr 25 x)
def wd(b:List Int)(p:Nat)(i:Nat):Int:=
 if h:i<16 then be4 b (p+4*i)
 else add32 (add32 (add32 (wd b p (i-16)) (sg0 (wd b p (i-15)))) (wd b p (i-7))) (sg1 (wd b p (i-2)))
 termination_by i
structure ShaSt where
 (a b c d e f g h:Int)
def tOne(k w:Int)(s:ShaSt):Int:=
 add32 (add32 (add32 (add32 s.h (Sg1 s.e)) (xor32 (and32 s.e s.f) (bits .andNot .u32 s.g s.e))) k) w
def tTwo(s:ShaSt):Int:=add32 (Sg0 s.a) (xor32 (xor32 (and32 s.a s.b) (and32 s.a s.c)) (and32 s.b s.c))
def shaRnd(k w:Int)(s:ShaSt):ShaSt:=
 {a:=add32 (tOne k w s) (tTwo s),b:=s.a,c:=s.b,d:=s.c,e:=add32 s.d (tOne k w s),f:=s.e,g:=s.f,h:=s.g}
def kTab:List Int:=[
 0x428a2f98,0x71374491,0xb5c0fbcf,0xe9b5dba5,0x3956c25b,0x59f111f1,0x923f82a4,0xab1c5ed5,
 0xd807aa98,0x12835b01,0x243185be,0x550c7dc3,0x72be5d74,0x80deb1fe,0x9bdc06a7,0xc19bf174,
 0xe49b69c1,0xefbe4786,0x0fc19dc6,0x240ca1cc,0x2de92c6f,0x4a7484aa,0x5cb0a9dc,0x76f988da,
 0x983e5152,0xa831c66d,0xb00327c8,0xbf597fc7,0xc6e00bf3,0xd5a79147,0x06ca6351,0x14292967,
 0x27b70a85,0x2e1b2138,0x4d2c6dfc,0x53380d13,0x650a7354,0x766a0abb,0x81c2c92e,0x92722c85,
 0xa2bfe8a1,0xa81a664b,0xc24b8b70,0xc76c51a3,0xd192e819,0xd6990624,0xf40e3585,0x106aa070,
 0x19a4c116,0x1e376c08,0x2748774c,0x34b0bcb5,0x391c0cb3,0x4ed8aa4a,0x5b9cca4f,0x682e6ff3,
 0x748f82ee,0x78a5636f,0x84c87814,0x8cc70208,0x90befffa,0xa4506ceb,0xbef9a3f7,0xc67178f2]
def shaRds(b:List Int)(p:Nat)(s:ShaSt):Nat→ShaSt
 |0=>s
 |i+1=>shaRnd (kTab.getD i 0) (wd b p i) (shaRds b p s i)
def addSt(s t:ShaSt):ShaSt:=
 {a:=add32 s.a t.a,b:=add32 s.b t.b,c:=add32 s.c t.c,d:=add32 s.d t.d,e:=add32 s.e t.e,f:=add32 s.f t.f,g:=add32 s.g t.g,h:=add32 s.h t.h}
def shaBlk(b:List Int)(p:Nat)(s:ShaSt):ShaSt:=addSt s (shaRds b p s 64)
def shaBlks(b:List Int):Nat→Nat→ShaSt→ShaSt
 |_,0,s=>s
 |p,n+1,s=>shaBlks b (p+64) n (shaBlk b p s)
def sha0:ShaSt:=⟨0x6a09e667,0xbb67ae85,0x3c6ef372,0xa54ff53a,0x510e527f,0x9b05688c,0x1f83d9ab,0x5be0cd19⟩
def be32(x:Int):List Int:=[x / 16777216,x / 65536 % 256,x / 256 % 256,x % 256]
def shaOut(s:ShaSt):List Int:=be32 s.a++be32 s.b++be32 s.c++be32 s.d++be32 s.e++be32 s.f++be32 s.g++be32 s.h
def shaZeros(n:Nat):Nat:=(119-n % 64) % 64
def be64(x:Nat):List Int:=[((x / 2^56 % 256:Nat):Int),((x / 2^48 % 256:Nat):Int),((x / 2^40 % 256:Nat):Int),((x / 2^32 % 256:Nat):Int),((x / 2^24 % 256:Nat):Int),((x / 2^16 % 256:Nat):Int),((x / 2^8 % 256:Nat):Int),((x % 256:Nat):Int)]
def shaTail(n:Nat):List Int:=0x80::(List.replicate (shaZeros n) 0++be64 (8*n))
def padded(m:List Int):List Int:=m++shaTail m.length
def sha(m:List Int):List Int:=shaOut (shaBlks (padded m) 0 ((padded m).length / 64) sha0)
def U32(x:Int):Prop:=0≤x∧x<4294967296
def U8(x:Int):Prop:=0≤x∧x<256
def Bytes(l:List Int):Prop:=∀x∈l,U8 x
theorem wrap_U32(x:Int):U32 (IntKind.u32.wrap x):=by rw[IntKind.wrap_u32];unfold U32;omega
theorem add32_U32(a b:Int):U32 (add32 a b):=wrap_U32 _
theorem bits_U32(o:BinOp)(a b:Int):U32 (bits o .u32 a b):=wrap_U32 _
theorem Bytes.get{l:List Int}(h:Bytes l)(i:Nat):U8 (l.getD i 0):=by
 rw[List.getD_eq_getElem?_getD];by_cases hi:i<l.length
 ·rw[List.getElem?_eq_getElem hi];exact h _ (List.getElem_mem hi)
 ·rw[List.getElem?_eq_none (by omega)];exact⟨by decide,by decide⟩
theorem be4_U32{b:List Int}(h:Bytes b)(i:Nat):U32 (be4 b i):=by
 have h0:=h.get i;have h1:=h.get (i+1);have h2:=h.get (i+2);have h3:=h.get (i+3);unfold be4 U32;unfold U8 at *;omega
theorem wd_U32{b:List Int}(h:Bytes b)(p i:Nat):U32 (wd b p i):=by
 rw[wd];split
 ·exact be4_U32 h _
 ·exact add32_U32 _ _
theorem wd_lo(b:List Int)(p i:Nat)(h:i<16):wd b p i=be4 b (p+4*i):=by rw[wd,dif_pos h]
theorem wd_hi(b:List Int)(p i:Nat)(h:16≤i):
  wd b p i=add32 (add32 (add32 (wd b p (i-16)) (sg0 (wd b p (i-15)))) (wd b p (i-7))) (sg1 (wd b p (i-2))):=by
 rw[wd,dif_neg (by omega)]
theorem add32_comm(a b:Int):add32 a b=add32 b a:=by unfold add32;rw[Int.add_comm]
theorem add32_assoc(a b c:Int):add32 (add32 a b) c=add32 a (add32 b c):=by
 unfold add32;simp only[IntKind.wrap_u32];omega
theorem or32_comm(a b:Int):bits .or .u32 a b=bits .or .u32 b a:=by
 unfold bits;simp only[BitVec.or_comm]
theorem sched_other(x a y c:Int):add32 (add32 (add32 c y) a) x=add32 (add32 (add32 x a) y) c:=by
 unfold add32;simp only[IntKind.wrap_u32];omega
theorem c_rot2(x:Int)(w:World):Calls Tryz.prog 124 #[.int .u32 x,.int .i64 (-2)] w fun e w'=>e=.returned (.int .u32 (rr 2 x))∧w=w':=by
 have e1:bits .and .u64 (IntKind.u64.wrap (-2)) 31=30:=by kernel_rfl
 go_enter Tryz.func124,Tryz.ntmps124
 go_wp2
 go_ret
 exact⟨by unfold rr;rw[or32_comm,IntKind.wrap_u32];rfl,rfl⟩
theorem c_rot6(x:Int)(w:World):Calls Tryz.prog 124 #[.int .u32 x,.int .i64 (-6)] w fun e w'=>e=.returned (.int .u32 (rr 6 x))∧w=w':=by
 have e1:bits .and .u64 (IntKind.u64.wrap (-6)) 31=26:=by kernel_rfl
 go_enter Tryz.func124,Tryz.ntmps124
 go_wp2
 go_ret
 exact⟨by unfold rr;rw[or32_comm,IntKind.wrap_u32];rfl,rfl⟩
theorem c_rot7(x:Int)(w:World):Calls Tryz.prog 124 #[.int .u32 x,.int .i64 (-7)] w fun e w'=>e=.returned (.int .u32 (rr 7 x))∧w=w':=by
 have e1:bits .and .u64 (IntKind.u64.wrap (-7)) 31=25:=by kernel_rfl
 go_enter Tryz.func124,Tryz.ntmps124
 go_wp2
 go_ret
 exact⟨by unfold rr;rw[or32_comm,IntKind.wrap_u32];rfl,rfl⟩
theorem c_rot11(x:Int)(w:World):Calls Tryz.prog 124 #[.int .u32 x,.int .i64 (-11)] w fun e w'=>e=.returned (.int .u32 (rr 11 x))∧w=w':=by
 have e1:bits .and .u64 (IntKind.u64.wrap (-11)) 31=21:=by kernel_rfl
 go_enter Tryz.func124,Tryz.ntmps124
 go_wp2
 go_ret
 exact⟨by unfold rr;rw[or32_comm,IntKind.wrap_u32];rfl,rfl⟩
theorem c_rot13(x:Int)(w:World):Calls Tryz.prog 124 #[.int .u32 x,.int .i64 (-13)] w fun e w'=>e=.returned (.int .u32 (rr 13 x))∧w=w':=by
 have e1:bits .and .u64 (IntKind.u64.wrap (-13)) 31=19:=by kernel_rfl
 go_enter Tryz.func124,Tryz.ntmps124
 go_wp2
 go_ret
 exact⟨by unfold rr;rw[or32_comm,IntKind.wrap_u32];rfl,rfl⟩
theorem c_rot17(x:Int)(w:World):Calls Tryz.prog 124 #[.int .u32 x,.int .i64 (-17)] w fun e w'=>e=.returned (.int .u32 (rr 17 x))∧w=w':=by
 have e1:bits .and .u64 (IntKind.u64.wrap (-17)) 31=15:=by kernel_rfl
 go_enter Tryz.func124,Tryz.ntmps124
 go_wp2
 go_ret
 exact⟨by unfold rr;rw[or32_comm,IntKind.wrap_u32];rfl,rfl⟩
theorem c_rot18(x:Int)(w:World):Calls Tryz.prog 124 #[.int .u32 x,.int .i64 (-18)] w fun e w'=>e=.returned (.int .u32 (rr 18 x))∧w=w':=by
 have e1:bits .and .u64 (IntKind.u64.wrap (-18)) 31=14:=by kernel_rfl
 go_enter Tryz.func124,Tryz.ntmps124
 go_wp2
 go_ret
 exact⟨by unfold rr;rw[or32_comm,IntKind.wrap_u32];rfl,rfl⟩
theorem c_rot19(x:Int)(w:World):Calls Tryz.prog 124 #[.int .u32 x,.int .i64 (-19)] w fun e w'=>e=.returned (.int .u32 (rr 19 x))∧w=w':=by
 have e1:bits .and .u64 (IntKind.u64.wrap (-19)) 31=13:=by kernel_rfl
 go_enter Tryz.func124,Tryz.ntmps124
 go_wp2
 go_ret
 exact⟨by unfold rr;rw[or32_comm,IntKind.wrap_u32];rfl,rfl⟩
theorem c_rot22(x:Int)(w:World):Calls Tryz.prog 124 #[.int .u32 x,.int .i64 (-22)] w fun e w'=>e=.returned (.int .u32 (rr 22 x))∧w=w':=by
 have e1:bits .and .u64 (IntKind.u64.wrap (-22)) 31=10:=by kernel_rfl
 go_enter Tryz.func124,Tryz.ntmps124
 go_wp2
 go_ret
 exact⟨by unfold rr;rw[or32_comm,IntKind.wrap_u32];rfl,rfl⟩
theorem c_rot25(x:Int)(w:World):Calls Tryz.prog 124 #[.int .u32 x,.int .i64 (-25)] w fun e w'=>e=.returned (.int .u32 (rr 25 x))∧w=w':=by
 have e1:bits .and .u64 (IntKind.u64.wrap (-25)) 31=7:=by kernel_rfl
 go_enter Tryz.func124,Tryz.ntmps124
 go_wp2
 go_ret
 exact⟨by unfold rr;rw[or32_comm,IntKind.wrap_u32];rfl,rfl⟩
def rotl(x k:Int):Int:=rr (-k).toNat x
def IsTurn(k:Int):Prop:=k= -2∨k= -6∨k= -7∨k= -11∨k= -13∨k= -17∨k= -18∨k= -19∨k= -22∨k= -25
theorem c_rot(x k:Int)(w:World)(hk:IsTurn k):Calls Tryz.prog 124 #[.int .u32 x,.int .i64 k] w fun e w'=>e=.returned (.int .u32 (rotl x k))∧w=w':=by
 rcases hk with rfl|rfl|rfl|rfl|rfl|rfl|rfl|rfl|rfl|rfl
 ·exact c_rot2 x w
 ·exact c_rot6 x w
 ·exact c_rot7 x w
 ·exact c_rot11 x w
 ·exact c_rot13 x w
 ·exact c_rot17 x w
 ·exact c_rot18 x w
 ·exact c_rot19 x w
 ·exact c_rot22 x w
 ·exact c_rot25 x w
theorem rotl_2(x:Int):rotl x (-2)=rr 2 x:=rfl
theorem rotl_6(x:Int):rotl x (-6)=rr 6 x:=rfl
theorem rotl_7(x:Int):rotl x (-7)=rr 7 x:=rfl
theorem rotl_11(x:Int):rotl x (-11)=rr 11 x:=rfl
theorem rotl_13(x:Int):rotl x (-13)=rr 13 x:=rfl
theorem rotl_17(x:Int):rotl x (-17)=rr 17 x:=rfl
theorem rotl_18(x:Int):rotl x (-18)=rr 18 x:=rfl
theorem rotl_19(x:Int):rotl x (-19)=rr 19 x:=rfl
theorem rotl_22(x:Int):rotl x (-22)=rr 22 x:=rfl
theorem rotl_25(x:Int):rotl x (-25)=rr 25 x:=rfl
def Is{α:Type}(a b:α):Prop:=a=b
theorem is_self{α:Type}(a:α):∃x,Is a x:=⟨a,Eq.refl a⟩
def Kept(p:Prop):Prop:=p
theorem Kept.out{p:Prop}(h:Kept p):p:=h
def Stop(p:Prop):Prop:=p
theorem stop{p:Prop}(h:Stop p):p:=h
theorem on_{p:Prop}(h:p):Stop p:=h
theorem Is.hid{p:Prop}(h:p):Kept p:=h
theorem Is.out{α:Type}{a b:α}(h:Is a b):a=b:=h
theorem gb_below{w w':World}(h:Below w.heap.size w w')(g:Option Nat):w.grownBy w' g:=⟨h.os,h.tape,h.output,h.size,fun k hk _=>h.block k hk⟩
theorem gb_refl(w:World)(g:Option Nat):w.grownBy w g:=gb_below (Below.refl _ _) g
theorem gb_set{w w':World}{g:Nat}(h:w.grownBy w' (some g))(o:Nat)(u:Value):w.grownBy (w'.setCell ⟨g,o,none⟩ u) (some g):=
 ⟨h.os,h.tape,h.output,by simpa [World.setCell]using h.size,fun k hk hn=>(Below.heap_setCell _ _ _ _ (fun e=>hn (by rw[e]))).trans (h.block k hk hn)⟩
theorem gb_drew{w w':World}{g:Option Nat}(h:w.grownBy w' g):w.grownBy w'.drew g:=⟨h.os,h.tape,h.output,h.size,h.block⟩
theorem gb_drewN{w w':World}{g:Option Nat}(h:w.grownBy w' g)(n:Nat):w.grownBy (w'.drewN n) g:=⟨h.os,h.tape,h.output,h.size,h.block⟩
theorem gb_trans{w w1 w2:World}{g:Option Nat}(h:w.grownBy w1 g)(k:w1.grownBy w2 g):w.grownBy w2 g:=
 ⟨k.os.trans h.os,k.tape.trans h.tape,k.output.trans h.output,Nat.le_trans h.size k.size,fun i hi hn=>(k.block i (Nat.lt_of_lt_of_le hi h.size) hn).trans (h.block i hi hn)⟩
theorem gb_then{w w1 w2:World}{g:Option Nat}(h:w.grownBy w1 g)(k:Below w1.heap.size w1 w2):w.grownBy w2 g:=gb_trans h (gb_below k g)
theorem gb_blk{w w':World}{g:Option Nat}{g':Nat}{t:TypeId}{cs:Array Value}(h:w.grownBy w' g)(hb:Blk w g' t cs)(hn:some g'≠g):Blk w' g' t cs:=(h.block g' hb.lt hn).trans hb
theorem gb_cell{w w':World}{g:Option Nat}(h:w.grownBy w' g){b o:Nat}(hb:b<w.heap.size)(hn:some b≠g):w'.cell? ⟨b,o,none⟩=w.cell? ⟨b,o,none⟩:=World.cell?_of_block (w:=w) (h.block b hb hn)
theorem u8_info:(Tryz.prog.info? 5).map (fun i=>(i.zero,i.size,i.bytes))=some (some (.int .u8 0),1,1):=by kernel_rfl
def OwnB(base:Nat)(w:World)(A:Option Addr)(c:Nat)(l:List Int):Prop:=w.ownsRow base 5 1 (.slice A l.length c) l.length (l.map (Value.int .u8))
def blkOf(A:Option Addr):Option Nat:=A.map (·.block)
theorem ownBlock_slice(A:Option Addr)(n c:Nat):(Value.slice A n c).ownBlock=blkOf A:=by cases A <;> rfl
section
variable{base:Nat}{w w':World}{A:Option Addr}{c:Nat}{l:List Int}
theorem OwnB.nil(base:Nat)(w:World):OwnB base w none 0 []:=World.ownsRow_nil w base _ 1
theorem OwnB.form(h:OwnB base w A c l):(A=none∧c=0∧l=[])∨∃g cur,A=some ⟨g,0,none⟩∧base≤g∧g<w.heap.size∧Blk w g 5 cur∧l.length≤c∧cur.size=c∧cur.toList.take l.length=l.map (Value.int .u8):=by
 rcases h.2 with⟨h1,h2⟩|⟨g,cap,cur,h1,h2,h3,h4,h5,h6,h7⟩
 ·left
  injection h1 with a b c;exact⟨a,c,List.eq_nil_of_length_eq_zero h2⟩
 ·right
  injection h1 with a b c;subst c;exact⟨g,cur,a,h2,(Array.getElem?_eq_some_iff.1 h3).1,h3,h4,by simpa using h6,by simpa using h7⟩
theorem OwnB.cap(h:OwnB base w A c l):l.length≤c:=by
 rcases h.form with⟨rfl,rfl,rfl⟩|⟨g,cur,rfl,_,_,_,h1,_⟩
 ·simp
 ·exact h1
theorem OwnB.bs(h:OwnB base w A c l):Bs w A l:=by
 rcases h.form with⟨rfl,rfl,rfl⟩|⟨g,cur,rfl,h1,h2,h3,h4,h5,h6⟩
 ·exact Bs.nil _ _
 ·intro i hi;refine⟨g,0,rfl,h2,?_⟩;rw[h3.cell,Nat.zero_add];have e:(cur.toList.take l.length)[i]?=(l.map (Value.int .u8))[i]?:=by rw[h6]
  rw[List.getElem?_take,if_pos hi,List.getElem?_map,List.getElem?_eq_getElem hi]at e;simp only[Array.getElem?_toList]at e;rw[e];simp[List.getD_eq_getElem?_getD,List.getElem?_eq_getElem hi]
theorem OwnB.blk_ge(h:OwnB base w A c l):∀k,blkOf A=some k→base≤k∧k<w.heap.size:=fun k hk=>World.ownsRow.lt h k (by rw[ownBlock_slice];exact hk)
theorem OwnB.kept{row:Option Nat}(h:OwnB base w A c l)(hg:w.grownBy w' row)(hn:blkOf A=none∨blkOf A≠row):OwnB base w' A c l:=World.ownsRow.kept h hg (by rw[ownBlock_slice];exact hn)
theorem OwnB.after(h:OwnB base w A c l)(hb:Below w.heap.size w w'):OwnB base w' A c l:=by
 cases hA:blkOf A with
 |none=>exact h.kept (gb_below hb none) (.inl hA)
 |some k=>exact h.kept (gb_below hb none) (.inr (by simp[hA]))
theorem OwnB.alloc(h:OwnB base w A c l)(o:Obj):OwnB base (w.alloc o) A c l:=h.after ((Below.refl _ _).alloc (Nat.le_refl _) _)
theorem OwnB.drew(h:OwnB base w A c l):OwnB base w.drew A c l:=h
theorem OwnB.drewN(h:OwnB base w A c l)(n:Nat):OwnB base (w.drewN n) A c l:=h
theorem OwnB.less{base':Nat}(h:OwnB base w A c l)(hb:base'≤base):OwnB base' w A c l:=by
 refine⟨h.1,?_⟩;rcases h.2 with h2|⟨g,cap,cur,hv,hg,r⟩
 ·exact .inl h2
 ·exact .inr ⟨g,cap,cur,hv,Nat.le_trans hb hg,r⟩
theorem OwnB.below(h:OwnB base w A c l)(hb:base≤w.heap.size)(hg:w.grownBy w' (blkOf A)):Below base w w':=
 (Below.refl base w).grown hg hb (fun k hk=>(h.blk_ge k hk).1)
end
theorem u8_cells(l:List Int):∀u∈l.map (Value.int .u8),u.oneCell'=true:=by
 intro u hu;simp only[List.mem_map]at hu;obtain⟨x,_,rfl⟩:=hu;rfl
theorem bs_cells{w:World}{ad:Addr}{l:List Int}(h:Bs w (some ad) l):∀j u,(l.map (Value.int .u8))[j]?=some u→w.cell? (ad.add j)=some u:=by
 intro j u hu;rw[List.getElem?_map]at hu
 cases hl:l[j]? with
 |none=>rw[hl]at hu;simp at hu
 |some x=>
  rw[hl]at hu;have hj:j<l.length:=(List.getElem?_eq_some_iff.1 hl).1;obtain⟨b,o,e,_,hc⟩:=h j hj;injection e with e;subst e;have hadd:(⟨b,o,none⟩:Addr).add j=⟨b,o+j,none⟩:=by unfold Addr.add;split <;> simp_all
  rw[hadd,hc,List.getD_eq_getElem?_getD,hl];simpa using hu
theorem run_append_of_nil{P:Program}(w:World)(base:Nat)(t ty e:TypeId)(i:TypeInfo)(size:Nat)(ht:P.underlying t=some (.slice e))(hi:P.info? e=some i)
  (v:Value)(n:Nat)(xs:List Value)(hown:w.ownsRow base e size v n xs)(c:Nat):(Builtin.append_ #[t,t] ty #[v,.slice none 0 c]).run P w=.ok v w:=by
 rcases hown.2 with⟨rfl,rfl⟩|⟨g,cap,cur,rfl,_,_,hnc,_⟩
 ·simp[Builtin.append_,run_underlying ht,sizeOf,typeInfo,hi,Builtin.lenOf,Builtin.firstCells]
 ·simp[Builtin.append_,run_underlying ht,sizeOf,typeInfo,hi,Builtin.lenOf,Builtin.firstCells,hnc,storeCells]
theorem run_app_u8(w:World)(ty:TypeId){base:Nat}{A A2:Option Addr}{c c2:Nat}{l l2:List Int}(hown:OwnB base w A c l)(hr:Bs w A2 l2)(hlen:l.length+l2.length≤100000000000000)(hbase:base≤w.heap.size):
  ∃A' c' w',(Builtin.append_ #[32,32] ty #[.slice A l.length c,.slice A2 l2.length c2]).run Tryz.prog w=.ok (.slice A' (l++l2).length c') w'∧OwnB base w' A' c' (l++l2)∧w.grownBy w' (blkOf A)∧(blkOf A'=blkOf A∨blkOf A'=some w.heap.size):=by
 obtain⟨i0,hi0,hz0,hz1,hz2⟩:=info_parts u8_info;rcases A2 with _|ad
 ·have:l2=[]:=by
   rcases l2 with _|⟨x,l2⟩
   ·rfl
   ·obtain⟨b,o,e,_⟩:=hr 0 (by simp)
    cases e
  subst this;refine⟨A,c,w,?_,?_,gb_refl _ _,.inl rfl⟩
  ·simpa using run_append_of_nil (P:=Tryz.prog) w base 32 ty 5 i0 1 Tryz.underlying32 hi0 _ _ _ hown c2
  ·simpa using hown
 ·obtain⟨v',w',hrun,h2,h3,_,h5⟩:=run_append_own_at (P:=Tryz.prog) w base 32 ty 5 i0 (.int .u8 0) 1 1 Tryz.underlying32 hi0 hz0 hz1 hz2 rfl (by decide) _ _ _ hown ad l2.length c2 (l2.map (Value.int .u8)) (by simp)
   (bs_cells hr) (u8_cells _) (by unfold maxLen;omega) (by omega) hbase
  rw[ownBlock_slice]at h3 h5;have hv:∃A' c',v'=.slice A' (l++l2).length c':=by
   rcases h2.2 with⟨h,h0⟩|⟨g,cap,cur,h,_⟩
   ·exact⟨none,0,by rw[h,List.length_append,h0]⟩
   ·exact⟨_,cap,by rw[h,List.length_append]⟩
  obtain⟨A',c',rfl⟩:=hv;rw[ownBlock_slice]at h5;refine⟨A',c',w',hrun,?_,h3,h5⟩;unfold OwnB;simpa using h2
section
variable{ops:Array Oper}{rest:List Oper}{o:Oper}{a:Act}{w:World}{Q:Exit→Act→World→Prop}
theorem app_u8(hgd:o.guard=none)(s x:Operand)(ho:o.op=.call {callee:=.builtin .append,args:=#[s,x],argTypes:=#[32,32]})
  {base:Nat}{A A2:Option Addr}{c c2:Nat}{l l2:List Int}(hs:a.eval s=.slice A l.length c)(hx:a.eval x=.slice A2 l2.length c2)(hown:OwnB base w A c l)(hr:Bs w A2 l2)(hlen:l.length+l2.length≤100000000000000)(hbase:base≤w.heap.size)
  (h:∀(l':List Int) (A':Option Addr) (c':Nat) (w':World),Is l' (l++l2)→l'.length≤l.length+l2.length→OwnB base w' A' c' l'→Below base w w'→w.grownBy w' (blkOf A)→(blkOf A'=blkOf A∨blkOf A'=some w.heap.size)→wpList Tryz.prog ops Q rest (a.put o.dst (.slice A' l'.length c')) w'):wpList Tryz.prog ops Q (o::rest) a w:=by
 refine wpList_plain hgd fun K hK=>?_
 obtain⟨A',c',w',hrun,h2,h3,h4⟩:=run_app_u8 w o.type (c2:=c2) hown hr hlen hbase;unfold Oper.wp execOp;simp only[ho,resolve,invoke,builtin,Sem.run_bind,Sem.run_pure,Result.andThen_ok,List.map_toArray,List.map_cons,List.map_nil,hs,hx,hrun];exact hK _ _ (h _ A' c' w' rfl (by simp) h2 (hown.below hbase h3) h3 h4)
end
theorem bs_one(w:World)(t:TypeId)(x:Int):Bs (w.alloc (.cells #[.int .u8 x] t)) (some ⟨w.heap.size,0,none⟩) [x]:=by
 intro i hi;obtain rfl:i=0:=by simpa using hi
 exact⟨w.heap.size,0,rfl,by simp,by rw[(Blk.new w t _).cell];rfl⟩
def OutB(w:World)(l:List Int)(e:Ending)(w':World):Prop:=∃l' A c,Is l' l∧e=.returned (.slice A l'.length c)∧OwnB w.heap.size w' A c l'∧Below w.heap.size w w'
theorem OutB.mk'{w w':World}{l l':List Int}{A:Option Addr}{c:Nat}(hl:l'=l)(h:OwnB w.heap.size w' A c l')(hb:Below w.heap.size w w'):OutB w l (.returned (.slice A l'.length c)) w':=by
 exact⟨l',A,c,hl,rfl,h,hb⟩
theorem or_mul'(a b i m:Nat)(hm:m=2 ^ i)(h:a<m):(b*m) ||| a=b*m+a:=by
 subst hm;rw[← Nat.shiftLeft_eq,Nat.shiftLeft_add_eq_or_of_lt h]
theorem or_be4(a b c d:Int)(ha:U8 a)(hb:U8 b)(hc:U8 c)(hd:U8 d):
  bits .or .u32 (bits .or .u32 (bits .or .u32 (a % 4294967296*16777216 % 4294967296) (b % 4294967296*65536 % 4294967296)) (c % 4294967296*256 % 4294967296)) (d % 4294967296)=((a*256+b)*256+c)*256+d:=by
 unfold U8 at *;obtain⟨n0,rfl⟩:=Int.eq_ofNat_of_zero_le ha.1;obtain⟨n1,rfl⟩:=Int.eq_ofNat_of_zero_le hb.1;obtain⟨n2,rfl⟩:=Int.eq_ofNat_of_zero_le hc.1;obtain⟨n3,rfl⟩:=Int.eq_ofNat_of_zero_le hd.1;have e0:((n0:Int) % 4294967296*16777216 % 4294967296)=((n0*16777216:Nat):Int):=by omega
 have e1:((n1:Int) % 4294967296*65536 % 4294967296)=((n1*65536:Nat):Int):=by omega
 have e2:((n2:Int) % 4294967296*256 % 4294967296)=((n2*256:Nat):Int):=by omega
 have e3:((n3:Int) % 4294967296)=((n3:Nat):Int):=by omega
 have f1:(n0*16777216) ||| (n1*65536)=(n0*256+n1)*65536:=by rw[or_mul' (n1*65536) n0 24 16777216 (by decide) (by omega)];omega
 have f2:((n0*256+n1)*65536) ||| (n2*256)=((n0*256+n1)*256+n2)*256:=by rw[or_mul' (n2*256) _ 16 65536 (by decide) (by omega)];omega
 have f3:(((n0*256+n1)*256+n2)*256) ||| n3=((n0*256+n1)*256+n2)*256+n3:=or_mul' n3 _ 8 256 (by decide) (by omega);rw[e0,e1,e2,e3,u32_or_nat _ _ (by omega) (by omega),f1,u32_or_nat _ _ (by omega) (by omega),f2,u32_or_nat _ _ (by omega) (by omega),f3];omega
def Sched(w:World)(B:Nat)(t:TypeId)(l:List Int)(p k:Nat):Prop:=
 ∃ws:Array Value,Blk w B t ws∧ws.size=64∧∀j,j<k→ws[j]?=some (.int .u32 (wd l p j))
theorem sched_put{w wr:World}{B0 B p k:Nat}{t:TypeId}{l:List Int}{ws:Array Value}{V:Int}(hB:Below B0 w wr)(hBB:B0≤B)(hws:Blk wr B t ws)(h64:ws.size=64)
  (hsc:∀j,j<k→ws[j]?=some (.int .u32 (wd l p j)))(hk:k<64)(hV:V=wd l p k):
  Below B0 w ((wr.setCell ⟨B,k,none⟩ (.int .u32 V)).drew)∧Sched ((wr.setCell ⟨B,k,none⟩ (.int .u32 V)).drew) B t l p (k+1)∧((wr.setCell ⟨B,k,none⟩ (.int .u32 V)).drew).cell? ⟨B,k,none⟩=some (.int .u32 (wd l p k)):=by
 subst hV;have h1:=(hws.set_ k (.int .u32 (wd l p k))).drew;refine⟨(hB.setCell (p:=⟨B,k,none⟩) hBB _).drew,⟨_,h1,by simpa using h64,fun j hj=>?_⟩,?_⟩
 ·rcases Nat.lt_or_ge j k with h|h
  ·rw[Array.getElem?_setIfInBounds_ne (by omega)];exact hsc j h
  ·obtain rfl:j=k:=by omega
   rw[Array.getElem?_setIfInBounds_self_of_lt (by omega)]
 ·rw[h1.cell,Array.getElem?_setIfInBounds_self_of_lt (by omega)]
theorem wd_prog(l:List Int)(p k:Nat)(h:16≤k):(sg1 (wd l p (k-2))+wd l p (k-7)+sg0 (wd l p (k-15))+wd l p (k-16)) % 4294967296=wd l p k:=by
 rw[wd_hi l p k h];unfold add32;simp only[IntKind.wrap_u32];omega
theorem wd_prog'(l:List Int)(p k:Nat)(h:16≤k){W2 W7 W15 W16:Int}(h2:Is (wd l p (k-2)) W2)(h7:Is (wd l p (k-7)) W7)(h15:Is (wd l p (k-15)) W15)(h16:Is (wd l p (k-16)) W16):
  IntKind.u32.wrap (IntKind.u32.wrap (IntKind.u32.wrap (sg1 W2+W7)+sg0 W15)+W16)=wd l p k:=by
 rw[← h2.out,← h7.out,← h15.out,← h16.out,← wd_prog l p k h];simp only[IntKind.wrap_u32];omega
theorem Sched.drewN{w:World}{B:Nat}{t:TypeId}{l:List Int}{p k:Nat}(h:Sched w B t l p k)(n:Nat):Sched (w.drewN n) B t l p k:=by
 obtain⟨ws,h1,h2,h3⟩:=h;exact⟨ws,h1.drewN n,h2,h3⟩
theorem Sched.zero{w:World}{B:Nat}{t:TypeId}{l:List Int}{p k:Nat}(h:Sched w B t l p k)(p':Nat):Sched w B t l p' 0:=by
 obtain⟨ws,h1,h2,_⟩:=h;exact⟨ws,h1,h2,fun j hj=>absurd hj (Nat.not_lt_zero j)⟩
theorem ofInt_wrap32(b:BitVec 32):BitVec.ofInt 32 (IntKind.u32.wrap ((b.toNat:Nat):Int))=b:=by
 rw[IntKind.wrap_u32];apply BitVec.eq_of_toNat_eq;have:=b.isLt;rw[BitVec.toNat_ofInt];omega
theorem andNot_prog(e g:Int):bits .and .u32 (bits .xor .u32 (if IntKind.u32.signed=true then -1 else IntKind.u32.max) e) g=bits .andNot .u32 g e:=by
 have h1:BitVec.ofInt 32 (if IntKind.u32.signed=true then -1 else IntKind.u32.max)=BitVec.allOnes 32:=by decide
 show IntKind.u32.wrap (((BitVec.ofInt 32 (IntKind.u32.wrap (((BitVec.ofInt 32 (if IntKind.u32.signed=true then -1 else IntKind.u32.max) ^^^ BitVec.ofInt 32 e).toNat:Nat):Int)) &&& BitVec.ofInt 32 g).toNat:Nat):Int)=IntKind.u32.wrap (((BitVec.ofInt 32 g &&& ~~~BitVec.ofInt 32 e).toNat:Nat):Int)
 rw[ofInt_wrap32,h1,BitVec.allOnes_xor,BitVec.and_comm]
theorem add32_eq(a b:Int):(a+b) % 4294967296=add32 a b:=(IntKind.wrap_u32 _).symm
theorem tOne_prog(K W:Int)(R:ShaSt):(R.h+bits .xor .u32 (bits .xor .u32 (rr 6 R.e) (rr 11 R.e)) (rr 25 R.e)+bits .xor .u32 (bits .and .u32 R.e R.f) (bits .and .u32 (bits .xor .u32 (if IntKind.u32.signed=true then -1 else IntKind.u32.max) R.e) R.g)+K+W) % 4294967296=tOne K W R:=by
 rw[andNot_prog];unfold tOne Sg1 xor32 and32;generalize bits BinOp.xor IntKind.u32 (bits BinOp.xor IntKind.u32 (rr 6 R.e) (rr 11 R.e)) (rr 25 R.e)=x;generalize bits BinOp.xor IntKind.u32 (bits BinOp.and IntKind.u32 R.e R.f) _=y;unfold add32;simp only[IntKind.wrap_u32];omega
def dig(s:ShaSt)(x:Array Value)(nx ln:Int):Array Value:=
 (.int .u32 s.a::.int .u32 s.b::.int .u32 s.c::.int .u32 s.d::.int .u32 s.e::.int .u32 s.f::.int .u32 s.g::.int .u32 s.h::(x.toList++[.int .i64 nx,.int .u64 ln,.bool false])).toArray
theorem dig_put(s S:ShaSt)(x:Array Value)(nx ln:Int):
  ((((((((dig s x nx ln).setIfInBounds 0 (.int .u32 S.a)).setIfInBounds 1 (.int .u32 S.b)).setIfInBounds 2 (.int .u32 S.c)).setIfInBounds 3 (.int .u32 S.d)).setIfInBounds 4 (.int .u32 S.e)).setIfInBounds 5 (.int .u32 S.f)).setIfInBounds 6 (.int .u32 S.g)).setIfInBounds 7 (.int .u32 S.h)=dig S x nx ln:=by
 simp[dig]
theorem be4_prog(l:List Int)(p k:Nat)(hl8:Bytes l)(hk:k<16):
  bits .or .u32 (bits .or .u32 (bits .or .u32 (IntKind.u32.wrap (IntKind.u32.wrap (l[p+k*4]?.getD 0)*16777216)) (IntKind.u32.wrap (IntKind.u32.wrap (l[p+(k*4+1)]?.getD 0)*65536))) (IntKind.u32.wrap (IntKind.u32.wrap (l[p+(k*4+2)]?.getD 0)*256))) (IntKind.u32.wrap (l[p+(k*4+3)]?.getD 0))=wd l p k:=by
 simp only[IntKind.wrap_u32,← List.getD_eq_getElem?_getD];rw[or_be4 _ _ _ _ (hl8.get _) (hl8.get _) (hl8.get _) (hl8.get _),wd_lo _ _ _ hk,be4];simp only[Nat.mul_comm 4 k,Nat.add_assoc]
theorem shaBlks_snoc(b:List Int)(p n:Nat)(s:ShaSt):shaBlks b p (n+1) s=shaBlk b (p+64*n) (shaBlks b p n s):=by
 induction n generalizing p s with
 |zero=>simp[shaBlks]
 |succ n ih=>
  rw[shaBlks,ih (p+64) (shaBlk b p s),shaBlks]
  congr 1
  omega
def ShaSt.nth(s:ShaSt):Nat→Int
 |0=>s.a|1=>s.b|2=>s.c|3=>s.d|4=>s.e|5=>s.f|6=>s.g|_=>s.h
def putH(S:ShaSt)(cs:Array Value):Nat→Array Value
 |0=>cs
 |k+1=>(putH S cs k).setIfInBounds k (.int .u32 (S.nth k))
theorem putH_size(S:ShaSt)(cs:Array Value)(k:Nat):(putH S cs k).size=cs.size:=by
 induction k with
 |zero=>rfl
 |succ k ih=>rw[putH,Array.size_setIfInBounds,ih]
theorem putH_dig(s S:ShaSt)(x:Array Value)(nx ln:Int):putH S (dig s x nx ln) 8=dig S x nx ln:=dig_put s S x nx ln
theorem dig_size(s:ShaSt)(x:Array Value)(nx ln:Int):(dig s x nx ln).size=x.size+11:=by simp[dig]
def BytesAt(w:World)(b o:Nat)(l:List Int)(p n:Nat):Prop:=∀j,j<n→w.cell? ⟨b,o+j,none⟩=some (.int .u8 (l.getD (p+j) 0))
def KTab(w:World)(g:Nat):Prop:=∀i,i<64→w.cell? ⟨g,i,none⟩=some (.int .u32 (kTab.getD i 0))
def GB(w0 w:World)(g:Nat):Prop:=w0.grownBy w (some g)
section
variable{w w' w0:World}
theorem BytesAt.after{b o p n:Nat}{l:List Int}(h:BytesAt w b o l p n)(hb:Below w.heap.size w w'):BytesAt w' b o l p n:=fun j hj=>(hb.cell (World.block_lt_of_cell? w _ (h j hj))).trans (h j hj)
theorem BytesAt.gb{b o p n g:Nat}{l:List Int}(h:BytesAt w b o l p n)(hb:w.grownBy w' (some g))(hn:b≠g):BytesAt w' b o l p n:=fun j hj=>(gb_cell hb (World.block_lt_of_cell? w _ (h j hj)) (by simpa using hn)).trans (h j hj)
theorem BytesAt.gb0{b o p n g:Nat}{l:List Int}(h:BytesAt w b o l p n)(hb:w.grownBy w' (some g))(hn:0<n→b≠g):BytesAt w' b o l p n:=fun j hj=>(gb_cell hb (World.block_lt_of_cell? w _ (h j hj)) (by have:=hn (by omega);simpa using this)).trans (h j hj)
theorem BytesAt.sub{b o p n m q:Nat}{l:List Int}(h:BytesAt w b o l p n)(hm:q+m≤n):BytesAt w b (o+q) l (p+q) m:=fun j hj=>by
 have:=h (q+j) (by omega);rw[Nat.add_assoc,Nat.add_assoc];exact this
theorem KTab.after{g:Nat}(h:KTab w g)(hb:Below w.heap.size w w'):KTab w' g:=fun j hj=>(hb.cell (World.block_lt_of_cell? w _ (h j hj))).trans (h j hj)
theorem KTab.gb{g' g:Nat}(h:KTab w g')(hb:w.grownBy w' (some g))(hn:g'≠g):KTab w' g':=fun j hj=>(gb_cell hb (World.block_lt_of_cell? w _ (h j hj)) (by simpa using hn)).trans (h j hj)
theorem GB.after{g:Nat}(h:GB w0 w g)(hb:Below w.heap.size w w'):GB w0 w' g:=gb_then h hb
theorem GB.below{g:Nat}(h:GB w0 w g)(hg:w0.heap.size≤g):Below w0.heap.size w0 w:=⟨h.os,h.tape,h.output,h.size,fun k hk=>h.block k hk (fun e=>by injection e;omega)⟩
theorem GB.refl(w:World)(g:Nat):GB w w g:=gb_refl w _
theorem GB.trans{w1:World}{g:Nat}(h:GB w0 w g)(k:GB w w1 g):GB w0 w1 g:=gb_trans h k
theorem GB.set{g:Nat}(h:GB w0 w g)(o:Nat)(u:Value):GB w0 (w.setCell ⟨g,o,none⟩ u) g:=gb_set h o u
theorem GB.below2{w1:World}{g:Nat}(hb:Below w0.heap.size w0 w)(h:GB w w1 g)(hg:w0.heap.size≤g):Below w0.heap.size w0 w1:=
 hb.trans ⟨h.os,h.tape,h.output,h.size,fun k hk=>h.block k (Nat.lt_of_lt_of_le hk hb.size) (fun e=>by injection e;omega)⟩
theorem Sched.after{B:Nat}{t:TypeId}{l:List Int}{p k:Nat}(h:Sched w B t l p k)(hb:Below w.heap.size w w'):Sched w' B t l p k:=by
 obtain⟨ws,h1,h2,h3⟩:=h;exact⟨ws,h1.after hb,h2,h3⟩
theorem Sched.cell{B:Nat}{t:TypeId}{l:List Int}{p k:Nat}(h:Sched w B t l p k){j:Nat}(hj:j<k):w.cell? ⟨B,j,none⟩=some (.int .u32 (wd l p j)):=by
 obtain⟨ws,h1,h2,h3⟩:=h;rw[h1.cell];exact h3 j hj
theorem Sched.there{B:Nat}{t:TypeId}{l:List Int}{p k:Nat}(h:Sched w B t l p k){j:Nat}(hj:j<64):∃v,w.cell? ⟨B,j,none⟩=some v:=by
 obtain⟨ws,h1,h2,_⟩:=h;exact⟨_,(h1.cell j).trans (Array.getElem?_eq_getElem (by omega))⟩
theorem Sched.free{B:Nat}{t:TypeId}{l:List Int}{p k:Nat}(h:Sched w B t l p k)(j:Nat):w.frozen? ⟨B,j,none⟩=false:=by
 obtain⟨ws,h1,_⟩:=h;exact h1.free j
theorem Sched.put{B:Nat}{t:TypeId}{l:List Int}{p k:Nat}{V:Int}(h:Sched w B t l p k)(hk:k<64)(hV:V=wd l p k):Sched (w.setCell ⟨B,k,none⟩ (.int .u32 V)) B t l p (k+1):=by
 subst hV;obtain⟨ws,h1,h64,hsc⟩:=h;refine⟨_,h1.set_ k (.int .u32 (wd l p k)),by simpa using h64,fun j hj=>?_⟩;rcases Nat.lt_or_ge j k with h|h
 ·rw[Array.getElem?_setIfInBounds_ne (by omega)];exact hsc j h
 ·obtain rfl:j=k:=by omega
  rw[Array.getElem?_setIfInBounds_self_of_lt (by omega)]
end
end Go.Proofs.YtjhnnjhaklohhaaGreatDoor
