/- FnTokensSpaced (part 0): joined texts of this seat: WWords, WLast, WTab, WFour, WQPut, WApart, WArr, WZeros, WFoot, WKept, WShare, WN, WFootNe, WAt, WEqStruct, WRepsOne, WInv, WInvWords, WGuard, WNEv, WMore. -/
import Derived.Below
import Derived.Deep.Draws
import Derived.Deep.AppendLies
import Derived.Maps.AppendAt
import Derived.OwnWalk
import Derived.Laws.BytesArg
import Derived.Laws.MakeOwn
import Derived.Laws.OwnMore
import Derived.Deep.OwnRows
import Derived.Tactics
import Derived.Lib.ConvBytes
import Derived.Laws.Slices
import Derived.WalkKit
import Derived.KernelRfl
import Derived.RowKit3
import Derived.Deep.LoopGhost
import Derived.Deep.QuietTactic
import Derived.BigQuiet
import Derived.WideLaws
import Derived.Deep.DeepCutAuto
import Derived.Deep.CutBlock
import Derived.Deep.RegionHeld3
import Derived.Laws.Rows
import Derived.Lib.AppendStr
import Derived.ArgAppend
import Derived.Laws.IdiomCopy
import Derived.RowKit
import Derived.OrdersHeld
import Derived.Laws.BitsLemmas
import Derived.Laws.StructEq
set_option linter.unusedVariables false
set_option linter.unusedSimpArgs false
namespace Go.Proofs.YtoimaaonloibfaaGreatDoor.W1
open Go.RowKit
theorem bR(B:Nat)(w:World):Below B w w:= .refl B w
structure Aside0(p:Prop):Prop where mk::(out:p)
structure Drawn0(w w':World):Prop where mk::(out:∃n,w'=w.drewN n)
theorem Drawn0.refl(w:World):Drawn0 w w:=⟨⟨0,rfl⟩⟩
theorem Drawn0.step{w w':World}(h:Drawn0 w w')(n:Nat):Drawn0 w (w'.drewN n):=by
 obtain⟨m,rfl⟩:=h;exact⟨⟨m+n,World.drewN_drewN ..⟩⟩
def rd(xs:List Int)(i:Int):Int:=xs.getD i.toNat 0
def bt(s:ByteArray)(i:Int):Int:=if h:i.toNat<s.size then((s[i.toNat]'h).toNat:Int) else 0
theorem bt_at(s:ByteArray)(i:Int):∀h:i.toNat<s.size,((s[i.toNat]'h).toNat:Int)=bt s i:=fun h=>by simp[bt,h]
theorem bt_range(s:ByteArray)(i:Int):0<=bt s i/\bt s i<=255:=by
 unfold bt
 split
 ·rename_i h
  have:=(s[i.toNat]'h).toNat_lt
  omega
 ·omega
def nums(k:IntKind)(xs:List Int):List Value:=xs.map fun x=> .int k x
theorem nums_append(k:IntKind)(xs ys:List Int):nums k (xs++ys)=nums k xs++nums k ys:=by simp[nums]
theorem bA{w W:World}(h:Below w.heap.size w W)(o:Obj):Below w.heap.size w (W.alloc o):=h.alloc h.size o
theorem below_drew{B:Nat}{w W:World}(h:Below B w W):Below B w W.drew:=⟨h.os,h.tape,h.output,h.size,h.block⟩
theorem pD{B:Nat}{w W:World}(h:Below B w W)(n:Nat):Below B w (W.drewN n):=⟨h.os,h.tape,h.output,h.size,h.block⟩
theorem below_then{B:Nat}{w w1 w2:World}(h:Below B w w1)(hB:B<=w1.heap.size)(k:Below w1.heap.size w1 w2):Below B w w2:=
 h.trans ⟨k.os,k.tape,k.output,k.size,fun i hi=>k.block i (Nat.lt_of_lt_of_le hi hB)⟩
theorem pw_below_grown{B:Nat}{w w1:World}(h:Below B w w1)(row:Option Nat)(hB:B<=w1.heap.size){w2:World}(hg:w1.grownBy w2 row)(hr:∀k,row=some k->B<=k):Below B w w2:=h.grown hg hB hr
theorem pB{w w1:World}(h:Below w.heap.size w w1){a:Addr}{v:Value}(hc:w.cell? a=some v):w1.cell? a=some v:=(h.cell (World.block_lt_of_cell? w a hc)).trans hc
theorem own_nil(W:World)(base:Nat)(e:TypeId)(size:Nat):W.ownsRow base e size (.slice none 0 0) 0 []:=⟨by simp,.inl ⟨rfl,rfl⟩⟩
theorem own_base{w:World}{base:Nat}{e:TypeId}{size n:Nat}{v:Value}{xs:List Value}(h:w.ownsRow base e size v n xs)(k:Nat)(hk:v.ownBlock=some k):base<=k:=by
 rcases h.2 with⟨rfl,_⟩|⟨g,cap,cur,rfl,hb,_⟩
 ·simp[Value.ownBlock] at hk
 ·have:g=k:=by simpa[Value.ownBlock] using hk
  omega
theorem own_lt{w:World}{base:Nat}{e:TypeId}{size n:Nat}{v:Value}{xs:List Value}(h:w.ownsRow base e size v n xs)(k:Nat)(hk:v.ownBlock=some k):k<w.heap.size:=by
 rcases h.2 with⟨rfl,_⟩|⟨g,cap,cur,rfl,hb,hh,_⟩
 ·simp[Value.ownBlock] at hk
 ·have:g=k:=by simpa[Value.ownBlock] using hk
  subst this;exact(Array.getElem?_eq_some_iff.1 hh).1
theorem own_string{P:Program}{w:World}{base n:Nat}{e' src dst e:TypeId}{v:Value}{xs:List Int}(hs:P.underlying src=some (.slice e))(he:P.underlying e=some (.int .u8))(hd:P.underlying dst=some .string)
  (h:w.ownsRow base e' 1 v n (nums .u8 xs)):(convert src dst v).run P w = .ok (.string (strOfNums xs)) w:=by
 have hl:xs.length=n:=by have:=h.1;simp[nums] at this;exact this
 rcases h.2 with⟨rfl,rfl⟩|⟨g,cap,cur,rfl,_⟩
 ·obtain rfl:xs=[]:=List.eq_nil_of_length_eq_zero hl
  exact run_convert_bytes_nil w src e hs he 0 0 dst hd
 ·refine run_convert_bytes_arg w src e hs he g 0 n cap xs hl (fun i hi=> ?_) dst hd
  have hc:=h.cells (g:=g) rfl i (.int .u8 (xs.getD i 0)) (by simp[nums,List.getElem?_eq_getElem (show i<xs.length by omega),List.getD_eq_getElem?_getD]);have ha:(⟨g,0,none⟩:Addr).add i=⟨g,0+i,none⟩:=by unfold Addr.add;split<;>simp_all
  rwa[ha] at hc
section
variable {P:Program} {ops:Array Oper} {rest:List Oper} {o:Oper} {a:Act} {Q:Exit->Act->World->Prop}
end
section
variable {P:Program}
end
theorem own_lit(W:World)(base:Nat)(e:TypeId)(k:IntKind)(xs:List Int)(hb:base<=W.heap.size)(hm:xs.length<=9223372036854775807):
  (W.alloc (.cells (nums k xs).toArray e)).ownsRow base e 1 (.slice (some ⟨W.heap.size,0,none⟩) xs.length xs.length) xs.length (nums k xs):=by
 have h:=World.ownsRow_lit (base:=base) (e:=e) (size:=1) W (nums k xs).toArray xs.length hb (by simpa[maxLen] using hm) (by simp[nums])
 simpa using h
section
variable {P:Program} {ops:Array Oper} {rest:List Oper} {o:Oper} {a:Act} {Q:Exit->Act->World->Prop}
end
def bytesOf(s:ByteArray):List Int:=s.data.toList.map fun b=>(b.toNat:Int)
theorem data_length(s:ByteArray):s.data.toList.length=s.size:=by rw[Array.length_toList];rfl
theorem bytesOf_length(s:ByteArray):(bytesOf s).length=s.size:=by rw[bytesOf,List.length_map,data_length]
theorem rd_bytesOf(s:ByteArray)(i:Int):rd (bytesOf s) i=bt s i:=by
 unfold rd bt bytesOf
 split
 ·rename_i h
  have h':i.toNat<s.data.toList.length:=by rw[data_length];exact h
  simp[List.getD_eq_getElem?_getD,List.getElem?_eq_getElem h']
  rfl
 ·rename_i h
  have h':s.data.toList.length<=i.toNat:=by rw[data_length];omega
  simp[List.getD_eq_getElem?_getD,List.getElem?_eq_none h']
def Reps{α:Type}(R:α->List Value->Prop)(size:Nat)(ps:List α)(cs:List Value):Prop:=
 cs.length=ps.length*size/\∀j p,ps[j]? = some p->R p ((cs.drop (j*size)).take size)
theorem Reps.none{α:Type}(R:α->List Value->Prop)(size:Nat):Reps R size [] []:=⟨by simp,fun j p h=>by simp at h⟩
theorem Reps.snoc{α:Type}{R:α->List Value->Prop}{size:Nat}{ps:List α}{cs c:List Value}{p:α}(h:Reps R size ps cs)(hp:R p c)(hc:c.length=size):Reps R size (ps++[p]) (cs++c):=by
 refine⟨by rw[List.length_append,h.1,hc,List.length_append,List.length_singleton,Nat.add_mul,Nat.one_mul],fun j q hq=> ?_⟩;rcases Nat.lt_or_ge j ps.length with hj|hj
 ·rw[List.getElem?_append_left hj] at hq
  have h1:j*size+size<=cs.length:=by rw[h.1,<-Nat.succ_mul];exact Nat.mul_le_mul_right _ hj
  have h2:=h.2 j q hq;rw[List.drop_append_of_le_length (by omega),List.take_append_of_le_length (by rw[List.length_drop];omega)];exact h2
 ·have hj':j=ps.length:=by
   have:=(List.getElem?_eq_some_iff.1 hq).1;rw[List.length_append,List.length_singleton] at this;omega
  subst hj';have hq':p=q:=by simpa using hq
  subst hq';rw[<-h.1,List.drop_left,<-hc,List.take_length];exact hp
theorem Reps.imp_{α:Type}{R R':α->List Value->Prop}{size:Nat}{ps:List α}{cs:List Value}(h:Reps R size ps cs)(hR:∀p c,R p c->R' p c):Reps R' size ps cs:=⟨h.1,fun j p hj=>hR _ _ (h.2 j p hj)⟩
def ReadsRow{α:Type}(R:α->List Value->Prop)(size:Nat)(w:World)(A:Option Addr)(n:Nat)(ps:List α):Prop:=
 ps.length=n/\n<=9223372036854775807/\(0<n->∃ad,A=some ad/\∀j p,ps[j]? = some p->∃c,c.length=size/\R p c/\∀i u,c[i]? = some u->w.cell? (ad.add (j*size+i))=some u)
theorem ReadsRow.get_{α:Type}{R:α->List Value->Prop}{size:Nat}{w:World}{A:Option Addr}{n:Nat}{ps:List α}(h:ReadsRow R size w A n ps)(d:α)(i:Int)(h0:0<=i)(h1:i<n):
  ∃ad c,A=some ad/\c.length=size/\R (ps.getD i.toNat d) c/\∀j u,c[j]? = some u->w.cell? (ad.add (i.toNat*size+j))=some u:=by
 obtain⟨ad,e,hc⟩:=h.2.2 (by omega);have hl:i.toNat<ps.length:=by have:=h.1;omega
 obtain⟨c,hs,hr,hcell⟩:=hc i.toNat _ (List.getElem?_eq_getElem hl);refine⟨ad,c,e,hs,?_,hcell⟩;rw[List.getD_eq_getElem?_getD,List.getElem?_eq_getElem hl];exact hr
theorem ReadsRow.imp_{α:Type}{R R':α->List Value->Prop}{size:Nat}{w w1:World}{A:Option Addr}{n:Nat}{ps:List α}(h:ReadsRow R size w A n ps)(hb:Below w.heap.size w w1)(hR:∀p c,R p c->R' p c):ReadsRow R' size w1 A n ps:=
 ⟨h.1,h.2.1,fun hn=>by
  obtain⟨ad,e,hc⟩:=h.2.2 hn;refine⟨ad,e,fun j p hj=> ?_⟩;obtain⟨c,hs,hr,hcell⟩:=hc j p hj;exact⟨c,hs,hR _ _ hr,fun i u hu=>pB hb (hcell i u hu)⟩⟩
theorem own_reads_row{α:Type}{R:α->List Value->Prop}{w:World}{base n size:Nat}{e:TypeId}{v:Value}{ps:List α}{cs:List Value}(h:w.ownsRow base e size v n cs)(hR:Reps R size ps cs)(hn:ps.length=n):
  ∃A c,v = .slice A n c/\ReadsRow R size w A n ps:=by
 rcases Nat.eq_zero_or_pos n with h0|h0
 ·rcases h.2 with⟨rfl,rfl⟩|⟨g,cap,cur,rfl,_⟩
  ·exact⟨none,0,rfl,hn,by omega,fun hp=>absurd hp (by omega)⟩
  ·exact⟨_,cap,rfl,hn,by omega,fun hp=>absurd hp (by omega)⟩
 ·obtain⟨g,cap,rfl,_,_⟩:=h.form h0
  have hm:n<=9223372036854775807:=by
   rcases h.2 with⟨_,h1⟩|⟨g',cap',cur,he,_,_,h1,h2,_⟩
   ·omega
   ·simp only[maxLen] at h2
    omega
  refine⟨_,cap,rfl,hn,hm,fun _=>⟨_,rfl,fun j p hj=>⟨(cs.drop (j*size)).take size,?_,hR.2 j p hj,fun i u hu=> ?_⟩⟩⟩
  ·have hjl:=(List.getElem?_eq_some_iff.1 hj).1
   have h1:j*size+size<=cs.length:=by rw[hR.1,<-Nat.succ_mul];exact Nat.mul_le_mul_right _ hjl
   rw[List.length_take,List.length_drop];omega
  ·refine h.cells (g:=g) rfl _ u ?_
   rw[List.getElem?_take] at hu
   split at hu
   ·rw[List.getElem?_drop] at hu
    exact hu
   ·cases hu
theorem add_field(ad:Addr)(m j:Nat)(hj:0<j):ad.add (m+j)=⟨(ad.add m).block,(ad.add m).off+j,none⟩:=by
 unfold Addr.add
 by_cases hm:m=0
 ·subst hm
  simp[Nat.ne_of_gt hj]
 ·simp[hm,Nat.add_assoc]
section
variable {P:Program} {ops:Array Oper} {rest:List Oper} {o:Oper} {a:Act} {Q:Exit->Act->World->Prop}
theorem print_append_cells{w0 W:World}(base:Nat)(hgd:o.guard=none)(s x:Operand)(t e:TypeId)(z:Value)(size bytes:Nat)
  (ho:o.op = .call {callee:= .builtin .append,args:= #[s,x],argTypes:= #[t,t]})
  (ht:P.underlying t=some (.slice e)) (hinfo:(P.info? e).map (fun i=>(i.zero,i.size,i.bytes))=some (some z,size,bytes)) (hz:z.cells.size=size) (hs0:0<size) (hb0:0<bytes)
  (v:Value) (n:Nat) (xs ys:List Value) (hs:a.eval s=v) (hx:a.eval x = .slice (some ⟨W.heap.size,0,none⟩) 1 1) (hys:ys.length=size) (h1:∀u∈ys,u.oneCell'=true)
  (HO:W.ownsRow base e size v n xs) (HB:Below base w0 W) (hbase:base<=W.heap.size) (hl:(n+1)*bytes<=140737488355328)
  (h:∀v1 w1,w1.ownsRow base e size v1 (n+1) (xs++ys)->Below base w0 w1->W.grownBy w1 v.ownBlock->(v1.ownBlock=v.ownBlock\/∃b,v1.ownBlock=some b/\W.heap.size<=b)->wpList P ops Q rest (a.put o.dst v1) w1):
  wpList P ops Q (o::rest) a (W.alloc (.cells ys.toArray e)):=by
 obtain⟨i0,hi,hzz⟩:=Option.map_eq_some_iff.1 hinfo;simp only[Prod.mk.injEq] at hzz;obtain⟨hz0,hz1,hz2⟩:=hzz;have hlen:n+1<=140737488355328:=Nat.le_trans (Nat.le_mul_of_pos_right _ hb0) hl;refine wpList_append_own_at (W.alloc (.cells ys.toArray e)) hgd s x t ho base e i0 z size bytes ht hi hz0 hz1 hz2 hz hs0 v n xs hs (HO.alloc _) ⟨W.heap.size,0,none⟩ 1 1 ys hx (by rw[hys];simp)
  (by simpa using World.news_of_block (cs:=ys.toArray) (t:=e) (fr:=(0,0)) (heap_alloc_new W (.cells ys.toArray e))) h1 (by simp only[maxLen];omega) hl (by simp;omega) ?_
 intro v1 w1 hown hg _ hat;refine h v1 w1 hown ((HB.alloc hbase _).grown hg (by simp;omega) (own_base HO)) (World.grownBy.trans (World.grownBy_alloc W _ _) hg) ?_;rcases hat with hat|hat
 ·exact .inl hat
 ·exact .inr ⟨_,hat,by simp⟩
end
theorem own_ne{w:World}{base:Nat}{e t:TypeId}{size n g:Nat}{v:Value}{xs:List Value}{cs:Array Value}(h:w.ownsRow base e size v n xs)(hg:w.heap[g]? = some (.cells cs t (0,0)))(hne:e≠t):some g≠v.ownBlock:=by
 rcases h.2 with⟨rfl,_⟩|⟨g',cap,cur,rfl,_,hh,_⟩
 ·simp[Value.ownBlock]
 ·intro he
  have:g=g':=by simpa[Value.ownBlock] using he
  subst this;rw[hg] at hh
  injection hh with hh
  injection hh with _ ht
  exact hne ht.symm
theorem blk_set{w:World}{g:Nat}{t:TypeId}{cs:Array Value}(h:w.heap[g]? = some (.cells cs t (0,0)))(i:Nat)(u:Value):(w.setCell ⟨g,i,none⟩ u).heap[g]? = some (.cells (cs.setIfInBounds i u) t (0,0)):=by
 simp[World.setCell,Array.getElem?_modify,h]
theorem blk_far{w:World}{g:Nat}{t:TypeId}{cs:Array Value}(h:w.heap[g]? = some (.cells cs t (0,0))){p:Addr}(hp:g≠p.block)(u:Value):(w.setCell p u).heap[g]? = some (.cells cs t (0,0)):=(Below.heap_setCell w p u g hp).trans h
theorem blk_lt{w:World}{g:Nat}{o:Obj}(h:w.heap[g]? = some o):g<w.heap.size:=(Array.getElem?_eq_some_iff.1 h).1
theorem bC{w:World}{g:Nat}{t:TypeId}{cs:Array Value}(h:w.heap[g]? = some (.cells cs t (0,0)))(i:Nat):w.cell? ⟨g,i,none⟩=cs[i]? :=cell_of_row w g i cs t (0,0) h
theorem bF{w:World}{g:Nat}{t:TypeId}{cs:Array Value}(h:w.heap[g]? = some (.cells cs t (0,0)))(i:Nat):w.frozen? ⟨g,i,none⟩=false:=by simp[World.frozen?,h]
theorem blk_grown{w w1:World}{g:Nat}{o:Obj}{row:Option Nat}(h:w.heap[g]? = some o)(hg:w.grownBy w1 row)(hne:some g≠row):w1.heap[g]? = some o:=(hg.block g (blk_lt h) hne).trans h
theorem blk_ne{w:World}{g g':Nat}{t t':TypeId}{cs cs':Array Value}(h:w.heap[g]? = some (.cells cs t (0,0)))(h':w.heap[g']? = some (.cells cs' t' (0,0)))(hne:t≠t'):g≠g':=by
 rintro rfl;rw[h] at h'
 injection h' with h'
 injection h' with _ ht
 exact hne ht
def KeepBut(w w':World)(g:Nat)(row:Option Nat):Prop:=w.heap.size<=w'.heap.size/\∀i,i<w.heap.size->i≠g->some i≠row->w'.heap[i]? = w.heap[i]?
theorem KeepBut.refl(w:World)(g:Nat)(row:Option Nat):KeepBut w w g row:=⟨Nat.le_refl _,fun _ _ _ _=>rfl⟩
theorem KeepBut.of_grown{w w1:World}{row:Option Nat}(h:w.grownBy w1 row)(g:Nat):KeepBut w w1 g row:=⟨h.size,fun i hi _ hr=>h.block i hi hr⟩
theorem KeepBut.of_below{w w1:World}(h:Below w.heap.size w w1)(g:Nat)(row:Option Nat):KeepBut w w1 g row:=⟨h.size,fun i hi _ _=>h.block i hi⟩
theorem KeepBut.set_{w w1:World}{g:Nat}{row:Option Nat}(h:KeepBut w w1 g row)(j:Nat)(u:Value):KeepBut w (w1.setCell ⟨g,j,none⟩ u) g row:=
 ⟨by simpa[World.setCell] using h.1,fun i hi hg hr=>(Below.heap_setCell w1 ⟨g,j,none⟩ u i hg).trans (h.2 i hi hg hr)⟩
theorem KeepBut.trans{w w1 w2:World}{g:Nat}{row row1:Option Nat}(h:KeepBut w w1 g row)(k:KeepBut w1 w2 g row1)(hr:row1=row\/∃b,row1=some b/\w.heap.size<=b):KeepBut w w2 g row:=
 ⟨Nat.le_trans h.1 k.1,fun i hi hg hn=>by
  refine(k.2 i (Nat.lt_of_lt_of_le hi h.1) hg ?_).trans (h.2 i hi hg hn);rcases hr with rfl|⟨b,rfl,hb⟩
  ·exact hn
  ·intro e
   injection e with e
   omega⟩
theorem KeepBut.blk{w w1:World}{g g':Nat}{row:Option Nat}{o:Obj}(h:KeepBut w w1 g row)(hb:w.heap[g']? = some o)(hg:g'≠g)(hr:some g'≠row):w1.heap[g']? = some o:=(h.2 g' (blk_lt hb) hg hr).trans hb
section
variable {P:Program} {ops:Array Oper} {o:Oper} {a:Act} {Q:Exit->Act->World->Prop} {K:Act->World->Prop}
theorem step_append_cells{w0 W:World}(base:Nat)(hw:Region.wanted o (yielded ops a.tmps)=true)(s x:Operand)(t e:TypeId)(z:Value)(size bytes:Nat)
  (ho:o.op = .call {callee:= .builtin .append,args:= #[s,x],argTypes:= #[t,t]})
  (ht:P.underlying t=some (.slice e)) (hinfo:(P.info? e).map (fun i=>(i.zero,i.size,i.bytes))=some (some z,size,bytes)) (hz:z.cells.size=size) (hs0:0<size) (hb0:0<bytes)
  (v:Value) (n:Nat) (xs ys:List Value) (hs:a.eval s=v) (hx:a.eval x = .slice (some ⟨W.heap.size,0,none⟩) 1 1) (hys:ys.length=size) (h1:∀u∈ys,u.oneCell'=true)
  (HO:W.ownsRow base e size v n xs) (HB:Below base w0 W) (hbase:base<=W.heap.size) (hl:(n+1)*bytes<=140737488355328)
  (h:∀v1 w1,w1.ownsRow base e size v1 (n+1) (xs++ys)->Below base w0 w1->W.grownBy w1 v.ownBlock->(v1.ownBlock=v.ownBlock\/∃b,v1.ownBlock=some b/\W.heap.size<=b)->K (a.put o.dst v1) w1):
  if Region.wanted o (yielded ops a.tmps)=true then Oper.wp P o a (W.alloc (.cells ys.toArray e)) K Q else K (a.put o.dst undef) (W.alloc (.cells ys.toArray e)):=by
 obtain⟨i0,hi,hzz⟩:=Option.map_eq_some_iff.1 hinfo;simp only[Prod.mk.injEq] at hzz;obtain⟨hz0,hz1,hz2⟩:=hzz;have hlen:n+1<=140737488355328:=Nat.le_trans (Nat.le_mul_of_pos_right _ hb0) hl;rw[if_pos hw];obtain⟨v1,w1,hr,hown,hg,_,hat⟩:=run_append_own_at (P:=P) (W.alloc (.cells ys.toArray e)) base t o.type e i0 z size bytes ht hi hz0 hz1 hz2 hz hs0 v n xs (HO.alloc _) ⟨W.heap.size,0,none⟩ 1 1 ys (by rw[hys];simp)
  (by simpa using World.news_of_block (cs:=ys.toArray) (t:=e) (fr:=(0,0)) (heap_alloc_new W (.cells ys.toArray e))) h1 (by simp only[maxLen];omega) hl (by simp;omega)
 unfold Oper.wp execOp;simp only[ho,resolve,invoke,builtin,Sem.run_bind,Sem.run_pure,Result.andThen_ok,List.map_toArray,List.map_cons,List.map_nil,hs,hx,hr];refine h v1 w1 hown ((HB.alloc hbase _).grown hg (by simp;omega) (own_base HO)) (World.grownBy.trans (World.grownBy_alloc W _ _) hg) ?_;rcases hat with hat|hat
 ·exact .inl hat
 ·exact .inr ⟨_,hat,by simp⟩
end
theorem own_weaken{w:World}{base base':Nat}{e:TypeId}{size n:Nat}{v:Value}{xs:List Value}(h:w.ownsRow base e size v n xs)(hb:base'<=base):w.ownsRow base' e size v n xs:=by
 obtain⟨h1,h2⟩:=h;refine⟨h1,?_⟩;rcases h2 with h2|⟨g,cap,cur,rfl,hg,r⟩
 ·exact .inl h2
 ·exact .inr ⟨g,cap,cur,rfl,Nat.le_trans hb hg,r⟩
section
variable {α:Type} {enc:α->Value} {d:α}
def encs(enc:α->Value)(xs:List α):List Value:=xs.map enc
def rdOf(d:α)(xs:List α)(i:Int):α:=xs.getD i.toNat d
theorem encs_length(xs:List α):(encs enc xs).length=xs.length:=by simp[encs]
def ReadsOf(enc:α->Value)(d:α)(w:World)(A:Option Addr)(n:Nat)(xs:List α):Prop:=
 xs.length=n/\n<=9223372036854775807/\(0<n->∃ad,A=some ad/\∀j,j<n->w.cell? (ad.add j)=some (enc (xs.getD j d)))
theorem ReadsOf.at_{w:World}{A:Option Addr}{n:Nat}{xs:List α}(h:ReadsOf enc d w A n xs)(i:Int)(h0:0<=i)(h1:i<n):∃ad,A=some ad/\w.cell? (ad.add i.toNat)=some (enc (rdOf d xs i)):=by
 obtain⟨ad,e,hc⟩:=h.2.2 (by omega);exact⟨ad,e,hc _ (by omega)⟩
end
section
variable {α:Type} {P:Program} {ops:Array Oper} {rest:List Oper} {o:Oper} {a:Act} {Q:Exit->Act->World->Prop}
end
theorem blk_alloc{w:World}{g:Nat}{o:Obj}(h:w.heap[g]? = some o)(o':Obj):(w.alloc o').heap[g]? = some o:=(Below.heap_alloc w o' g (blk_lt h)).trans h
theorem blk_drew{w:World}{g:Nat}{o:Obj}(h:w.heap[g]? = some o):w.drew.heap[g]? = some o:=h
theorem blk_below{w w1:World}{g:Nat}{o:Obj}(h:w.heap[g]? = some o)(hb:Below w.heap.size w w1):w1.heap[g]? = some o:=(hb.block g (blk_lt h)).trans h
theorem blk_new(w:World)(o:Obj):(w.alloc o).heap[w.heap.size]? = some o:=heap_alloc_new w o
section
variable {P:Program}
end
theorem own_le{w:World}{base n m c size:Nat}{e:TypeId}{A:Option Addr}{xs:List Value}(h:w.ownsRow base e size (.slice A m c) n xs):m<=c:=by
 rcases h.2 with⟨he,_⟩|⟨g,cap,cur,he,_,_,hnc,_⟩
 ·injection he with _ h2 h3
  omega
 ·injection he with _ h2 h3
  omega
def OwnRow{α:Type}(R:α->List Value->Prop)(e:TypeId)(size:Nat)(w:World)(base:Nat)(v:Value)(ps:List α):Prop:=
 ∃inner,w.ownsRow base e size v ps.length inner/\Reps R size ps inner
section
variable {α:Type} {R R':α->List Value->Prop} {e:TypeId} {size:Nat} {w w1:World} {base:Nat} {v:Value} {ps:List α}
theorem OwnRow.none_(R:α->List Value->Prop)(e:TypeId)(size:Nat)(w:World)(base:Nat):OwnRow R e size w base (.slice none 0 0) []:=⟨[],own_nil _ _ _ _,Reps.none _ _⟩
theorem OwnRow.imp_(h:OwnRow R e size w base v ps)(hR:∀p c,R p c->R' p c):OwnRow R' e size w base v ps:=by
 obtain⟨inner,ho,hr⟩:=h;exact⟨inner,ho,hr.imp_ hR⟩
theorem OwnRow.reads(h:OwnRow R e size w base v ps):∃A c,v = .slice A ps.length c/\ps.length<=c/\ReadsRow R size w A ps.length ps:=by
 obtain⟨inner,ho,hr⟩:=h;obtain⟨A,c,rfl,hrow⟩:=own_reads_row ho hr rfl;exact⟨A,c,rfl,own_le ho,hrow⟩
theorem OwnRow.ne_block(h:OwnRow R e size w base v ps){g:Nat}{t:TypeId}{cells:Array Value}(hb:w.heap[g]? = some (.cells cells t (0,0)))(ht:e≠t):some g≠v.ownBlock:=by
 obtain⟨inner,ho,hr⟩:=h;exact own_ne ho hb ht
end
section
variable {P:Program} {ops:Array Oper} {rest:List Oper} {o:Oper} {a:Act} {Q:Exit->Act->World->Prop} {α:Type} {R:α->List Value->Prop}
end
section
variable {P:Program} {ops:Array Oper} {o:Oper} {a:Act} {Q:Exit->Act->World->Prop} {K:Act->World->Prop} {α:Type} {R:α->List Value->Prop}
end
theorem ReadsRow.inner_{α:Type}{R:α->List Value->Prop}{size:Nat}{w:World}{ad:Addr}{n:Nat}{ps:List α}(h:ReadsRow R size w (some ad) n ps):
  ∃inner,Reps R size ps inner/\∀j u,inner[j]? = some u->w.cell? (ad.add j)=some u:=by
 have key:∀m,m<=ps.length->∃inner,Reps R size (ps.take m) inner/\∀j u,inner[j]? = some u->w.cell? (ad.add j)=some u:=by
  intro m
  induction m with
  |zero=>exact fun _=>⟨[],Reps.none _ _,fun j u hu=>by simp at hu⟩
  |succ m ih=>
   intro hm;obtain⟨inner,hr,hc⟩:=ih (by omega);obtain⟨ad',he,hcell⟩:=h.2.2 (by have:=h.1;omega)
   injection he with he
   subst he;obtain⟨c,hcl,hp,hcc⟩:=hcell m _ (List.getElem?_eq_getElem (show m<ps.length by omega));refine⟨inner++c,?_,fun j u hu=> ?_⟩
   ·rw[List.take_succ_eq_append_getElem (show m<ps.length by omega)]
    exact hr.snoc hp hcl
   ·have hil:inner.length=m*size:=by rw[hr.1,List.length_take,Nat.min_eq_left (by omega)]
    rcases Nat.lt_or_ge j inner.length with hj|hj
    ·rw[List.getElem?_append_left hj] at hu
     exact hc j u hu
    ·rw[List.getElem?_append_right hj] at hu
     have:=hcc (j-inner.length) u hu
     rwa[hil,Nat.add_sub_cancel' (by omega)] at this
 obtain⟨inner,hr,hc⟩:=key ps.length (Nat.le_refl _);rw[List.take_length] at hr;exact⟨inner,hr,hc⟩
section
variable {α:Type} {P:Program}
end
section
variable {P:Program} {ops:Array Oper} {rest:List Oper} {o:Oper} {a:Act} {Q:Exit->Act->World->Prop}
theorem print_append_str{w0 W:World}(base:Nat)(hgd:o.guard=none)(s x:Operand)(t u e:TypeId)
  (ho:o.op = .call {callee:= .builtin .append,args:= #[s,x],argTypes:= #[t,u]})
  (ht:P.underlying t=some (.slice e)) (hu:P.underlying u=some .string) (hinfo:(P.info? e).map (fun i=>(i.zero,i.size,i.bytes))=some (some (.int .u8 0),1,1))
  (v:Value) (xs:List Int) (y:ByteArray) (hs:a.eval s=v) (hx:a.eval x = .string y)
  (HO:W.ownsRow base e 1 v xs.length (nums .u8 xs)) (HB:Below base w0 W) (hbase:base<=W.heap.size) (hl:xs.length+y.size<=140737488355328)
  (h:∀v1 w1,w1.ownsRow base e 1 v1 (xs++bytesOf y).length (nums .u8 (xs++bytesOf y))->Below base w0 w1->W.grownBy w1 v.ownBlock->wpList P ops Q rest (a.put o.dst v1) w1):
  wpList P ops Q (o::rest) a W:=by
 obtain⟨i0,hi,hzz⟩:=Option.map_eq_some_iff.1 hinfo;simp only[Prod.mk.injEq] at hzz;obtain⟨hz0,hz1,hz2⟩:=hzz;refine Lib.wpList_append_own_string W hgd s x t u ho base e i0 ht hu hi hz0 hz1 hz2 v xs.length (nums .u8 xs) hs HO y hx (by simp only[maxLen];omega) hl hbase ?_;intro v1 w1 hown hg _;have hl2:(xs++bytesOf y).length=xs.length+y.size:=by rw[List.length_append,bytesOf_length]
 have hc:nums .u8 (xs++bytesOf y)=nums .u8 xs++Lib.strCells y:=by
  rw[nums_append]
  congr 1
  simp[nums,bytesOf,Lib.strCells]
 exact h v1 w1 (by rw[hl2,hc];exact hown) (HB.grown hg hbase (own_base HO)) hg
end
structure Kd(α:Type) where
 sz:Nat
 E:List Nat
 K:World->α->List Value->Prop
 M:World->Nat->(Nat->Prop)->α->List Value->Prop
 K_len:∀{w x cs},K w x cs->cs.length=sz
 K_one:∀{w x cs},K w x cs->∀u∈cs,u.oneCell'=true
 K_below:∀{w w1:World} {x cs},Below w.heap.size w w1->K w x cs->K w1 x cs
 K_of_M:∀{w base ok x cs},M w base ok x cs->K w x cs
 M_mono:∀{w base ok ok' x cs},(∀k,ok k->ok' k)->M w base ok x cs->M w base ok' x cs
 M_bound:∀{w:World} {base ok x cs},M w base ok x cs->M w base (fun k=>ok k/\base<=k/\k<w.heap.size/\∃q,q∈E/\∃cells,w.heap[k]? = some (.cells cells q (0,0))) x cs
 M_move:∀{w w1:World} {base ok x cs},(∀k,ok k->w1.heap[k]? = w.heap[k]?)->M w base ok x cs->M w1 base ok x cs
 M_lower:∀{w base base' ok x cs},base'<=base->M w base ok x cs->M w base' ok x cs
theorem own_move{w w1:World}{base:Nat}{e:TypeId}{size n:Nat}{v:Value}{xs:List Value}(h:w.ownsRow base e size v n xs)(hm:∀k,v.ownBlock=some k->w1.heap[k]? = w.heap[k]?):w1.ownsRow base e size v n xs:=by
 obtain⟨h1,h2⟩:=h;refine⟨h1,?_⟩;rcases h2 with h2|⟨g,cap,cur,rfl,hg,hh,r⟩
 ·exact .inl h2
 ·exact .inr ⟨g,cap,cur,rfl,hg,(hm g (by simp[Value.ownBlock])).trans hh,r⟩
theorem own_typed{w:World}{base:Nat}{e:TypeId}{size n:Nat}{v:Value}{xs:List Value}(h:w.ownsRow base e size v n xs)(k:Nat)(hk:v.ownBlock=some k):∃cells,w.heap[k]? = some (.cells cells e (0,0)):=by
 rcases h.2 with⟨rfl,_⟩|⟨g,cap,cur,rfl,hg,hh,r⟩
 ·simp[Value.ownBlock] at hk
 ·have:g=k:=by simpa[Value.ownBlock] using hk
  subst this;exact⟨cur,hh⟩
namespace Kd
def C{α:Type}(d:Kd α)(w:World)(A:Option Addr)(n:Nat)(xs:List α):Prop:=ReadsRow (d.K w) d.sz w A n xs
def R{α:Type}(d:Kd α)(e:Nat)(w:World)(base:Nat)(ok:Nat->Prop)(v:Value)(xs:List α):Prop:=
 (∀k,v.ownBlock=some k->ok k)/\OwnRow (d.M w base (fun k=>ok k/\some k≠v.ownBlock)) e d.sz w base v xs
section
variable {α:Type} {d:Kd α} {e:Nat} {w w1:World} {base:Nat} {ok ok':Nat->Prop} {v:Value} {xs:List α}
theorem C_below{A:Option Addr}{n:Nat}(h:d.C w A n xs)(hb:Below w.heap.size w w1):d.C w1 A n xs:=ReadsRow.imp_ h hb (fun _ _ hp=>d.K_below hb hp)
theorem R_nil(d:Kd α)(e:Nat)(w:World)(base:Nat)(ok:Nat->Prop):d.R e w base ok (.slice none 0 0) []:=⟨fun k hk=>by simp[Value.ownBlock] at hk,OwnRow.none_ _ _ _ _ _⟩
theorem R_mono(h:d.R e w base ok v xs)(hok:∀k,ok k->ok' k):d.R e w base ok' v xs:=⟨fun k hk=>hok k (h.1 k hk),h.2.imp_ (fun _ _ hp=>d.M_mono (fun k hk=>⟨hok k hk.1,hk.2⟩) hp)⟩
theorem R_bound(h:d.R e w base ok v xs):d.R e w base (fun k=>ok k/\base<=k/\k<w.heap.size/\∃q,q∈e::d.E/\∃cells,w.heap[k]? = some (.cells cells q (0,0))) v xs:=by
 obtain⟨h0,inner,ho,hr⟩:=h;refine⟨fun k hk=> ?_,inner,ho,hr.imp_ (fun _ _ hp=>d.M_mono (fun k hk=> ?_) (d.M_bound hp))⟩
 ·obtain⟨cells,hc⟩:=own_typed ho k hk
  exact⟨h0 k hk,own_base ho k hk,own_lt ho k hk,e,List.mem_cons_self,cells,hc⟩
 ·obtain⟨⟨h1,h2⟩,h3,h4,q,hq,hc⟩:=hk
  exact⟨⟨h1,h3,h4,q,List.mem_cons_of_mem _ hq,hc⟩,h2⟩
theorem R_move(h:d.R e w base ok v xs)(hm:∀k,ok k->w1.heap[k]? = w.heap[k]?):d.R e w1 base ok v xs:=by
 obtain⟨h0,inner,ho,hr⟩:=h;exact⟨h0,inner,own_move ho (fun k hk=>hm k (h0 k hk)),hr.imp_ (fun _ _ hp=>d.M_move (fun k hk=>hm k hk.1) hp)⟩
theorem R_lower{base':Nat}(h:d.R e w base ok v xs)(hb:base'<=base):d.R e w base' ok v xs:=by
 obtain⟨h0,inner,ho,hr⟩:=h;exact⟨h0,inner,own_weaken ho hb,hr.imp_ (fun _ _ hp=>d.M_lower hb hp)⟩
theorem R_step(h:d.R e w base ok v xs)(hm:∀k,ok k->k<w.heap.size->w1.heap[k]? = w.heap[k]?):d.R e w1 base ok v xs:=
 R_mono (R_move (R_bound h) (fun k hk=>hm k hk.1 hk.2.2.1)) (fun _ hk=>hk.1)
theorem M_step{x:α}{cs:List Value}(h:d.M w base ok x cs)(hm:∀k,ok k->k<w.heap.size->w1.heap[k]? = w.heap[k]?):d.M w1 base ok x cs:=
 d.M_mono (fun _ hk=>hk.1) (d.M_move (fun k hk=>hm k hk.1 hk.2.2.1) (d.M_bound h))
theorem R_below(h:d.R e w base ok v xs)(hb:Below w.heap.size w w1):d.R e w1 base ok v xs:=R_step h (fun k _ hk=>hb.block k hk)
theorem M_below{x:α}{cs:List Value}(h:d.M w base ok x cs)(hb:Below w.heap.size w w1):d.M w1 base ok x cs:=M_step h (fun k _ hk=>hb.block k hk)
theorem R_grown(h:d.R e w base ok v xs){row:Option Nat}(hg:w.grownBy w1 row)(hok:∀k,ok k->some k≠row):d.R e w1 base ok v xs:=R_step h (fun k ho hk=>hg.block k hk (hok k ho))
theorem R_far(h:d.R e w base ok v xs){p:Addr}(hok:∀k,ok k->k≠p.block)(u:Value):d.R e (w.setCell p u) base ok v xs:=R_step h (fun k ho _=>Below.heap_setCell w p u k (hok k ho))
theorem R_keep(h:d.R e w base ok v xs){g:Nat}(hk:KeepBut w w1 g none)(hok:∀k,ok k->k≠g):d.R e w1 base ok v xs:=R_step h (fun k ho hlt=>hk.2 k hlt (hok k ho) (by simp))
theorem M_keep{x:α}{cs:List Value}(h:d.M w base ok x cs){g:Nat}(hk:KeepBut w w1 g none)(hok:∀k,ok k->k≠g):d.M w1 base ok x cs:=M_step h (fun k ho hlt=>hk.2 k hlt (hok k ho) (by simp))
theorem R_types(h:d.R e w base ok v xs){g t:Nat}{cells:Array Value}(hb:w.heap[g]? = some (.cells cells t (0,0)))(ht:∀q,q∈e::d.E->q≠t):d.R e w base (fun k=>ok k/\k≠g) v xs:=
 R_mono (R_bound h) (fun k hk=>⟨hk.1,by
  obtain⟨_,_,_,q,hq,cells',hc⟩:=hk;rintro rfl;rw[hc] at hb
  injection hb with hb
  injection hb with _ hb
  exact ht q hq hb⟩)
theorem M_types{x:α}{cs:List Value}(h:d.M w base ok x cs){g t:Nat}{cells:Array Value}(hb:w.heap[g]? = some (.cells cells t (0,0)))(ht:∀q,q∈d.E->q≠t):d.M w base (fun k=>ok k/\k≠g) x cs:=
 d.M_mono (fun k hk=>⟨hk.1,by
  obtain⟨_,_,_,q,hq,cells',hc⟩:=hk;rintro rfl;rw[hc] at hb
  injection hb with hb
  injection hb with _ hb
  exact ht q hq hb⟩) (d.M_bound h)
theorem R_set(h:d.R e w base ok v xs){g t:Nat}{cells:Array Value}(hb:w.heap[g]? = some (.cells cells t (0,0)))(ht:∀q,q∈e::d.E->q≠t)(j:Nat)(u:Value):d.R e (w.setCell ⟨g,j,none⟩ u) base ok v xs:=
 R_mono (R_far (p:=⟨g,j,none⟩) (R_types h hb ht) (fun _ hk=>hk.2) u) (fun _ hk=>hk.1)
theorem R_reads(h:d.R e w base ok v xs):∃A c,v = .slice A xs.length c/\xs.length<=c/\d.C w A xs.length xs:=by
 obtain⟨A,c,he,hl,hr⟩:=OwnRow.reads h.2;exact⟨A,c,he,hl,hr.imp_ (bR _ _) (fun _ _ hp=>d.K_of_M hp)⟩
theorem R_slice(h:d.R e w base ok v xs):∃A c,v = .slice A xs.length c:=by
 obtain⟨A,c,he,_⟩:=R_reads h;exact⟨A,c,he⟩
theorem R_own(h:d.R e w base ok v xs):∃inner,w.ownsRow base e d.sz v xs.length inner:=by
 obtain⟨_,inner,ho,_⟩:=h;exact⟨inner,ho⟩
theorem R_ne(h:d.R e w base ok v xs){g t:Nat}{cells:Array Value}(hb:w.heap[g]? = some (.cells cells t (0,0)))(ht:e≠t):some g≠v.ownBlock:=OwnRow.ne_block h.2 hb ht
end
def scalar{α:Type}(enc:α->Value)(h1:∀x,(enc x).oneCell'=true):Kd α where
 sz:=1
 E:=[]
 K:=fun _ x cs=>cs=[enc x]
 M:=fun _ _ _ x cs=>cs=[enc x]
 K_len:=fun h=>by rw[h];rfl
 K_one:=fun h u hu=>by
  rw[h] at hu;rw[List.mem_singleton.1 hu];exact h1 _
 K_below:=fun _ h=>h
 K_of_M:=fun h=>h
 M_mono:=fun _ h=>h
 M_bound:=fun h=>h
 M_move:=fun _ h=>h
 M_lower:=fun _ h=>h
def int(k:IntKind):Kd Int:=scalar (Value.int k) (fun _=>rfl)
def bool:Kd Bool:=scalar Value.bool (fun _=>rfl)
def string:Kd ByteArray:=scalar Value.string (fun _=>rfl)
def slice{α:Type}(e:Nat)(d:Kd α):Kd (List α) where
 sz:=1
 E:=e::d.E
 K:=fun w xs cs=>∃A c,cs=[.slice A xs.length c]/\xs.length<=c/\d.C w A xs.length xs
 M:=fun w base ok xs cs=>∃v,cs=[v]/\d.R e w base ok v xs
 K_len:=by
  rintro w x cs ⟨A,c,rfl,_⟩
  rfl
 K_one:=by
  rintro w x cs ⟨A,c,rfl,_⟩ u hu;rw[List.mem_singleton.1 hu]
  rfl
 K_below:=by
  rintro w w1 x cs hb ⟨A,c,rfl,hl,hr⟩;exact⟨A,c,rfl,hl,C_below hr hb⟩
 K_of_M:=by
  rintro w base ok x cs ⟨v,rfl,h⟩;obtain⟨A,c,rfl,hl,hr⟩:=R_reads h;exact⟨A,c,rfl,hl,hr⟩
 M_mono:=by
  rintro w base ok ok' x cs hok ⟨v,rfl,h⟩;exact⟨v,rfl,R_mono h hok⟩
 M_bound:=by
  rintro w base ok x cs ⟨v,rfl,h⟩;exact⟨v,rfl,R_bound h⟩
 M_move:=by
  rintro w w1 base ok x cs hm ⟨v,rfl,h⟩;exact⟨v,rfl,R_move h hm⟩
 M_lower:=by
  rintro w base base' ok x cs hb ⟨v,rfl,h⟩;exact⟨v,rfl,R_lower h hb⟩
def pair{α β:Type}(a:Kd α)(b:Kd β):Kd (α×β) where
 sz:=a.sz+b.sz
 E:=a.E++b.E
 K:=fun w x cs=>∃c0 c1,cs=c0++c1/\a.K w x.1 c0/\b.K w x.2 c1
 M:=fun w base ok x cs=>∃c0 c1,cs=c0++c1/\a.M w base ok x.1 c0/\b.M w base ok x.2 c1
 K_len:=by
  rintro w x cs ⟨c0,c1,rfl,h0,h1⟩;rw[List.length_append,a.K_len h0,b.K_len h1]
 K_one:=by
  rintro w x cs ⟨c0,c1,rfl,h0,h1⟩ u hu;rcases List.mem_append.1 hu with hu|hu
  ·exact a.K_one h0 u hu
  ·exact b.K_one h1 u hu
 K_below:=by
  rintro w w1 x cs hb ⟨c0,c1,rfl,h0,h1⟩;exact⟨c0,c1,rfl,a.K_below hb h0,b.K_below hb h1⟩
 K_of_M:=by
  rintro w base ok x cs ⟨c0,c1,rfl,h0,h1⟩;exact⟨c0,c1,rfl,a.K_of_M h0,b.K_of_M h1⟩
 M_mono:=by
  rintro w base ok ok' x cs hok ⟨c0,c1,rfl,h0,h1⟩;exact⟨c0,c1,rfl,a.M_mono hok h0,b.M_mono hok h1⟩
 M_bound:=by
  rintro w base ok x cs ⟨c0,c1,rfl,h0,h1⟩;refine⟨c0,c1,rfl,a.M_mono ?_ (a.M_bound h0),b.M_mono ?_ (b.M_bound h1)⟩
  ·rintro k ⟨h2,h3,h4,q,hq,hc⟩
   exact⟨h2,h3,h4,q,List.mem_append_left _ hq,hc⟩
  ·rintro k ⟨h2,h3,h4,q,hq,hc⟩
   exact⟨h2,h3,h4,q,List.mem_append_right _ hq,hc⟩
 M_move:=by
  rintro w w1 base ok x cs hm ⟨c0,c1,rfl,h0,h1⟩;exact⟨c0,c1,rfl,a.M_move hm h0,b.M_move hm h1⟩
 M_lower:=by
  rintro w base base' ok x cs hb ⟨c0,c1,rfl,h0,h1⟩;exact⟨c0,c1,rfl,a.M_lower hb h0,b.M_lower hb h1⟩
def iso{α β:Type}(d:Kd α)(f:β->α):Kd β where
 sz:=d.sz
 E:=d.E
 K:=fun w x cs=>d.K w (f x) cs
 M:=fun w base ok x cs=>d.M w base ok (f x) cs
 K_len:=d.K_len
 K_one:=d.K_one
 K_below:=d.K_below
 K_of_M:=d.K_of_M
 M_mono:=d.M_mono
 M_bound:=d.M_bound
 M_move:=d.M_move
 M_lower:=d.M_lower
def bot{α:Type}(sz:Nat)(E:List Nat):Kd α where
 sz:=sz
 E:=E
 K:=fun _ _ _=>False
 M:=fun _ _ _ _ _=>False
 K_len:=fun h=>h.elim
 K_one:=fun h=>h.elim
 K_below:=fun _ h=>h
 K_of_M:=fun h=>h
 M_mono:=fun _ h=>h
 M_bound:=fun h=>h
 M_move:=fun _ h=>h
 M_lower:=fun _ h=>h
def upto{α:Type}(F:Kd α->Kd α)(sz:Nat)(E:List Nat):Nat->Kd α
 |0=>bot sz E
 |n+1=>F (upto F sz E n)
def fix{α:Type}(F:Kd α->Kd α)(sz:Nat)(E:List Nat)(hs:∀n,(upto F sz E n).sz=sz)(hE:∀n q,q∈(upto F sz E n).E->q∈E):Kd α where
 sz:=sz
 E:=E
 K:=fun w x cs=>∃n,(upto F sz E n).K w x cs
 M:=fun w base ok x cs=>∃n,(upto F sz E n).M w base ok x cs
 K_len:=by
  rintro w x cs ⟨n,h⟩;rw[(upto F sz E n).K_len h,hs n]
 K_one:=by
  rintro w x cs ⟨n,h⟩;exact(upto F sz E n).K_one h
 K_below:=by
  rintro w w1 x cs hb ⟨n,h⟩;exact⟨n,(upto F sz E n).K_below hb h⟩
 K_of_M:=by
  rintro w base ok x cs ⟨n,h⟩;exact⟨n,(upto F sz E n).K_of_M h⟩
 M_mono:=by
  rintro w base ok ok' x cs hok ⟨n,h⟩;exact⟨n,(upto F sz E n).M_mono hok h⟩
 M_bound:=by
  rintro w base ok x cs ⟨n,h⟩;refine⟨n,(upto F sz E n).M_mono ?_ ((upto F sz E n).M_bound h)⟩;rintro k ⟨h2,h3,h4,q,hq,hc⟩;exact⟨h2,h3,h4,q,hE n q hq,hc⟩
 M_move:=by
  rintro w w1 base ok x cs hm ⟨n,h⟩;exact⟨n,(upto F sz E n).M_move hm h⟩
 M_lower:=by
  rintro w base base' ok x cs hb ⟨n,h⟩;exact⟨n,(upto F sz E n).M_lower hb h⟩
theorem C_get{α:Type}{d:Kd α}{w:World}{A:Option Addr}{n:Nat}{xs:List α}(h:d.C w A n xs)(z:α)(i:Int)(h0:0<=i)(h1:i<n):
  ∃ad c,A=some ad/\c.length=d.sz/\d.K w (xs.getD i.toNat z) c/\∀j u,c[j]? = some u->w.cell? (ad.add (i.toNat*d.sz+j))=some u:=ReadsRow.get_ h z i h0 h1
theorem R_appended{α:Type}{d:Kd α}{e base:Nat}{ok okp:Nat->Prop}{W w1:World}{v v1:Value}{xs:List α}{p:α}{inner cs:List Value}(h0:∀k,v.ownBlock=some k->ok k)(hr:Reps (d.M W base (fun k=>ok k/\some k≠v.ownBlock)) d.sz xs inner)(hp:d.M W base okp p cs)(hokp:∀k,okp k->ok k/\some k≠v.ownBlock)(hfresh:∀k,W.heap.size<=k->ok k)
  (hown:w1.ownsRow base e d.sz v1 (xs.length+1) (inner++cs)) (hg:W.grownBy w1 v.ownBlock) (hat:v1.ownBlock=v.ownBlock\/∃b,v1.ownBlock=some b/\W.heap.size<=b):d.R e w1 base ok v1 (xs++[p]):=by
 have hne:∀k,some k≠v.ownBlock->k<W.heap.size->some k≠v1.ownBlock:=by
  intro k hk hlt;rcases hat with hat|⟨b,hb,hle⟩
  ·rw[hat];exact hk
  ·rw[hb]
   intro he
   injection he with he
   omega
 have step:∀{q:α} {c:List Value} {o:Nat->Prop},d.M W base o q c->(∀k,o k->ok k/\some k≠v.ownBlock)->d.M w1 base (fun k=>ok k/\some k≠v1.ownBlock) q c:=by
  intro q c o hq ho;have h1:=d.M_move (w1:=w1) (fun k hk=>hg.block k hk.2.2.1 (ho k hk.1).2) (d.M_bound hq);exact d.M_mono (fun k hk=>⟨(ho k hk.1).1,hne k (ho k hk.1).2 hk.2.2.1⟩) h1
 refine⟨fun k hk=> ?_,inner++cs,by rw[List.length_append,List.length_singleton];exact hown,?_⟩
 ·rcases hat with hat|⟨b,hb,hle⟩
  ·exact h0 k (hat▸hk)
  ·rw[hb] at hk
   injection hk with hk
   exact hfresh k (by omega)
 ·exact(hr.imp_ (fun _ _ hq=>step hq (fun _ hk=>hk))).snoc (step hp hokp) (d.K_len (d.K_of_M hp))
section
variable {P:Program} {ops:Array Oper} {rest:List Oper} {o:Oper} {a:Act} {Q:Exit->Act->World->Prop} {α:Type}
theorem R_append(d:Kd α){w0 W:World}(base:Nat)(hgd:o.guard=none)(s x:Operand)(t e:TypeId)(z:Value)(bytes:Nat)
  (ho:o.op = .call {callee:= .builtin .append,args:= #[s,x],argTypes:= #[t,t]})
  (ht:P.underlying t=some (.slice e)) (hinfo:(P.info? e).map (fun i=>(i.zero,i.size,i.bytes))=some (some z,d.sz,bytes)) (hz:z.cells.size=d.sz) (hs0:0<d.sz) (hb0:0<bytes)
  (v:Value) (xs:List α) (p:α) (cs:List Value) (ok okp:Nat->Prop) (hs:a.eval s=v) (hx:a.eval x = .slice (some ⟨W.heap.size,0,none⟩) 1 1) (hp:d.M W base okp p cs) (hokp:∀k,okp k->ok k/\some k≠v.ownBlock) (hfresh:∀k,W.heap.size<=k->ok k)
  (HO:d.R e W base ok v xs) (HB:Below base w0 W) (hbase:base<=W.heap.size) (hl:(xs.length+1)*bytes<=140737488355328)
  (h:∀v1 w1,d.R e w1 base ok v1 (xs++[p])->Below base w0 w1->W.grownBy w1 v.ownBlock->(v1.ownBlock=v.ownBlock\/∃b,v1.ownBlock=some b/\W.heap.size<=b)->wpList P ops Q rest (a.put o.dst v1) w1):
  wpList P ops Q (o::rest) a (W.alloc (.cells cs.toArray e)):=by
 obtain⟨h0,inner,hown,hr⟩:=HO;refine print_append_cells base hgd s x t e z d.sz bytes ho ht hinfo hz hs0 hb0 v xs.length inner cs hs hx (d.K_len (d.K_of_M hp)) (d.K_one (d.K_of_M hp)) hown HB hbase hl ?_;intro v1 w1 hown1 hb1 hg1 hat1;exact h v1 w1 (R_appended h0 hr hp hokp hfresh hown1 hg1 hat1) hb1 hg1 hat1
end
section
variable {P:Program} {ops:Array Oper} {o:Oper} {a:Act} {Q:Exit->Act->World->Prop} {Kc:Act->World->Prop} {α:Type}
theorem R_append_step(d:Kd α){w0 W:World}(base:Nat)(hw:Region.wanted o (yielded ops a.tmps)=true)(s x:Operand)(t e:TypeId)(z:Value)(bytes:Nat)
  (ho:o.op = .call {callee:= .builtin .append,args:= #[s,x],argTypes:= #[t,t]})
  (ht:P.underlying t=some (.slice e)) (hinfo:(P.info? e).map (fun i=>(i.zero,i.size,i.bytes))=some (some z,d.sz,bytes)) (hz:z.cells.size=d.sz) (hs0:0<d.sz) (hb0:0<bytes)
  (v:Value) (xs:List α) (p:α) (cs:List Value) (ok okp:Nat->Prop) (hs:a.eval s=v) (hx:a.eval x = .slice (some ⟨W.heap.size,0,none⟩) 1 1) (hp:d.M W base okp p cs) (hokp:∀k,okp k->ok k/\some k≠v.ownBlock) (hfresh:∀k,W.heap.size<=k->ok k)
  (HO:d.R e W base ok v xs) (HB:Below base w0 W) (hbase:base<=W.heap.size) (hl:(xs.length+1)*bytes<=140737488355328)
  (h:∀v1 w1,d.R e w1 base ok v1 (xs++[p])->Below base w0 w1->W.grownBy w1 v.ownBlock->(v1.ownBlock=v.ownBlock\/∃b,v1.ownBlock=some b/\W.heap.size<=b)->Kc (a.put o.dst v1) w1):
  if Region.wanted o (yielded ops a.tmps)=true then Oper.wp P o a (W.alloc (.cells cs.toArray e)) Kc Q else Kc (a.put o.dst undef) (W.alloc (.cells cs.toArray e)):=by
 obtain⟨h0,inner,hown,hr⟩:=HO;refine step_append_cells base hw s x t e z d.sz bytes ho ht hinfo hz hs0 hb0 v xs.length inner cs hs hx (d.K_len (d.K_of_M hp)) (d.K_one (d.K_of_M hp)) hown HB hbase hl ?_;intro v1 w1 hown1 hb1 hg1 hat1;exact h v1 w1 (R_appended h0 hr hp hokp hfresh hown1 hg1 hat1) hb1 hg1 hat1
end
theorem reps_scalar{α:Type}{enc:α->Value}(xs:List α):Reps (fun(x:α) (cs:List Value)=>cs=[enc x]) 1 xs (encs enc xs):=by
 refine⟨by simp[encs],fun j p hj=> ?_⟩;obtain⟨hl,hp⟩:=List.getElem?_eq_some_iff.1 hj;have hl':j<(encs enc xs).length:=by rw[encs_length];exact hl
 rw[Nat.mul_one,List.drop_eq_getElem_cons hl'];simp[encs,hp]
theorem R_of_own{α:Type}{enc:α->Value}{h1:∀x,(enc x).oneCell'=true}{e:Nat}{w:World}{base:Nat}{ok:Nat->Prop}{v:Value}{xs:List α}(ho:w.ownsRow base e 1 v xs.length (encs enc xs))(hok:∀k,v.ownBlock=some k->ok k):(scalar enc h1).R e w base ok v xs:=⟨hok,encs enc xs,ho,reps_scalar xs⟩
theorem own_of_R{α:Type}{enc:α->Value}{h1:∀x,(enc x).oneCell'=true}{e:Nat}{w:World}{base:Nat}{ok:Nat->Prop}{v:Value}{xs:List α}(h:(scalar enc h1).R e w base ok v xs):w.ownsRow base e 1 v xs.length (encs enc xs):=by
 obtain⟨_,inner,ho,hr⟩:=h;have:inner=encs enc xs:=by
  apply List.ext_getElem?;intro j;rcases Nat.lt_or_ge j xs.length with hj|hj
  ·have h2:=hr.2 j _ (List.getElem?_eq_getElem hj)
   have hl:j<inner.length:=by have:=hr.1;simp[scalar] at this;omega
   have h3:(inner.drop (j*1)).take 1=[enc xs[j]]:=h2;rw[Nat.mul_one,List.drop_eq_getElem_cons hl] at h3;have h4:inner[j]=enc xs[j]:=by
    have h5:=congrArg List.head? h3;rw[List.take_succ_cons] at h5;exact Option.some.inj h5
   rw[List.getElem?_eq_getElem hl,h4];simp[encs,List.getElem?_eq_getElem hj]
  ·have h3:inner.length=xs.length:=by have:=hr.1;simp[scalar] at this;omega
   rw[List.getElem?_eq_none (by omega),List.getElem?_eq_none (by rw[encs_length];omega)]
 rw[<-this];exact ho
theorem reads_of_C{α:Type}{enc:α->Value}{d:α}{h1:∀x,(enc x).oneCell'=true}{w:World}{A:Option Addr}{n:Nat}{xs:List α}(h:(scalar enc h1).C w A n xs):ReadsOf enc d w A n xs:=by
 refine⟨h.1,h.2.1,fun hn=> ?_⟩;obtain⟨ad,e,hc⟩:=h.2.2 hn;refine⟨ad,e,fun j hj=> ?_⟩;have hl:j<xs.length:=by have:=h.1;omega
 obtain⟨c,_,hK,hcell⟩:=hc j _ (List.getElem?_eq_getElem hl);have hK':c=[enc xs[j]]:=hK;subst hK';have:=hcell 0 _ rfl
 simpa[scalar,List.getD_eq_getElem?_getD,List.getElem?_eq_getElem hl] using this
end Kd
namespace Kd
structure Mono{α β:Type}(F:Kd α->Kd β):Prop where
 sz:∀d d':Kd α,d.sz=d'.sz->(F d).sz=(F d').sz
 K:∀d d':Kd α,d.sz=d'.sz->(∀w x cs,d.K w x cs->d'.K w x cs)->∀w x cs,(F d).K w x cs->(F d').K w x cs
 M:∀d d':Kd α,d.sz=d'.sz->(∀w base ok x cs,d.M w base ok x cs->d'.M w base ok x cs)->∀w base ok x cs,(F d).M w base ok x cs->(F d').M w base ok x cs
theorem mono_const{α β:Type}(k:Kd β):Mono (fun _:Kd α=>k):=⟨fun _ _ _=>rfl,fun _ _ _ _ _ _ _ h=>h,fun _ _ _ _ _ _ _ _ _ h=>h⟩
theorem mono_id{α:Type}:Mono (fun d:Kd α=>d):=⟨fun _ _ h=>h,fun _ _ _ h=>h,fun _ _ _ h=>h⟩
theorem C_imp{α:Type}{d d':Kd α}(hs:d.sz=d'.sz)(h:∀w x cs,d.K w x cs->d'.K w x cs){w:World}{A:Option Addr}{n:Nat}{xs:List α}(hc:d.C w A n xs):d'.C w A n xs:=by
 unfold C at hc|-;rw[<-hs];exact hc.imp_ (bR _ _) (fun _ _ hp=>h _ _ _ hp)
theorem R_imp{α:Type}{d d':Kd α}(hs:d.sz=d'.sz)(h:∀w base ok x cs,d.M w base ok x cs->d'.M w base ok x cs){e:Nat}{w:World}{base:Nat}{ok:Nat->Prop}{v:Value}{xs:List α}(hr:d.R e w base ok v xs):d'.R e w base ok v xs:=by
 unfold R at hr|-;rw[<-hs];exact⟨hr.1,hr.2.imp_ (fun _ _ hp=>h _ _ _ _ _ hp)⟩
theorem mono_slice{α β:Type}(e:Nat){G:Kd α->Kd β}(hG:Mono G):Mono (fun d=>slice e (G d)):=by
 refine⟨fun _ _ _=>rfl,?_,?_⟩
 ·rintro d d' hs h w x cs ⟨A,c,rfl,hl,hr⟩
  exact⟨A,c,rfl,hl,C_imp (hG.sz d d' hs) (hG.K d d' hs h) hr⟩
 ·rintro d d' hs h w base ok x cs ⟨v,rfl,hr⟩
  exact⟨v,rfl,R_imp (hG.sz d d' hs) (hG.M d d' hs h) hr⟩
theorem mono_pair{α β γ:Type}{G:Kd α->Kd β}{H:Kd α->Kd γ}(hG:Mono G)(hH:Mono H):Mono (fun d=>pair (G d) (H d)):=by
 refine⟨fun d d' hs=> ?_,?_,?_⟩
 ·show(G d).sz+(H d).sz=(G d').sz+(H d').sz
  rw[hG.sz d d' hs,hH.sz d d' hs]
 ·rintro d d' hs h w x cs ⟨c0,c1,rfl,h0,h1⟩
  exact⟨c0,c1,rfl,hG.K d d' hs h _ _ _ h0,hH.K d d' hs h _ _ _ h1⟩
 ·rintro d d' hs h w base ok x cs ⟨c0,c1,rfl,h0,h1⟩
  exact⟨c0,c1,rfl,hG.M d d' hs h _ _ _ _ _ h0,hH.M d d' hs h _ _ _ _ _ h1⟩
theorem mono_iso{α β γ:Type}{G:Kd α->Kd β}(f:γ->β)(hG:Mono G):Mono (fun d=>iso (G d) f):=
 ⟨hG.sz,fun d d' hs h w x cs=>hG.K d d' hs h w (f x) cs,fun d d' hs h w base ok x cs=>hG.M d d' hs h w base ok (f x) cs⟩
def Sub{α β:Type}(F:Kd α->Kd β)(E:List Nat):Prop:=∀d:Kd α,(∀q,q∈d.E->q∈E)->∀q,q∈(F d).E->q∈E
theorem upto_E{α:Type}{F:Kd α->Kd α}{sz:Nat}{E:List Nat}(h:Sub F E):∀n q,q∈(upto F sz E n).E->q∈E
 |0,_,hq=>hq
 |n+1,q,hq=>h _ (upto_E h n) q hq
theorem upto_sz{α:Type}{F:Kd α->Kd α}{sz:Nat}{E:List Nat}(h:∀d:Kd α,(F d).sz=sz):∀n,(upto F sz E n).sz=sz
 |0=>rfl
 |_+1=>h _
section
variable {α:Type} {F:Kd α->Kd α} {sz:Nat} {E:List Nat} {hs:∀n,(upto F sz E n).sz=sz} {hE:∀n q,q∈(upto F sz E n).E->q∈E}
theorem upto_K(hm:Mono F)(hs:∀n,(upto F sz E n).sz=sz):∀n {w x cs},(upto F sz E n).K w x cs->(upto F sz E (n+1)).K w x cs
 |0,_,_,_,h=>h.elim
 |n+1,_,_,_,h=>hm.K _ _ (by rw[hs n,hs (n+1)]) (fun _ _ _ hk=>upto_K hm hs n hk) _ _ _ h
theorem upto_M(hm:Mono F)(hs:∀n,(upto F sz E n).sz=sz):∀n {w base ok x cs},(upto F sz E n).M w base ok x cs->(upto F sz E (n+1)).M w base ok x cs
 |0,_,_,_,_,_,h=>h.elim
 |n+1,_,_,_,_,_,h=>hm.M _ _ (by rw[hs n,hs (n+1)]) (fun _ _ _ _ _ hk=>upto_M hm hs n hk) _ _ _ _ _ h
theorem upto_K_le(hm:Mono F)(hs:∀n,(upto F sz E n).sz=sz){n m:Nat}(hnm:n<=m){w x cs}(h:(upto F sz E n).K w x cs):(upto F sz E m).K w x cs:=by
 obtain⟨j,rfl⟩:=Nat.exists_eq_add_of_le hnm
 induction j with
 |zero=>exact h
 |succ j ih=>exact upto_K hm hs _ (ih (by omega))
theorem upto_M_le(hm:Mono F)(hs:∀n,(upto F sz E n).sz=sz){n m:Nat}(hnm:n<=m){w base ok x cs}(h:(upto F sz E n).M w base ok x cs):(upto F sz E m).M w base ok x cs:=by
 obtain⟨j,rfl⟩:=Nat.exists_eq_add_of_le hnm
 induction j with
 |zero=>exact h
 |succ j ih=>exact upto_M hm hs _ (ih (by omega))
theorem fix_C{n:Nat}{w:World}{A:Option Addr}{m:Nat}{xs:List α}(h:(upto F sz E n).C w A m xs):(fix F sz E hs hE).C w A m xs:=C_imp (d':=fix F sz E hs hE) (hs n) (fun w x cs hp=>(⟨n,hp⟩:∃n,(upto F sz E n).K w x cs)) h
theorem fix_R{n:Nat}{e:Nat}{w:World}{base:Nat}{ok:Nat->Prop}{v:Value}{xs:List α}(h:(upto F sz E n).R e w base ok v xs):(fix F sz E hs hE).R e w base ok v xs:=R_imp (d':=fix F sz E hs hE) (hs n) (fun w base ok x cs hp=>(⟨n,hp⟩:∃n,(upto F sz E n).M w base ok x cs)) h
theorem bounded{P:Nat->Nat->Prop}(hP:∀n m j,n<=m->P n j->P m j):∀m,(∀j,j<m->∃n,P n j)->∃N,∀j,j<m->P N j
 |0,_=>⟨0,fun j hj=>absurd hj (Nat.not_lt_zero j)⟩
 |m+1,h=>by
  obtain⟨N,hN⟩:=bounded hP m (fun j hj=>h j (by omega));obtain⟨n,hn⟩:=h m (by omega);refine⟨max N n,fun j hj=> ?_⟩;rcases Nat.lt_or_ge j m with hj'|hj'
  ·exact hP N _ j (Nat.le_max_left _ _) (hN j hj')
  ·have:j=m:=by omega
   subst this;exact hP n _ j (Nat.le_max_right _ _) hn
theorem reps_bounded{α:Type}{R:Nat->α->List Value->Prop}(hR:∀n m p c,n<=m->R n p c->R m p c){size:Nat}{ps:List α}{cs:List Value}(h:Reps (fun p c=>∃n,R n p c) size ps cs):∃N,Reps (R N) size ps cs:=by
 obtain⟨N,hN⟩:=bounded (P:=fun n j=>∀p,ps[j]? = some p->R n p ((cs.drop (j*size)).take size)) (fun n m j hnm hp p hj=>hR n m p _ hnm (hp p hj)) ps.length
  (fun j hj=>by
   obtain⟨n,hn⟩:=h.2 j _ (List.getElem?_eq_getElem hj);refine⟨n,fun p hp=> ?_⟩;rw[List.getElem?_eq_getElem hj] at hp
   injection hp with hp
   rw[<-hp];exact hn)
 exact⟨N,h.1,fun j p hj=>hN j (List.getElem?_eq_some_iff.1 hj).1 p hj⟩
theorem fix_R_back(hm:Mono F){e:Nat}{w:World}{base:Nat}{ok:Nat->Prop}{v:Value}{xs:List α}(h:(fix F sz E hs hE).R e w base ok v xs):∃n,(upto F sz E n).R e w base ok v xs:=by
 obtain⟨h0,inner,ho,hr⟩:=h;obtain⟨N,hN⟩:=reps_bounded (R:=fun n p c=>(upto F sz E n).M w base (fun k=>ok k/\some k≠v.ownBlock) p c) (fun n m p c hnm hp=>upto_M_le hm hs hnm hp) hr;refine⟨N,h0,inner,?_,?_⟩
 ·rw[hs N];exact ho
 ·rw[hs N];exact hN
theorem fix_C_back(hm:Mono F){w:World}{A:Option Addr}{m:Nat}{xs:List α}(h:(fix F sz E hs hE).C w A m xs):∃n,(upto F sz E n).C w A m xs:=by
 rcases Nat.eq_zero_or_pos m with hz|hpos
 ·subst hz
  exact⟨0,h.1,h.2.1,fun hp=>absurd hp (Nat.lt_irrefl 0)⟩
 ·obtain⟨ad,e,hc⟩:=h.2.2 hpos
  obtain⟨N,hN⟩:=bounded (P:=fun n j=>∀p,xs[j]? = some p->∃c,c.length=sz/\(upto F sz E n).K w p c/\∀i u,c[i]? = some u->w.cell? (ad.add (j*sz+i))=some u)
   (fun n n' j hnm hp p hj=>by
    obtain⟨c,h1,h2,h3⟩:=hp p hj;exact⟨c,h1,upto_K_le hm hs hnm h2,h3⟩) xs.length
   (fun j hj=>by
    obtain⟨c,h1,⟨n,h2⟩,h3⟩:=hc j _ (List.getElem?_eq_getElem hj);refine⟨n,fun p hp=> ?_⟩;rw[List.getElem?_eq_getElem hj] at hp
    injection hp with hp
    rw[<-hp];exact⟨c,h1,h2,h3⟩)
  refine⟨N,h.1,h.2.1,fun _=>⟨ad,e,fun j p hj=> ?_⟩⟩;rw[hs N];exact hN j (List.getElem?_eq_some_iff.1 hj).1 p hj
end
end Kd
namespace Kd
end Kd
namespace Kd
section
variable {α β:Type} {d:Kd α} {d':Kd β} {e e':Nat} {w w1 W:World} {base b b':Nat} {ok ok' okv oku:Nat->Prop} {v u:Value} {xs:List α} {ys:List β}
theorem R_alloc(h:d.R e w base ok v xs)(o:Obj):d.R e (w.alloc o) base ok v xs:=R_below h (bA (bR _ _) o)
theorem R_drewN(h:d.R e w base ok v xs)(m:Nat):d.R e (w.drewN m) base ok v xs:=R_below h (pD (bR _ _) m)
theorem C_len{A:Option Addr}{n:Nat}(h:d.C w A n xs):xs.length=n:=h.1
theorem C_max{A:Option Addr}{n:Nat}(h:d.C w A n xs):n<=9223372036854775807:=h.2.1
theorem R_reads'{A:Option Addr}{n c:Nat}(h:d.R e w base ok (.slice A n c) xs):n=xs.length/\n<=c/\d.C w A xs.length xs:=by
 obtain⟨A',c',he,hl,hr⟩:=R_reads h
 injection he with h1 h2 h3
 subst h1;exact⟨h2,by omega,hr⟩
theorem R_lt(h:d.R e w base ok v xs):∀k,v.ownBlock=some k->k<w.heap.size:=by
 obtain⟨inner,ho⟩:=R_own h;exact own_lt ho
theorem R_base(h:d.R e w base ok v xs):∀k,v.ownBlock=some k->base<=k:=by
 obtain⟨inner,ho⟩:=R_own h;exact own_base ho
theorem R_form(h:d.R e w base ok v xs)(hp:0<xs.length):∃g cap,v = .slice (some ⟨g,0,none⟩) xs.length cap/\base<=g/\g<w.heap.size/\∃cells,w.heap[g]? = some (.cells cells e (0,0)):=by
 obtain⟨inner,ho⟩:=R_own h;obtain⟨g,cap,he,hb,hl⟩:=ho.form hp;obtain⟨cells,hc⟩:=own_typed ho g (by rw[he];simp[Value.ownBlock]);exact⟨g,cap,he,hb,hl,cells,hc⟩
end
section
variable {w W:World} {A:Option Addr} {n:Nat}
theorem at_int{k:IntKind}{xs:List Int}(h:(Kd.int k).C w A n xs)(i:Int)(h0:0<=i)(h1:i<n):∃ad,A=some ad/\w.cell? (ad.add i.toNat)=some (.int k (rd xs i)):=
 ReadsOf.at_ (reads_of_C (enc:=Value.int k) (d:=(0:Int)) (h1:=fun _=>rfl) h) i h0 h1
theorem at_string{xs:List ByteArray}(h:Kd.string.C w A n xs)(i:Int)(h0:0<=i)(h1:i<n):∃ad,A=some ad/\w.cell? (ad.add i.toNat)=some (.string (rdOf ByteArray.empty xs i)):=
 ReadsOf.at_ (reads_of_C (enc:=Value.string) (d:=ByteArray.empty) (h1:=fun _=>rfl) h) i h0 h1
variable {α:Type} {enc:α->Value} {h1:∀x,(enc x).oneCell'=true} {e base g cap:Nat} {ok:Nat->Prop} {xs:List α}
end
section
variable {P:Program} {ops:Array Oper} {rest:List Oper} {o:Oper} {a:Act} {Q:Exit->Act->World->Prop}
theorem event_run{W w1:World}{v:Value}(hgd:o.guard=none)(hrun:(execOp a.eval o).run P W = .ok (.value v) w1)(h:wpList P ops Q rest (a.put o.dst v) w1):wpList P ops Q (o::rest) a W:=by
 refine wpList_plain hgd fun K hK=> ?_
 unfold Oper.wp;rw[hrun];exact hK _ _ h
variable {α:Type}
theorem R_lit(d:Kd α){w0 W:World}(base e:Nat)(hgd:o.guard=none){N:Tmp}(_hd:o.dst=some N){xs:List α}{inner:List Value}{ok okp:Nat->Prop}
  (hrun:(execOp a.eval o).run P W = .ok (.value (.slice (some ⟨W.heap.size,0,none⟩) xs.length xs.length)) (W.alloc (.cells inner.toArray e)))
  (hrep:Reps (d.M W base okp) d.sz xs inner) (hok:∀k,okp k->ok k) (hfresh:ok W.heap.size) (HB:Below base w0 W) (hbase:base<=W.heap.size) (hm:xs.length<=9223372036854775807)
  (h:∀v1 w1,d.R e w1 base ok v1 xs->Below base w0 w1->W.grownBy w1 none->(∃b,v1.ownBlock=some b/\W.heap.size<=b)->wpList P ops Q rest (a.put o.dst v1) w1):wpList P ops Q (o::rest) a W:=by
 refine event_run hgd hrun (h _ _ ⟨fun k hk=> ?_,inner,?_,?_⟩ (HB.alloc hbase _) (World.grownBy_alloc W _ none) ⟨W.heap.size,by simp[Value.ownBlock],Nat.le_refl _⟩)
 ·have:W.heap.size=k:=by simpa[Value.ownBlock] using hk
  subst this;exact hfresh
 ·have h2:=World.ownsRow_lit (base:=base) (e:=e) (size:=d.sz) W inner.toArray xs.length hbase (by simpa[maxLen] using hm) (by simpa using hrep.1)
  simpa using h2
 ·refine hrep.imp_ (fun p c hp=>d.M_mono (fun k hk=>⟨hok k hk.1,fun he=> ?_⟩) (M_below (d.M_bound hp) (bA (bR _ _) _)))
  have h3:k=W.heap.size:=by simpa[Value.ownBlock] using he
  have:=hk.2.2.1;omega
end
end Kd
section
variable {P:Program}
end
section
variable {w w1:World} {base n size:Nat} {e:TypeId} {v:Value} {xs:List Value}
end
section
variable {P:Program}
end
namespace Kd
section
variable {α:Type} {d:Kd α} {e:Nat} {w w1 W:World} {base:Nat} {ok ok':Nat->Prop} {v:Value} {xs:List α}
end
section
variable {P:Program} {ops:Array Oper} {rest:List Oper} {o:Oper} {a:Act} {Q':Exit->Act->World->Prop} {Kc:Act->World->Prop} {α:Type}
end
end Kd
namespace Kd
section
variable {α:Type} {d:Kd α} {e e':Nat} {w w1 W:World} {base:Nat} {ok:Nat->Prop} {u v:Value} {xs:List α}
end
end Kd
namespace Kd
section
variable {α:Type} {d:Kd α} {e base g n cap:Nat} {ok okp:Nat->Prop} {W:World} {xs:List α}
end
end Kd
namespace Kd
section
variable {α:Type} {F:Kd α->Kd α} {sz:Nat} {E:List Nat} {hs:∀n,(upto F sz E n).sz=sz} {hE:∀n q,q∈(upto F sz E n).E->q∈E}
end
end Kd
namespace Kd
theorem reps_append{α:Type}{R:α->List Value->Prop}{size:Nat}{ps qs:List α}{cs ds:List Value}(h:Reps R size ps cs)(h':Reps R size qs ds):Reps R size (ps++qs) (cs++ds):=by
 refine⟨by rw[List.length_append,List.length_append,h.1,h'.1,Nat.add_mul],fun j p hj=> ?_⟩;rcases Nat.lt_or_ge j ps.length with hlt|hge
 ·rw[List.getElem?_append_left hlt] at hj
  have hle:j*size+size<=cs.length:=by rw[h.1,<-Nat.succ_mul];exact Nat.mul_le_mul_right _ hlt
  rw[List.drop_append_of_le_length (by omega),List.take_append_of_le_length (by rw[List.length_drop];omega)];exact h.2 j p hj
 ·rw[List.getElem?_append_right hge] at hj
  have h2:=h'.2 (j-ps.length) p hj;have hle:ps.length*size<=j*size:=Nat.mul_le_mul_right _ hge;rw[List.drop_append,List.drop_eq_nil_of_le (by rw[h.1];exact hle),List.nil_append,h.1,<-Nat.sub_mul];exact h2
section
variable {P:Program} {ops:Array Oper} {rest:List Oper} {o:Oper} {a:Act} {Q:Exit->Act->World->Prop} {α:Type}
theorem R_append_rows(d:Kd α){Rr:α->List Value->Prop}{w0 W:World}(base:Nat)(hgd:o.guard=none)(s x:Operand)(t e:TypeId)(z:Value)(bytes:Nat)
  (ho:o.op = .call {callee:= .builtin .append,args:= #[s,x],argTypes:= #[t,t]})
  (ht:P.underlying t=some (.slice e)) (hinfo:(P.info? e).map (fun i=>(i.zero,i.size,i.bytes))=some (some z,d.sz,bytes)) (hz:z.cells.size=d.sz) (hs0:0<d.sz) (hb0:0<bytes)
  (v:Value) (xs ys:List α) (A:Option Addr) (m c:Nat) (ok okp:Nat->Prop) (hs:a.eval s=v) (hx:a.eval x = .slice A m c)
  (HO:d.R e W base ok v xs) (HR:ReadsRow Rr d.sz W A m ys) (hKM:∀x cs,Rr x cs->d.M W base okp x cs) (hokp:∀k,okp k->ok k/\some k≠v.ownBlock) (hfresh:∀k,W.heap.size<=k->ok k)
  (HB:Below base w0 W) (hbase:base<=W.heap.size) (hl:(xs.length+m)*bytes<=140737488355328)
  (h:∀v1 w1,d.R e w1 base ok v1 (xs++ys)->Below base w0 w1->W.grownBy w1 v.ownBlock->(v1.ownBlock=v.ownBlock\/∃b,v1.ownBlock=some b/\W.heap.size<=b)->wpList P ops Q rest (a.put o.dst v1) w1):
  wpList P ops Q (o::rest) a W:=by
 obtain⟨i0,hi,hzz⟩:=Option.map_eq_some_iff.1 hinfo;simp only[Prod.mk.injEq] at hzz;obtain⟨hz0,hz1,hz2⟩:=hzz;have hm:ys.length=m:=HR.1;have hlen:xs.length+m<=140737488355328:=Nat.le_trans (Nat.le_mul_of_pos_right _ hb0) hl;obtain⟨hok,inner,hown,hr⟩:=HO;have hrun:∃v1 w1,(Builtin.append_ #[t,t] o.type #[v,.slice A m c]).run P W = .ok v1 w1/\d.R e w1 base ok v1 (xs++ys)/\W.grownBy w1 v.ownBlock/\(v1.ownBlock=v.ownBlock\/∃b,v1.ownBlock=some b/\W.heap.size<=b):=by
  rcases A with _|ad
  ·have h0:m=0:=by
    rcases Nat.eq_zero_or_pos m with h0|h0
    ·exact h0
    ·obtain⟨ad,h,_⟩:=HR.2.2 h0
     cases h
   subst h0;obtain rfl:ys=[]:=List.eq_nil_of_length_eq_zero hm;refine⟨v,W,?_,by rw[List.append_nil];exact⟨hok,inner,hown,hr⟩,World.grownBy.refl W _,.inl rfl⟩;rcases hown.2 with⟨rfl,hn⟩|⟨g,cap,cur,rfl,_,_,hnc,_⟩
   ·simp[Builtin.append_,run_underlying ht,sizeOf,typeInfo,hi,Builtin.lenOf,Builtin.firstCells]
   ·simp[Builtin.append_,run_underlying ht,sizeOf,typeInfo,hi,Builtin.lenOf,Builtin.firstCells,hnc,storeCells]
  ·obtain⟨news,hnr,hnc⟩:=ReadsRow.inner_ HR
   have hnM:Reps (d.M W base okp) d.sz ys news:=hnr.imp_ (fun p c hp=>hKM p c hp);have hone:∀u∈news,u.oneCell'=true:=by
    intro u hu;obtain⟨q,hq,rfl⟩:=List.mem_iff_getElem.1 hu;have hql:q/d.sz<ys.length:=by
     rw[Nat.div_lt_iff_lt_mul hs0];rw[<-hnM.1];exact hq
    have hc:=hnM.2 (q/d.sz) _ (List.getElem?_eq_getElem hql);refine d.K_one (d.K_of_M hc) _ ?_;rw[List.mem_iff_getElem?];refine⟨q%d.sz,?_⟩;rw[List.getElem?_take,if_pos (Nat.mod_lt _ hs0),List.getElem?_drop,Nat.mul_comm,Nat.div_add_mod,List.getElem?_eq_getElem hq]
   obtain⟨v1,w1,hrun,h2,hg,_,hat⟩:=run_append_own_at (P:=P) W base t o.type e i0 z d.sz bytes ht hi hz0 hz1 hz2 hz hs0 v xs.length inner hown ad m c news (by rw[hnM.1,hm]) hnc hone (by simp only[maxLen];omega) hl hbase;have hat':v1.ownBlock=v.ownBlock\/∃b,v1.ownBlock=some b/\W.heap.size<=b:=by
    rcases hat with hat|hat
    ·exact .inl hat
    ·exact .inr ⟨_,hat,Nat.le_refl _⟩
   have hne:∀k,some k≠v.ownBlock->k<W.heap.size->some k≠v1.ownBlock:=by
    intro k hk hlt;rcases hat' with hat|⟨b,hb,hle⟩
    ·rw[hat];exact hk
    ·rw[hb]
     intro he
     injection he with he
     omega
   have step:∀{q:α} {c:List Value} {o:Nat->Prop},d.M W base o q c->(∀k,o k->ok k/\some k≠v.ownBlock)->d.M w1 base (fun k=>ok k/\some k≠v1.ownBlock) q c:=by
    intro q c o hq ho;have h1:=d.M_move (w1:=w1) (fun k hk=>hg.block k hk.2.2.1 (ho k hk.1).2) (d.M_bound hq);exact d.M_mono (fun k hk=>⟨(ho k hk.1).1,hne k (ho k hk.1).2 hk.2.2.1⟩) h1
   refine⟨v1,w1,hrun,⟨fun k hk=> ?_,inner++news,by rw[List.length_append,hm];exact h2,reps_append (hr.imp_ (fun _ _ hq=>step hq (fun _ hk=>hk))) (hnM.imp_ (fun _ _ hq=>step hq hokp))⟩,hg,hat'⟩;rcases hat' with hat|⟨b,hb,hle⟩
   ·exact hok k (hat▸hk)
   ·rw[hb] at hk
    injection hk with hk
    exact hfresh k (by omega)
 obtain⟨v1,w1,hr1,h1,hg,hat⟩:=hrun;refine wpList_plain hgd fun K hK=> ?_
 unfold Oper.wp execOp;simp only[ho,resolve,invoke,builtin,Sem.run_bind,Sem.run_pure,Result.andThen_ok,List.map_toArray,List.map_cons,List.map_nil,hs,hx,hr1];exact hK _ _ (h v1 w1 h1 (HB.grown hg hbase (own_base hown)) hg hat)
end
end Kd
namespace Kd
section
variable {P:Program} {ops:Array Oper} {rest:List Oper} {o:Oper} {a:Act} {Q:Exit->Act->World->Prop} {α:Type}
end
end Kd
theorem add_add(a:Addr)(i j:Nat):(a.add i).add j=a.add (i+j):=by
 unfold Addr.add
 by_cases h1:i=0<;>by_cases h2:j=0<;>simp[h1,h2,Nat.add_assoc]
namespace Kd
section
variable {α:Type} {k:Kd α} {w:World} {A:Option Addr} {xs:List α} {m c:Nat}
theorem C_take(h:k.C w A xs.length xs)(hm:m<=xs.length):k.C w A (xs.take m).length (xs.take m):=by
 have hl:(xs.take m).length=m:=by rw[List.length_take];omega
 refine⟨rfl,by rw[hl];have:=h.2.1;omega,fun hp=> ?_⟩;obtain⟨ad,e,hc⟩:=h.2.2 (by omega);refine⟨ad,e,fun j p hj=>hc j p ?_⟩;rw[List.getElem?_take] at hj
 split at hj
 ·exact hj
 ·cases hj
theorem C_drop(h:k.C w A xs.length xs)(hm:m<=xs.length)(hc:xs.length<=c):k.C w (if c=m then A else A.map (·.add (m*k.sz))) (xs.drop m).length (xs.drop m):=by
 have hl:(xs.drop m).length=xs.length-m:=List.length_drop;refine⟨rfl,by rw[hl];have:=h.2.1;omega,fun hp=> ?_⟩;rw[hl] at hp;obtain⟨ad,rfl,hcell⟩:=h.2.2 (by omega);rw[if_neg (by omega)];refine⟨ad.add (m*k.sz),rfl,fun j p hj=> ?_⟩;rw[List.getElem?_drop] at hj;obtain⟨cs,h1,h2,h3⟩:=hcell (m+j) p hj;refine⟨cs,h1,h2,fun i u hu=> ?_⟩;rw[add_add,show m*k.sz+(j*k.sz+i)=(m+j)*k.sz+i by rw[Nat.add_mul];omega];exact h3 i u hu
end
end Kd
section
variable {P:Program}
end
theorem below_size{w W:World}(h:Below w.heap.size w W):w.heap.size<=W.heap.size:=h.size
theorem below_step{w W w2:World}(h:Below w.heap.size w W)(k:Below W.heap.size W w2):Below w.heap.size w w2:=below_then h h.size k
theorem keep_drewN{w W:World}{g:Nat}{row:Option Nat}(h:KeepBut w W g row)(m:Nat):KeepBut w (W.drewN m) g row:=h
theorem keep_far{w W:World}{g:Nat}{row:Option Nat}(h:KeepBut w W g row){p:Addr}(hp:w.heap.size<=p.block)(u:Value):KeepBut w (W.setCell p u) g row:=
 ⟨by simpa[World.setCell] using h.1,fun i hi hg hr=>(Below.heap_setCell W p u i (by omega)).trans (h.2 i hi hg hr)⟩
theorem bD{base:Nat}{w W:World}(h:Below base w W):Below base w W.drew:=h.drew
namespace Kd
section
variable {α β:Type} {d:Kd α} {d':Kd β} {e e' base base' n:Nat} {ok ok':Nat->Prop} {w W w1 W1:World} {v u:Value} {xs:List α} {ys:List β} {A:Option Addr} {c:Nat}
end
section
variable {α:Type} {enc:α->Value} {h1:∀x,(enc x).oneCell'=true} {w W:World} {A:Option Addr} {n g:Nat} {xs:List α}
end
end Kd
namespace Kd
section
variable {α:Type} {d:Kd α} {e base g:Nat} {ok:Nat->Prop} {w w1:World} {v:Value} {xs:List α} {o:Obj}
end
end Kd
section
variable {P:Program} {ops:Array Oper} {rest:List Oper} {o:Oper} {a:Act} {Q:Exit->Act->World->Prop}
theorem box_event{W:World}(hgd:o.guard=none){N:Tmp}(_hd:o.dst=some N){cs:Array Value}{t:TypeId}
  (hrun:(execOp a.eval o).run P W = .ok (.value (.pointer (some ⟨W.heap.size,0,none⟩))) (W.alloc (.cells cs t (0,0))))
  (h:∀g,g=W.heap.size->∀w1,w1.heap[g]? = some (.cells cs t (0,0))->Below W.heap.size W w1->wpList P ops Q rest (a.put o.dst (.pointer (some ⟨g,0,none⟩))) w1):wpList P ops Q (o::rest) a W:=
 Kd.event_run hgd hrun (h _ rfl _ (blk_new W _) (bA (bR _ _) _))
end
namespace Kd
section
variable {α:Type} {enc:α->Value} {h1:∀x,(enc x).oneCell'=true} {e base g n cap:Nat} {ok:Nat->Prop} {W:World} {xs:List α}
end
end Kd
section
variable {P:Program} {ops:Array Oper} {rest:List Oper} {o:Oper} {a:Act} {Q:Exit->Act->World->Prop}
end
namespace Kd
section
variable {α:Type} {enc:α->Value} {h1:∀x,(enc x).oneCell'=true} {e base g n cap:Nat} {ok:Nat->Prop} {W:World} {xs:List α}
end
end Kd
section
variable {P:Program} {ops:Array Oper} {rest:List Oper} {o:Oper} {a:Act} {Q:Exit->Act->World->Prop} {W:World}
theorem gate_dst{N:Tmp}(_hN:o.dst=some N)(h:wpList P ops Q (o::rest) a W):wpList P ops Q (o::rest) a W:=h
end
section
variable {P:Program} {ops:Array Oper} {o:Oper} {a:Act} {Q:Exit->Act->World->Prop} {Kc:Act->World->Prop}
theorem event_step{W w1:World}{v:Value}(hw:Region.wanted o (yielded ops a.tmps)=true)(hrun:(execOp a.eval o).run P W = .ok (.value v) w1)(h:Kc (a.put o.dst v) w1):if Region.wanted o (yielded ops a.tmps)=true then Oper.wp P o a W Kc Q else Kc (a.put o.dst undef) W:=by
 rw[if_pos hw];unfold Oper.wp;rw[hrun];exact h
namespace Kd
variable {α:Type}
theorem R_lit_step(d:Kd α){w0 W:World}(base e:Nat)(hw:Region.wanted o (yielded ops a.tmps)=true){N:Tmp}(_hd:o.dst=some N){xs:List α}{inner:List Value}{ok okp:Nat->Prop}
  (hrun:(execOp a.eval o).run P W = .ok (.value (.slice (some ⟨W.heap.size,0,none⟩) xs.length xs.length)) (W.alloc (.cells inner.toArray e)))
  (hrep:Reps (d.M W base okp) d.sz xs inner) (hok:∀k,okp k->ok k) (hfresh:ok W.heap.size) (HB:Below base w0 W) (hbase:base<=W.heap.size) (hm:xs.length<=9223372036854775807)
  (h:∀v1 w1,d.R e w1 base ok v1 xs->Below base w0 w1->W.grownBy w1 none->(∃b,v1.ownBlock=some b/\W.heap.size<=b)->Kc (a.put o.dst v1) w1):if Region.wanted o (yielded ops a.tmps)=true then Oper.wp P o a W Kc Q else Kc (a.put o.dst undef) W:=by
 refine event_step hw hrun (h _ _ ⟨fun k hk=> ?_,inner,?_,?_⟩ (HB.alloc hbase _) (World.grownBy_alloc W _ none) ⟨W.heap.size,by simp[Value.ownBlock],Nat.le_refl _⟩)
 ·have:W.heap.size=k:=by simpa[Value.ownBlock] using hk
  subst this;exact hfresh
 ·have h2:=World.ownsRow_lit (base:=base) (e:=e) (size:=d.sz) W inner.toArray xs.length hbase (by simpa[maxLen] using hm) (by simpa using hrep.1)
  simpa using h2
 ·refine hrep.imp_ (fun p c hp=>d.M_mono (fun k hk=>⟨hok k hk.1,fun he=> ?_⟩) (M_below (d.M_bound hp) (bA (bR _ _) _)))
  have h3:k=W.heap.size:=by simpa[Value.ownBlock] using he
  have:=hk.2.2.1;omega
theorem R_append_rows_step(d:Kd α){Rr:α->List Value->Prop}{w0 W:World}(base:Nat)(hw:Region.wanted o (yielded ops a.tmps)=true)(s x:Operand)(t e:TypeId)(z:Value)(bytes:Nat)
  (ho:o.op = .call {callee:= .builtin .append,args:= #[s,x],argTypes:= #[t,t]})
  (ht:P.underlying t=some (.slice e)) (hinfo:(P.info? e).map (fun i=>(i.zero,i.size,i.bytes))=some (some z,d.sz,bytes)) (hz:z.cells.size=d.sz) (hs0:0<d.sz) (hb0:0<bytes)
  (v:Value) (xs ys:List α) (A:Option Addr) (m c:Nat) (ok okp:Nat->Prop) (hs:a.eval s=v) (hx:a.eval x = .slice A m c)
  (HO:d.R e W base ok v xs) (HR:ReadsRow Rr d.sz W A m ys) (hKM:∀x cs,Rr x cs->d.M W base okp x cs) (hokp:∀k,okp k->ok k/\some k≠v.ownBlock) (hfresh:∀k,W.heap.size<=k->ok k)
  (HB:Below base w0 W) (hbase:base<=W.heap.size) (hl:(xs.length+m)*bytes<=140737488355328)
  (h:∀v1 w1,d.R e w1 base ok v1 (xs++ys)->Below base w0 w1->W.grownBy w1 v.ownBlock->(v1.ownBlock=v.ownBlock\/∃b,v1.ownBlock=some b/\W.heap.size<=b)->Kc (a.put o.dst v1) w1):
  if Region.wanted o (yielded ops a.tmps)=true then Oper.wp P o a W Kc Q else Kc (a.put o.dst undef) W:=by
 obtain⟨i0,hi,hzz⟩:=Option.map_eq_some_iff.1 hinfo;simp only[Prod.mk.injEq] at hzz;obtain⟨hz0,hz1,hz2⟩:=hzz;have hm:ys.length=m:=HR.1;have hlen:xs.length+m<=140737488355328:=Nat.le_trans (Nat.le_mul_of_pos_right _ hb0) hl;obtain⟨hok,inner,hown,hr⟩:=HO;have hrun:∃v1 w1,(Builtin.append_ #[t,t] o.type #[v,.slice A m c]).run P W = .ok v1 w1/\d.R e w1 base ok v1 (xs++ys)/\W.grownBy w1 v.ownBlock/\(v1.ownBlock=v.ownBlock\/∃b,v1.ownBlock=some b/\W.heap.size<=b):=by
  rcases A with _|ad
  ·have h0:m=0:=by
    rcases Nat.eq_zero_or_pos m with h0|h0
    ·exact h0
    ·obtain⟨ad,h,_⟩:=HR.2.2 h0
     cases h
   subst h0;obtain rfl:ys=[]:=List.eq_nil_of_length_eq_zero hm;refine⟨v,W,?_,by rw[List.append_nil];exact⟨hok,inner,hown,hr⟩,World.grownBy.refl W _,.inl rfl⟩;rcases hown.2 with⟨rfl,hn⟩|⟨g,cap,cur,rfl,_,_,hnc,_⟩
   ·simp[Builtin.append_,run_underlying ht,sizeOf,typeInfo,hi,Builtin.lenOf,Builtin.firstCells]
   ·simp[Builtin.append_,run_underlying ht,sizeOf,typeInfo,hi,Builtin.lenOf,Builtin.firstCells,hnc,storeCells]
  ·obtain⟨news,hnr,hnc⟩:=ReadsRow.inner_ HR
   have hnM:Reps (d.M W base okp) d.sz ys news:=hnr.imp_ (fun p c hp=>hKM p c hp);have hone:∀u∈news,u.oneCell'=true:=by
    intro u hu;obtain⟨q,hq,rfl⟩:=List.mem_iff_getElem.1 hu;have hql:q/d.sz<ys.length:=by
     rw[Nat.div_lt_iff_lt_mul hs0];rw[<-hnM.1];exact hq
    have hc:=hnM.2 (q/d.sz) _ (List.getElem?_eq_getElem hql);refine d.K_one (d.K_of_M hc) _ ?_;rw[List.mem_iff_getElem?];refine⟨q%d.sz,?_⟩;rw[List.getElem?_take,if_pos (Nat.mod_lt _ hs0),List.getElem?_drop,Nat.mul_comm,Nat.div_add_mod,List.getElem?_eq_getElem hq]
   obtain⟨v1,w1,hrun,h2,hg,_,hat⟩:=run_append_own_at (P:=P) W base t o.type e i0 z d.sz bytes ht hi hz0 hz1 hz2 hz hs0 v xs.length inner hown ad m c news (by rw[hnM.1,hm]) hnc hone (by simp only[maxLen];omega) hl hbase;have hat':v1.ownBlock=v.ownBlock\/∃b,v1.ownBlock=some b/\W.heap.size<=b:=by
    rcases hat with hat|hat
    ·exact .inl hat
    ·exact .inr ⟨_,hat,Nat.le_refl _⟩
   have hne:∀k,some k≠v.ownBlock->k<W.heap.size->some k≠v1.ownBlock:=by
    intro k hk hlt;rcases hat' with hat|⟨b,hb,hle⟩
    ·rw[hat];exact hk
    ·rw[hb]
     intro he
     injection he with he
     omega
   have step:∀{q:α} {c:List Value} {o:Nat->Prop},d.M W base o q c->(∀k,o k->ok k/\some k≠v.ownBlock)->d.M w1 base (fun k=>ok k/\some k≠v1.ownBlock) q c:=by
    intro q c o hq ho;have h1:=d.M_move (w1:=w1) (fun k hk=>hg.block k hk.2.2.1 (ho k hk.1).2) (d.M_bound hq);exact d.M_mono (fun k hk=>⟨(ho k hk.1).1,hne k (ho k hk.1).2 hk.2.2.1⟩) h1
   refine⟨v1,w1,hrun,⟨fun k hk=> ?_,inner++news,by rw[List.length_append,hm];exact h2,reps_append (hr.imp_ (fun _ _ hq=>step hq (fun _ hk=>hk))) (hnM.imp_ (fun _ _ hq=>step hq hokp))⟩,hg,hat'⟩;rcases hat' with hat|⟨b,hb,hle⟩
   ·exact hok k (hat▸hk)
   ·rw[hb] at hk
    injection hk with hk
    exact hfresh k (by omega)
 obtain⟨v1,w1,hr1,h1,hg,hat⟩:=hrun;rw[if_pos hw];unfold Oper.wp execOp;simp only[ho,resolve,invoke,builtin,Sem.run_bind,Sem.run_pure,Result.andThen_ok,List.map_toArray,List.map_cons,List.map_nil,hs,hx,hr1];exact h v1 w1 h1 (HB.grown hg hbase (own_base hown)) hg hat
end Kd
end
inductive Vals(P:Program)(tmps:Array Value)(w:World):List ResultVar->List Value->Prop where
 |nil:Vals P tmps w [] []
 |tmp {u:Tmp} {rs:List ResultVar} {vs:List Value} (h:Vals P tmps w rs vs):Vals P tmps w (.tmp u::rs) (tmps.getD u undef::vs)
 |cell {p:Tmp} {ty:TypeId} {rs:List ResultVar} {vs:List Value} (g:Nat) (t:TypeId) (cs:Array Value) (fr:Nat×Nat) (d:TypeDesc)
   (hp:tmps.getD p undef = .pointer (some ⟨g,0,none⟩)) (hg:w.heap[g]? = some (.cells cs t fr))
   (hu:P.underlying ty=some d) (hd:(match d with | .struct _ | .array _ _=>true|_=>false)=true) (hi:(P.info? ty).map (·.size)=some cs.size)
   (h:Vals P tmps w rs vs):Vals P tmps w (.cell p ty::rs) (.agg cs::vs)
section
variable {P:Program} {tmps:Array Value} {w:World}
end
namespace Kd
section
variable {P:Program} {α:Type}
end
section
variable {P:Program} {ops:Array Oper} {rest:List Oper} {o:Oper} {a:Act} {Q:Exit->Act->World->Prop} {Kc:Act->World->Prop} {α:Type}
end
end Kd
theorem bC3{w:World}{g:Nat}{t:TypeId}{cs:Array Value}(h:w.heap[g]? = some (.cells cs t (0,0))):w.cell? ⟨g,0,none⟩=cs[0]?/\w.cell? ⟨g,1,none⟩=cs[1]?/\w.cell? ⟨g,2,none⟩=cs[2]? :=⟨bC h 0,bC h 1,bC h 2⟩
theorem bF3{w:World}{g:Nat}{t:TypeId}{cs:Array Value}(h:w.heap[g]? = some (.cells cs t (0,0))):w.frozen? ⟨g,0,none⟩=false/\w.frozen? ⟨g,1,none⟩=false/\w.frozen? ⟨g,2,none⟩=false:=⟨bF h 0,bF h 1,bF h 2⟩
theorem pB3{w w1:World}(h:Below w.heap.size w w1){a0 a1 a2:Addr}{u0 u1 u2:Value}(h0:w.cell? a0=some u0)(h1:w.cell? a1=some u1)(h2:w.cell? a2=some u2):w1.cell? a0=some u0/\w1.cell? a1=some u1/\w1.cell? a2=some u2:=⟨pB h h0,pB h h1,pB h h2⟩
theorem bC4{w:World}{g:Nat}{t:TypeId}{cs:Array Value}(h:w.heap[g]? = some (.cells cs t (0,0))):w.cell? ⟨g,0,none⟩=cs[0]?/\w.cell? ⟨g,1,none⟩=cs[1]?/\w.cell? ⟨g,2,none⟩=cs[2]?/\w.cell? ⟨g,3,none⟩=cs[3]? :=⟨bC h 0,bC h 1,bC h 2,bC h 3⟩
theorem bF4{w:World}{g:Nat}{t:TypeId}{cs:Array Value}(h:w.heap[g]? = some (.cells cs t (0,0))):w.frozen? ⟨g,0,none⟩=false/\w.frozen? ⟨g,1,none⟩=false/\w.frozen? ⟨g,2,none⟩=false/\w.frozen? ⟨g,3,none⟩=false:=⟨bF h 0,bF h 1,bF h 2,bF h 3⟩
theorem pB4{w w1:World}(h:Below w.heap.size w w1){a0 a1 a2 a3:Addr}{u0 u1 u2 u3:Value}(h0:w.cell? a0=some u0)(h1:w.cell? a1=some u1)(h2:w.cell? a2=some u2)(h3:w.cell? a3=some u3):w1.cell? a0=some u0/\w1.cell? a1=some u1/\w1.cell? a2=some u2/\w1.cell? a3=some u3:=⟨pB h h0,pB h h1,pB h h2,pB h h3⟩
theorem bC5{w:World}{g:Nat}{t:TypeId}{cs:Array Value}(h:w.heap[g]? = some (.cells cs t (0,0))):w.cell? ⟨g,0,none⟩=cs[0]?/\w.cell? ⟨g,1,none⟩=cs[1]?/\w.cell? ⟨g,2,none⟩=cs[2]?/\w.cell? ⟨g,3,none⟩=cs[3]?/\w.cell? ⟨g,4,none⟩=cs[4]? :=⟨bC h 0,bC h 1,bC h 2,bC h 3,bC h 4⟩
theorem bF5{w:World}{g:Nat}{t:TypeId}{cs:Array Value}(h:w.heap[g]? = some (.cells cs t (0,0))):w.frozen? ⟨g,0,none⟩=false/\w.frozen? ⟨g,1,none⟩=false/\w.frozen? ⟨g,2,none⟩=false/\w.frozen? ⟨g,3,none⟩=false/\w.frozen? ⟨g,4,none⟩=false:=⟨bF h 0,bF h 1,bF h 2,bF h 3,bF h 4⟩
theorem pB5{w w1:World}(h:Below w.heap.size w w1){a0 a1 a2 a3 a4:Addr}{u0 u1 u2 u3 u4:Value}(h0:w.cell? a0=some u0)(h1:w.cell? a1=some u1)(h2:w.cell? a2=some u2)(h3:w.cell? a3=some u3)(h4:w.cell? a4=some u4):w1.cell? a0=some u0/\w1.cell? a1=some u1/\w1.cell? a2=some u2/\w1.cell? a3=some u3/\w1.cell? a4=some u4:=⟨pB h h0,pB h h1,pB h h2,pB h h3,pB h h4⟩
theorem bC6{w:World}{g:Nat}{t:TypeId}{cs:Array Value}(h:w.heap[g]? = some (.cells cs t (0,0))):w.cell? ⟨g,0,none⟩=cs[0]?/\w.cell? ⟨g,1,none⟩=cs[1]?/\w.cell? ⟨g,2,none⟩=cs[2]?/\w.cell? ⟨g,3,none⟩=cs[3]?/\w.cell? ⟨g,4,none⟩=cs[4]?/\w.cell? ⟨g,5,none⟩=cs[5]? :=⟨bC h 0,bC h 1,bC h 2,bC h 3,bC h 4,bC h 5⟩
theorem bF6{w:World}{g:Nat}{t:TypeId}{cs:Array Value}(h:w.heap[g]? = some (.cells cs t (0,0))):w.frozen? ⟨g,0,none⟩=false/\w.frozen? ⟨g,1,none⟩=false/\w.frozen? ⟨g,2,none⟩=false/\w.frozen? ⟨g,3,none⟩=false/\w.frozen? ⟨g,4,none⟩=false/\w.frozen? ⟨g,5,none⟩=false:=⟨bF h 0,bF h 1,bF h 2,bF h 3,bF h 4,bF h 5⟩
theorem pB6{w w1:World}(h:Below w.heap.size w w1){a0 a1 a2 a3 a4 a5:Addr}{u0 u1 u2 u3 u4 u5:Value}(h0:w.cell? a0=some u0)(h1:w.cell? a1=some u1)(h2:w.cell? a2=some u2)(h3:w.cell? a3=some u3)(h4:w.cell? a4=some u4)(h5:w.cell? a5=some u5):w1.cell? a0=some u0/\w1.cell? a1=some u1/\w1.cell? a2=some u2/\w1.cell? a3=some u3/\w1.cell? a4=some u4/\w1.cell? a5=some u5:=⟨pB h h0,pB h h1,pB h h2,pB h h3,pB h h4,pB h h5⟩
theorem bC7{w:World}{g:Nat}{t:TypeId}{cs:Array Value}(h:w.heap[g]? = some (.cells cs t (0,0))):w.cell? ⟨g,0,none⟩=cs[0]?/\w.cell? ⟨g,1,none⟩=cs[1]?/\w.cell? ⟨g,2,none⟩=cs[2]?/\w.cell? ⟨g,3,none⟩=cs[3]?/\w.cell? ⟨g,4,none⟩=cs[4]?/\w.cell? ⟨g,5,none⟩=cs[5]?/\w.cell? ⟨g,6,none⟩=cs[6]? :=⟨bC h 0,bC h 1,bC h 2,bC h 3,bC h 4,bC h 5,bC h 6⟩
theorem bF7{w:World}{g:Nat}{t:TypeId}{cs:Array Value}(h:w.heap[g]? = some (.cells cs t (0,0))):w.frozen? ⟨g,0,none⟩=false/\w.frozen? ⟨g,1,none⟩=false/\w.frozen? ⟨g,2,none⟩=false/\w.frozen? ⟨g,3,none⟩=false/\w.frozen? ⟨g,4,none⟩=false/\w.frozen? ⟨g,5,none⟩=false/\w.frozen? ⟨g,6,none⟩=false:=⟨bF h 0,bF h 1,bF h 2,bF h 3,bF h 4,bF h 5,bF h 6⟩
theorem pB7{w w1:World}(h:Below w.heap.size w w1){a0 a1 a2 a3 a4 a5 a6:Addr}{u0 u1 u2 u3 u4 u5 u6:Value}(h0:w.cell? a0=some u0)(h1:w.cell? a1=some u1)(h2:w.cell? a2=some u2)(h3:w.cell? a3=some u3)(h4:w.cell? a4=some u4)(h5:w.cell? a5=some u5)(h6:w.cell? a6=some u6):w1.cell? a0=some u0/\w1.cell? a1=some u1/\w1.cell? a2=some u2/\w1.cell? a3=some u3/\w1.cell? a4=some u4/\w1.cell? a5=some u5/\w1.cell? a6=some u6:=⟨pB h h0,pB h h1,pB h h2,pB h h3,pB h h4,pB h h5,pB h h6⟩
theorem aM{p:Prop}(h:p):Aside0 p:=⟨h⟩
end Go.Proofs.YtoimaaonloibfaaGreatDoor.W1
namespace Go.Proofs.YtoimaaonloibfaaGreatDoor.W2
section
variable {P:Program} {ops:Array Oper} {Q:Exit->Act->World->Prop} {md:Region.Mode} {S:World->Prop} {ds:List Nat}
def wpAnyLast(P:Program)(md:Region.Mode)(ops:Array Oper)(Q:Exit->Act->World->Prop)(S:World->Prop)(ds:List Nat):Nat->Array Bool->Act->World->Prop
 |0,listed,a,w=>Region.ready md ops listed=[]/\Q .normal a w
 |fuel+1,listed,a,w=>
  (Region.ready md ops listed=[]->Q .normal a w)/\
  ∀i∈Region.ready md ops listed,wpOp P ops Q i (fun a' w'=>(i∉ds->S w->S w')/\wpAnyLast P md ops Q S ds fuel (listed.setIfInBounds i true) a' w') a w
theorem wpAny_of_last:∀(fuel:Nat) (listed:Array Bool) (a:Act) (w:World),wpAnyLast P md ops Q S ds fuel listed a w->wpAny P md ops Q fuel listed a w
 |0,_,_,_,h=>h
 |fuel+1,_,_,_,h=>⟨h.1,fun i hi=>wpOp_mono (fun a' w' h'=>wpAny_of_last fuel _ a' w' h'.2) (h.2 i hi)⟩
theorem wpAnyLast_any{i:Nat}{oi:Oper}{v:Value}(hi:ops[i]? = some oi)(hsel:∀(j:Nat) (o:Oper) cs b,ops[j]? = some o->o.op≠.select cs b)
  (hQ:∀c a w,Q (.panic c) (a.put oi.dst v) w->Q (.panic c) a w):
  ∀(fuel:Nat) (listed:Array Bool) (a:Act) (w:World),
   (∀j oj,ops[j]? = some oj->j≠i->listed.getD j true=false->(∀e∈oj.after,Region.binds md e=true->e.on≠i)->oi.apart ops oj=true)->
   i∈Region.ready md ops listed->Yields P ops oi v a->
   wpAnyLast P md ops Q S ds fuel (listed.setIfInBounds i true) (a.put oi.dst v) w->wpAnyLast P md ops Q S ds (fuel+1) listed a w:=by
 intro fuel
 induction fuel with
 |zero=>
  intro listed a w _ hr hy H;refine⟨fun h=>(by rw[h] at hr;cases hr),fun j hj=> ?_⟩
  by_cases hji:j=i
  ·subst hji;exact(hy.yieldsIf (S:=fun _=>True)).wpOp hi trivial ⟨fun _ h=>h,H⟩
  ·have:=ready_mono hj hji
   rw[H.1] at this
   cases this
 |succ fuel ih=>
  intro listed a w hfree hr hy H;refine⟨fun h=>(by rw[h] at hr;cases hr),fun j hj=> ?_⟩
  by_cases hji:j=i
  ·subst hji;exact(hy.yieldsIf (S:=fun _=>True)).wpOp hi trivial ⟨fun _ h=>h,H⟩
  ·have h1:=H.2 j (ready_mono hj hji)
   obtain⟨hjun,oj,hoj,hall⟩:=mem_ready.1 hj;have hiun:=(mem_ready.1 hr).1;have hnot:∀e∈oj.after,Region.binds md e=true->e.on≠i:=fun e he hb heq=>by
    have h1:=hall e he hb;rw[heq] at h1;rcases Nat.lt_or_ge i listed.size with h'|h'
    ·simp[h'] at hiun h1;rw[hiun] at h1;cases h1
    ·simp[Array.getElem?_eq_none h'] at h1
   have h2:=wpOp_put hoj (hfree j oj hoj hji hjun hnot) (fun cs b=>hsel i oi cs b hi) (fun cs b=>hsel j oj cs b hoj) hQ hy h1;have hfree':∀k ok,ops[k]? = some ok->k≠i->(listed.setIfInBounds j true).getD k true=false->
     (∀e∈ok.after,Region.binds md e=true->e.on≠i)->oi.apart ops ok=true:=fun k ok hk hki hun hno=>by
    refine hfree k ok hk hki ?_ hno
    by_cases hjk:j=k
    ·subst hjk;exact hjun
    ·rw[getD_set_ne true hjk] at hun;exact hun
   refine wpOp_mono (fun a' w' h3=>⟨h3.2.1,ih (listed.setIfInBounds j true) a' w' hfree' (ready_mono hr (Ne.symm hji)) h3.1 ?_⟩) h2;rw[Array.setIfInBounds_comm _ _ hji];exact h3.2.2
theorem wpAnyLast_all{rs:List Nat}{fuel:Nat}{listed:Array Bool}{a:Act}{w:World}(hr:Region.ready md ops listed=rs)(hne:rs≠[])
  (h:∀i∈rs,wpOp P ops Q i (fun a' w'=>(i∉ds->S w->S w')/\wpAnyLast P md ops Q S ds fuel (listed.setIfInBounds i true) a' w') a w):wpAnyLast P md ops Q S ds (fuel+1) listed a w:=
 ⟨fun h0=>absurd (hr▸h0) hne,hr▸h⟩
theorem wpAnyLast_done{listed:Array Bool}{a:Act}{w:World}(hr:Region.ready md ops listed=[])(h:Q .normal a w):
  ∀fuel,wpAnyLast P md ops Q S ds fuel listed a w
 |0=>⟨hr,h⟩
 |_+1=>⟨fun _=>h,by rw[hr];simp⟩
theorem wp_region_last{id:Nat}{a:Act}{w:World}(hm:P.follows .mixedOrders=true)
  (h:wpAnyLast P .any ops Q S ds ops.size (Array.replicate ops.size false) a {w with drawn:=w.drawn+1}):(Code.region id ops true).wp P Q a w:=
 wp_region_any hm (wpAny_of_last _ _ _ _ h)
end
section
variable {P:Program} {ops:Array Oper} {Q:Exit->Act->World->Prop} {md:Region.Mode} {S:World->Prop} {ds:List Nat}
def AllReadyL(P:Program)(md:Region.Mode)(ops:Array Oper)(Q:Exit->Act->World->Prop)(S:World->Prop)(ds:List Nat)(fuel:Nat)(listed:Array Bool)(a:Act)(w:World)(rs:List Nat):Prop:=
 ∀i∈rs,wpOp P ops Q i (fun a' w'=>(i∉ds->S w->S w')/\wpAnyLast P md ops Q S ds fuel (listed.setIfInBounds i true) a' w') a w
theorem AllReadyL.nil{fuel:Nat}{listed:Array Bool}{a:Act}{w:World}:AllReadyL P md ops Q S ds fuel listed a w []:=fun _ h=>by cases h
theorem AllReadyL.cons{fuel:Nat}{listed:Array Bool}{a:Act}{w:World}{i:Nat}{o:Oper}{rs:List Nat}(ho:ops[i]? = some o)(hd:i∉ds)
  (h:∀K':Act->World->Prop,Shut (∀a w,S w->(S w->wpAnyLast P md ops Q S ds fuel (listed.setIfInBounds i true) a w)->K' a w)->if Region.wanted o (yielded ops a.tmps)=true then Oper.wp P o a w K' Q else K' (a.put o.dst undef) w)
  (hs:AllReadyL P md ops Q S ds fuel listed a w rs):AllReadyL P md ops Q S ds fuel listed a w (i::rs):=fun j hj=>by
 rcases List.mem_cons.1 hj with rfl|hj
 ·exact wpOp_step ho (fun K' hK=>h K' (fun a w hS hW=>hK a w ⟨fun _ _=>hS,hW hS⟩))
 ·exact hs j hj
theorem wpAnyLast_ready{rs:List Nat}{fuel:Nat}{listed:Array Bool}{a:Act}{w:World}(hr:Region.ready md ops listed=rs)(hne:rs≠[])
  (h:AllReadyL P md ops Q S ds fuel listed a w rs):wpAnyLast P md ops Q S ds (fuel+1) listed a w:=wpAnyLast_all hr hne h
theorem start_{id n:Nat}{a:Act}{w:World}(l:Array Bool)(hm:P.follows .mixedOrders=true)(hn:ops.size=n)(hl:Array.replicate n false=l)(hS:S w.drew)
  (h:S w.drew->wpAnyLast P .any ops Q S ds n l a w.drew):(Code.region id ops true).wp P Q a w:=by
 subst hn;subst hl;exact wp_region_last hm (h hS)
def anyB(md:Region.Mode)(ops:Array Oper)(l l':Array Bool)(i:Nat):Bool:=
 Region.noSelect ops&&Region.free md ops l i&&(Region.ready md ops l).contains i&&(l.setIfInBounds i true==l')
theorem pure_{i:Nat}{N:Option Tmp}{oi:Oper}{v:Value}{fuel:Nat}{l:Array Bool}{a:Act}{w:World}(l':Array Bool)(hi:ops[i]? = some oi)(hN:oi.dst=N)(hc:anyB md ops l l' i=true)
  (hQ:∀c a w,Q (.panic c) (a.put oi.dst v) w->Q (.panic c) a w) (hy:Yields P ops oi v a) {a':Act} (ha:a.put N v=a')
  (h:wpAnyLast P md ops Q S ds fuel l' a' w):wpAnyLast P md ops Q S ds (fuel+1) l a w:=by
 subst ha;subst hN;simp only[anyB,Bool.and_eq_true,beq_iff_eq] at hc;obtain⟨⟨⟨h1,h2⟩,h3⟩,h6⟩:=hc;subst h6;exact wpAnyLast_any hi (Region.noSelect_spec h1) hQ fuel l a w (Region.free_spec hi h2) (by simpa using h3) hy h
def readyB(md:Region.Mode)(ops:Array Oper)(l l':Array Bool)(i:Nat):Bool:=(Region.ready md ops l==[i])&&(l.setIfInBounds i true==l')
theorem one_{i:Nat}{N:Option Tmp}{oi:Oper}{fuel:Nat}{l:Array Bool}{a:Act}{w:World}(l':Array Bool)(hi:ops[i]? = some oi)(hN:oi.dst=N)(hc:readyB md ops l l' i=true)(hd:i∉ds)
  (h:∀K:Act->World->Prop,Shut (∀a' w',S w'->(S w'->wpAnyLast P md ops Q S ds fuel l' a' w')->K a' w')->if Region.wanted oi (yielded ops a.tmps)=true then Oper.wp P oi a w K Q else K (a.put N undef) w):
  wpAnyLast P md ops Q S ds (fuel+1) l a w:=by
 subst hN;simp only[readyB,Bool.and_eq_true,beq_iff_eq] at hc;obtain⟨h1,h2⟩:=hc;subst h2;exact wpAnyLast_ready h1 (by simp) (AllReadyL.cons hi hd (fun K hK=>h K hK) AllReadyL.nil)
theorem done_{l:Array Bool}{a:Act}{w:World}{n:Nat}(hr:(Region.ready md ops l==[])=true)(h:Q .normal a w):wpAnyLast P md ops Q S ds n l a w:=wpAnyLast_done (by simpa using hr) h n
theorem two_{i j:Nat}{Ni Nj:Option Tmp}{oi oj:Oper}{fuel:Nat}{l:Array Bool}{a:Act}{w:World}(li lj:Array Bool)(hi:ops[i]? = some oi)(hj:ops[j]? = some oj)(hNi:oi.dst=Ni)(hNj:oj.dst=Nj)
  (hc:(Region.ready md ops l==[i,j]&&l.setIfInBounds i true==li&&l.setIfInBounds j true==lj)=true) (hdi:i∉ds) (hdj:j∉ds)
  (h1:∀K:Act->World->Prop,Shut (∀a' w',S w'->(S w'->wpAnyLast P md ops Q S ds fuel li a' w')->K a' w')->if Region.wanted oi (yielded ops a.tmps)=true then Oper.wp P oi a w K Q else K (a.put Ni undef) w)
  (h2:∀K:Act->World->Prop,Shut (∀a' w',S w'->(S w'->wpAnyLast P md ops Q S ds fuel lj a' w')->K a' w')->if Region.wanted oj (yielded ops a.tmps)=true then Oper.wp P oj a w K Q else K (a.put Nj undef) w):
  wpAnyLast P md ops Q S ds (fuel+1) l a w:=by
 subst hNi;subst hNj;simp only[Bool.and_eq_true,beq_iff_eq] at hc;obtain⟨⟨h3,h4⟩,h5⟩:=hc;subst h4;subst h5;exact wpAnyLast_ready h3 (by simp) (AllReadyL.cons hi hdi (fun K hK=>h1 K hK) (AllReadyL.cons hj hdj (fun K hK=>h2 K hK) AllReadyL.nil))
def putAll:Act->List (Tmp×Value)->Act
 |a,[]=>a
 |a,(n,v)::r=>putAll (a.put (some n) v) r
theorem join_{σ:Type}{fuel:Nat}{l:Array Bool}{a:Act}{w:World}(fuel':Nat)(l':Array Bool)(ns:σ->List (Tmp×Value))(F:σ->World->Prop)
  (hcont:∀s w',F s w'->wpAnyLast P md ops Q S ds fuel' l' (putAll a (ns s)) w')
  (h:(∀s w',F s w'->wpAnyLast P md ops Q S ds fuel' l' (putAll a (ns s)) w')->wpAnyLast P md ops Q S ds fuel l a w):wpAnyLast P md ops Q S ds fuel l a w:=h hcont
theorem norm_{fuel:Nat}{l:Array Bool}{a a':Act}{w:World}(ha:a=a')(h:wpAnyLast P md ops Q S ds fuel l a' w):wpAnyLast P md ops Q S ds fuel l a w:=by
 subst ha;exact h
theorem call_{oi:Oper}{N:Option Tmp}{a:Act}{w:World}{K:Act->World->Prop}(f:FuncId)(args:Array Value)(hw:Region.wanted oi (yielded ops a.tmps)=true)(hN:oi.dst=N)(hrun:(execOp a.eval oi).run P w = .ok (.enter f args) w)
  (h:Calls P f args w fun e w'=>∃v,e = .returned v/\K (a.put N v) w'):if Region.wanted oi (yielded ops a.tmps)=true then Oper.wp P oi a w K Q else K (a.put N undef) w:=by
 rw[if_pos hw];subst hN;unfold Oper.wp;rw[hrun,Oper.upon_enter];refine h.mono fun e w'' hh=> ?_
 obtain⟨v,rfl,hk⟩:=hh;exact hk
theorem enters_ {f : FuncId} {fn : Func} (hf : P.funcs[f]? = some fn) (hname : (fn.name == "runtime.NumGoroutine") = false) (hb : fn.body.isSome = true) (args : Array Value) (w : World) : (callFunc f args).run P w = .ok (.enter f args) w := by
 have h1 : fn.name ≠ "runtime.NumGoroutine" := by simpa using hname
 obtain⟨c,hc⟩:=Option.isSome_iff_exists.1 hb;simp[callFunc,hf,h1,hc]
theorem goes_ {oi : Oper} {N : Option Tmp} {a : Act} {w : World} {K : Act → World → Prop} {f : FuncId} {fn : Func} {as : Array Operand} {ts : Array TypeId} (hf : P.funcs[f]? = some fn) (hname : (fn.name == "runtime.NumGoroutine") = false) (hb : fn.body.isSome = true) (args : Array Value)
  (hw:Region.wanted oi (yielded ops a.tmps)=true) (hN:oi.dst=N) (hop:oi.op = .call {callee:= .value (.func f),args:=as,argTypes:=ts}) (hargs:as.map a.eval=args)
  (h:Calls P f args w fun e w'=>∃v,e = .returned v/\K (a.put N v) w'):if Region.wanted oi (yielded ops a.tmps)=true then Oper.wp P oi a w K Q else K (a.put N undef) w:=by
 refine call_ f args hw hN ?_ h;have he:=enters_ hf hname hb args w;unfold execOp;simp[hop,resolve,Deferred.ofValue,invoke,Act.eval,hargs,he]
theorem goesL_ {rest : List Oper} {oi : Oper} {a : Act} {w : World} (N : Option Tmp) (hd : oi.dst = N) (hg : oi.guard = none) {f : FuncId} {fn : Func} {as : Array Operand} {ts : Array TypeId} (hf : P.funcs[f]? = some fn) (hname : (fn.name == "runtime.NumGoroutine") = false) (hb : fn.body.isSome = true) (args : Array Value)
  (hop:oi.op = .call {callee:= .value (.func f),args:=as,argTypes:=ts}) (hargs:as.map a.eval=args)
  (h:Calls P f args w fun e w'=>∃v,e = .returned v/\wpList P ops Q rest (a.put N v) w'):wpList P ops Q (oi::rest) a w:=by
 refine wpList_plain hg fun K hK=> ?_
 have he:=enters_ hf hname hb args w;have hrun:(execOp a.eval oi).run P w = .ok (.enter f args) w:=by
  unfold execOp;simp[hop,resolve,Deferred.ofValue,invoke,Act.eval,hargs,he]
 unfold Oper.wp;rw[hrun,Oper.upon_enter];refine h.mono fun e w'' hh=> ?_
 obtain⟨v,rfl,hk⟩:=hh;subst hd;exact hK _ _ hk
theorem value_{oi:Oper}{N:Option Tmp}{a:Act}{w w1:World}{v:Value}{K:Act->World->Prop}(hw:Region.wanted oi (yielded ops a.tmps)=true)(hN:oi.dst=N)(hrun:(execOp a.eval oi).run P w = .ok (.value v) w1)
  (h:K (a.put N v) w1):if Region.wanted oi (yielded ops a.tmps)=true then Oper.wp P oi a w K Q else K (a.put N undef) w:=by
 rw[if_pos hw];subst hN;unfold Oper.wp;rw[hrun];exact h
theorem i64_w(n:Int):IntKind.i64.wrap n=Go.RowKit.wrap64 n:=by unfold Go.RowKit.wrap64;exact IntKind.wrap_i64 n
theorem i32_w(n:Int):IntKind.i32.wrap n=Go.RowKit.wrap32 n:=by unfold Go.RowKit.wrap32;exact IntKind.wrap_i32 n
end
end Go.Proofs.YtoimaaonloibfaaGreatDoor.W2
namespace Go.Proofs.YtoimaaonloibfaaGreatDoor.W2
open W1 (Aside0)
def needsOf(md:Region.Mode)(o:Oper):List Nat:=(o.after.toList.filter (fun e=>Region.binds md e)).map (fun e=>e.on)
def clashOf(md:Region.Mode)(ops:Array Oper)(i:Nat)(oi:Oper):List Nat:=(List.range ops.size).filter fun j=> !(j==i)&&match ops[j]? with
 |some oj=> !(oj.after.any (fun e=>Region.binds md e&&e.on==i)||oi.apart ops oj)
 |none=>false
def rtab(md:Region.Mode)(ops:Array Oper):Bool×List (List Nat×List Nat):=(Region.noSelect ops,(List.range ops.size).map fun i=>match ops[i]? with
 |some o=>(needsOf md o,clashOf md ops i o)
 |none=>([],[]))
def readyAt(T:List (List Nat×List Nat))(l:List Bool)(i:Nat):Bool:= !l.getD i true&&match T[i]? with
 |some r=>r.1.all (fun j=>l.getD j false)
 |none=>false
def readyT(T:List (List Nat×List Nat))(l:List Bool):List Nat:=(List.range T.length).filter (readyAt T l)
def freeT(T:List (List Nat×List Nat))(l:List Bool)(i:Nat):Bool:=match T[i]? with
 |some r=>r.2.all (fun j=>l.getD j true)
 |none=>false
section
variable {md:Region.Mode} {ops:Array Oper} {T:Bool×List (List Nat×List Nat)} {l l' li lj lk:Array Bool} {ds:List Nat} {i j k:Nat}
theorem gd(l:Array Bool)(j:Nat)(b:Bool):l.getD j b=l.toList.getD j b:=by simp[Array.getD_eq_getD_getElem?,List.getD_eq_getElem?_getD]
theorem needs_all(o:Oper)(p:Nat->Bool):o.after.all (fun e=> !Region.binds md e||p e.on)=(needsOf md o).all p:=by
 unfold needsOf;rw[<-Array.all_toList]
 induction o.after.toList with
 |nil=>rfl
 |cons e r ih=>
  rw[List.all_cons,ih,List.filter_cons];cases h:Region.binds md e<;>simp
theorem rtab_length:(rtab md ops).2.length=ops.size:=by simp[rtab]
theorem rtab_some{o:Oper}(h:ops[i]? = some o):(rtab md ops).2[i]? = some (needsOf md o,clashOf md ops i o):=by
 have hi:=(Array.getElem?_eq_some_iff.1 h).1;unfold rtab;rw[List.getElem?_map,List.getElem?_range hi,Option.map_some,h]
theorem rtab_none(h:ops[i]? = none):(rtab md ops).2[i]? = none:=by
 have hi:ops.size<=i:=Array.getElem?_eq_none_iff.1 h;exact List.getElem?_eq_none (by rw[rtab_length];exact hi)
theorem readyAt_eq:readyAt (rtab md ops).2 l.toList i=(!l.getD i true&&((ops[i]?).map (·.after.all fun e=> !Region.binds md e||l.getD e.on false)).getD false):=by
 unfold readyAt;rw[gd]
 cases h:ops[i]? with
 |none=>rw[rtab_none h];rfl
 |some o=>
  rw[rtab_some h];simp only[Option.map_some,Option.getD_some];rw[<-needs_all];simp only[gd]
theorem ready_eq:Region.ready md ops l=readyT (rtab md ops).2 l.toList:=by
 unfold Region.ready readyT;rw[rtab_length];refine List.filter_congr (fun i _=> ?_);rw[readyAt_eq]
theorem free_eq:Region.free md ops l i=freeT (rtab md ops).2 l.toList i:=by
 unfold Region.free freeT
 cases h:ops[i]? with
 |none=>rw[rtab_none h]
 |some oi=>
  rw[rtab_some h];simp only[clashOf];rw[List.all_filter]
  congr 1
  funext j
  rw[gd]
  cases hj:ops[j]? with
  |none=>cases (j==i)<;>cases (l.toList.getD j true)<;>simp
  |some oj=>
   cases (j==i)<;>cases (l.toList.getD j true)<;>cases (oj.after.any (fun e=>Region.binds md e&&e.on==i)||oi.apart ops oj)<;>simp_all
theorem readyAt_mem(h:readyAt T.2 l.toList i=true)(hT:rtab md ops=T):(Region.ready md ops l).contains i=true:=by
 subst hT;rw[ready_eq];unfold readyT;rw[List.contains_iff_mem,List.mem_filter,List.mem_range];refine⟨?_,h⟩;unfold readyAt at h;rw[Bool.and_eq_true] at h
 cases hq:(rtab md ops).2[i]? with
 |none=>rw[hq] at h;simp at h
 |some r=>exact(List.getElem?_eq_some_iff.1 hq).1
theorem set_of(h:(l.toList.set i true==l'.toList)=true):(l.setIfInBounds i true==l')=true:=by
 rw[beq_iff_eq] at h|-;apply Array.ext';rw[Array.toList_setIfInBounds];exact h
def anyT(T:Bool×List (List Nat×List Nat))(l l':List Bool)(i:Nat):Bool:=T.1&&freeT T.2 l i&&readyAt T.2 l i&&(l.set i true==l')
theorem any_of(hT:rtab md ops=T)(h:anyT T l.toList l'.toList i=true):anyB md ops l l' i=true:=by
 simp only[anyT,Bool.and_eq_true] at h;obtain⟨⟨⟨h1,h2⟩,h3⟩,h4⟩:=h;have h5:=readyAt_mem h3 hT;have h6:=set_of h4;subst hT;simp only[anyB,Bool.and_eq_true];exact⟨⟨⟨h1,by rw[free_eq];exact h2⟩,h5⟩,h6⟩
theorem one_of(hT:rtab md ops=T)(h:(readyT T.2 l.toList==[i]&&l.toList.set i true==l'.toList)=true):readyB md ops l l' i=true:=by
 simp only[Bool.and_eq_true] at h;obtain⟨h1,h2⟩:=h;subst hT;simp only[readyB,Bool.and_eq_true];exact⟨by rw[ready_eq];exact h1,set_of h2⟩
theorem two_of(hT:rtab md ops=T)(h:(readyT T.2 l.toList==[i,j]&&l.toList.set i true==li.toList&&l.toList.set j true==lj.toList)=true):(Region.ready md ops l==[i,j]&&l.setIfInBounds i true==li&&l.setIfInBounds j true==lj)=true:=by
 simp only[Bool.and_eq_true] at h|-;obtain⟨⟨h1,h2⟩,h3⟩:=h;subst hT;exact⟨⟨by rw[ready_eq];exact h1,set_of h2⟩,set_of h3⟩
theorem done_of(hT:rtab md ops=T)(h:(readyT T.2 l.toList==[])=true):(Region.ready md ops l==[])=true:=by
 subst hT;rw[ready_eq];exact h
def upM(B:List Nat)(d:Nat):List Nat->Nat
 |[]=>0
 |n::r=>(2 ^ n ||| (if n<d then B.getD n 0 else 0)) ||| upM B d r
def waitsOk(T:List (List Nat×List Nat))(B:List Nat):Bool:=(List.range T.length).all fun d=>match T[d]? with
 |some r=>(B.getD d 0 ||| upM B d r.1)==upM B d r.1
 |none=>false
theorem with_tabW{P:Program}{Q:Exit->Act->World->Prop}{S:World->Prop}{n:Nat}{a:Act}{w:World}{B:List Nat}(hT:rtab md ops=T)(hB:waitsOk T.2 B=true)(h:Aside0 (rtab md ops=T)->Aside0 (waitsOk T.2 B=true)->wpAnyLast P md ops Q S ds n l a w):wpAnyLast P md ops Q S ds n l a w:=h ⟨hT⟩ ⟨hB⟩
end
def opsIn:Code->Nat->Option (Array Oper)
 | .region id ops _,k=>if id==k then some ops else none
 | .seq a b,k=>match opsIn a k with
  |some o=>some o
  |none=>opsIn b k
 | .cond _ a b,k=>match opsIn a k with
  |some o=>some o
  |none=>opsIn b k
 | .block _ c,k=>opsIn c k
 | .loop c,k=>opsIn c k
 | .scope c,k=>opsIn c k
 | .rangeFunc _ _ a b,k=>match opsIn a k with
  |some o=>some o
  |none=>opsIn b k
 |_,_=>none
def opsOf(f:Func)(k:Nat):Array Oper:=((f.body.bind fun c=>opsIn c k)).getD #[]
end Go.Proofs.YtoimaaonloibfaaGreatDoor.W2
namespace Go.Proofs.YtoimaaonloibfaaGreatDoor.W2
section
variable {P:Program} {ops:Array Oper} {Q:Exit->Act->World->Prop} {md:Region.Mode} {S:World->Prop} {ds:List Nat} {T:Bool×List (List Nat×List Nat)}
end
end Go.Proofs.YtoimaaonloibfaaGreatDoor.W2
namespace Go.Proofs.YtoimaaonloibfaaGreatDoor.W1
open Go.RowKit
namespace Kd
section
variable {α:Type} {d:Kd α} {e base g o n cap:Nat} {ok okp:Nat->Prop} {w W:World} {v:Value} {xs:List α}
end
section
variable {α:Type} {enc:α->Value} {h1:∀x,(enc x).oneCell'=true} {e base g o n cap:Nat} {ok:Nat->Prop} {W:World} {xs:List α}
end
end Kd
end Go.Proofs.YtoimaaonloibfaaGreatDoor.W1
namespace Go.Proofs.YtoimaaonloibfaaGreatDoor.W1
open Go.RowKit
namespace Kd
section
variable {α β:Type} {d:Kd α} {d':Kd β} {e e':Nat} {w w1 W:World} {base b:Nat} {ok ok' okv oku:Nat->Prop} {u v:Value} {xs:List α} {ys:List β}
end
section
variable {α β:Type} {d:Kd α} {d':Kd β} {e e' g:Nat} {w w1 W:World} {base b:Nat} {ok ok' okv oku:Nat->Prop} {u v:Value} {xs:List α} {ys:List β}
end
section
variable {P:Program} {ops:Array Oper} {rest:List Oper} {o:Oper} {a:Act} {Q:Exit->Act->World->Prop} {Kc:Act->World->Prop} {α:Type}
end
section
variable {α β:Type} {d:Kd α} {e e' g n cap:Nat} {w w1 W:World} {base:Nat} {ok ok' oki okp:Nat->Prop} {u v:Value} {xs:List α} {i:Int} {c:List Value}
end
section
variable {P:Program} {ops:Array Oper} {rest:List Oper} {o:Oper} {a:Act} {Q:Exit->Act->World->Prop} {α:Type}
end
end Kd
end Go.Proofs.YtoimaaonloibfaaGreatDoor.W1
namespace Go.Proofs.YtoimaaonloibfaaGreatDoor.W1
open Go.RowKit
namespace Kd
theorem reps_one{α:Type}{R:α->List Value->Prop}{size:Nat}{ps:List α}{cs:List Value}(h:Reps R size ps cs)(hs0:0<size)(hR:∀p c,R p c->∀u∈c,u.oneCell'=true):∀u∈cs,u.oneCell'=true:=by
 intro u hu;obtain⟨q,hq,rfl⟩:=List.mem_iff_getElem.1 hu;have hql:q/size<ps.length:=by
  rw[Nat.div_lt_iff_lt_mul hs0,<-h.1];exact hq
 refine hR _ _ (h.2 (q/size) _ (List.getElem?_eq_getElem hql)) _ ?_;rw[List.mem_iff_getElem?];refine⟨q%size,?_⟩;rw[List.getElem?_take,if_pos (Nat.mod_lt _ hs0),List.getElem?_drop,Nat.mul_comm,Nat.div_add_mod,List.getElem?_eq_getElem hq]
section
variable {α:Type} {n:Nat} {d:Kd α} {hs:0<d.sz} {w:World} {base:Nat} {ok:Nat->Prop} {xs:List α} {cs:List Value}
end
section
variable {α:Type} {n:Nat} {enc:α->Value} {h1:∀x,(enc x).oneCell'=true} {hs:0<(scalar enc h1).sz} {w:World} {base:Nat} {ok:Nat->Prop} {xs:List α} {cs:List Value}
end
end Kd
end Go.Proofs.YtoimaaonloibfaaGreatDoor.W1
namespace Go.Proofs.YtoimaaonloibfaaGreatDoor.W1
open Go.RowKit
section
variable {P:Program}
end
namespace Kd
section
variable {P:Program} {ops:Array Oper} {rest:List Oper} {o:Oper} {a:Act} {Q:Exit->Act->World->Prop} {Kc:Act->World->Prop} {α:Type}
end
section
variable {α:Type} {d:Kd α} {e:Nat} {w:World} {base:Nat} {ok:Nat->Prop} {v:Value} {xs:List α}
end
section
variable {P:Program} {ops:Array Oper} {rest:List Oper} {o:Oper} {a:Act} {Q:Exit->Act->World->Prop} {Kc:Act->World->Prop} {α:Type}
end
end Kd
end Go.Proofs.YtoimaaonloibfaaGreatDoor.W1
namespace Go.Proofs.YtoimaaonloibfaaGreatDoor.W1
open Go.RowKit
namespace Kd
structure Heap{α:Type}(d:Kd α):Prop where
 K:∀{w w1:World} {x:α} {cs:List Value},(∀k,k<w.heap.size->w1.heap[k]? = w.heap[k]?)->d.K w x cs->d.K w1 x cs
section
variable {α:Type} {d:Kd α} {e base g n c:Nat} {ok:Nat->Prop} {w w0 W:World} {A:Option Addr} {xs:List α}
end
end Kd
end Go.Proofs.YtoimaaonloibfaaGreatDoor.W1
namespace Go.Proofs.YtoimaaonloibfaaGreatDoor.W1
open Go.RowKit
def Kept(w W:World)(S:Nat->Prop):Prop:=w.heap.size<=W.heap.size/\∀i,i<w.heap.size->¬S i->W.heap[i]? = w.heap[i]?
section
variable {w W W2:World} {S S2 S':Nat->Prop}
theorem Kept.refl(w:World)(S:Nat->Prop):Kept w w S:=⟨Nat.le_refl _,fun _ _ _=>rfl⟩
theorem Kept.of_below(h:Below w.heap.size w W)(S:Nat->Prop):Kept w W S:=⟨h.size,fun i hi _=>h.block i hi⟩
theorem Kept.mono(h:Kept w W S)(hs:∀k,S k->S' k):Kept w W S':=⟨h.1,fun i hi hn=>h.2 i hi (fun hk=>hn (hs i hk))⟩
theorem Kept.then_(h:Kept w W S)(k:Kept W W2 S2)(hs:∀k,S2 k->S k\/w.heap.size<=k):Kept w W2 S:=
 ⟨Nat.le_trans h.1 k.1,fun i hi hn=>(k.2 i (Nat.lt_of_lt_of_le hi h.1) (fun h2=>(hs i h2).elim hn (fun h3=>by omega))).trans (h.2 i hi hn)⟩
theorem Kept.below(h:Kept w W S)(hb:Below W.heap.size W W2):Kept w W2 S:=h.then_ (Kept.of_below hb (fun _=>False)) (fun _ hk=>hk.elim)
theorem Kept.alloc(h:Kept w W S)(o:Obj):Kept w (W.alloc o) S:=h.below (bA (bR _ _) o)
theorem Kept.drew(h:Kept w W S):Kept w W.drew S:=h
theorem Kept.drewN(h:Kept w W S)(m:Nat):Kept w (W.drewN m) S:=h
theorem Kept.setCell(h:Kept w W S){p:Addr}(hp:S p.block\/w.heap.size<=p.block)(u:Value):Kept w (W.setCell p u) S:=
 h.then_ (S2:=fun k=>k=p.block) ⟨by simp[World.setCell],fun i _ hn=>Below.heap_setCell W p u i hn⟩ (fun k hk=>by rw[hk];exact hp)
theorem blk_kept{g:Nat}{o:Obj}(hb:W.heap[g]? = some o)(hk:Kept W W2 S)(hne:¬S g):W2.heap[g]? = some o:=(hk.2 g (blk_lt hb) hne).trans hb
end
namespace Kd
section
variable {α:Type} {d:Kd α} {e base n c:Nat} {ok oki S S2:Nat->Prop} {w w0 W W1 W2:World} {v:Value} {A:Option Addr} {xs:List α} {i:Int} {cs:List Value}
theorem R_kept(h:d.R e W base ok v xs)(hk:Kept W W2 S)(hne:∀k,ok k->¬S k):d.R e W2 base ok v xs:=R_step h (fun k ho hlt=>hk.2 k hlt (hne k ho))
end
end Kd
end Go.Proofs.YtoimaaonloibfaaGreatDoor.W1
namespace Go.Proofs.YtoimaaonloibfaaGreatDoor.W1
open Go.RowKit
namespace Foot
variable {P Q:World->Prop} {W W1:World} {ok ok':Nat->Prop}
end Foot
namespace Kd
section
variable {α β:Type} {d:Kd α} {e base n n' cc g N:Nat} {ok ok' okp S:Nat->Prop} {w w0 w1 W W1:World} {A A':Option Addr} {u v v1:Value} {xs:List α} {xs':List β} {d':Kd β} {x:α} {c:List Value}
end
end Kd
end Go.Proofs.YtoimaaonloibfaaGreatDoor.W1
namespace Go.Proofs.YtoimaaonloibfaaGreatDoor.W1
open Go.RowKit
namespace Kd
section
variable {α:Type} {d:Kd α} {e base n cc g:Nat} {ok ok' okp S:Nat->Prop} {w w1 W W1:World} {A:Option Addr} {u v v1:Value} {xs:List α} {x:α} {c:List Value}
end
end Kd
end Go.Proofs.YtoimaaonloibfaaGreatDoor.W1
namespace Go.Proofs.YtoimaaonloibfaaGreatDoor.W1
open Go.RowKit
namespace Kd
section
variable {α:Type} {d:Kd α} {W:World} {g n:Nat} {S ok:Nat->Prop} {A:Option Addr} {ad:Addr} {xs:List α}
end
end Kd
end Go.Proofs.YtoimaaonloibfaaGreatDoor.W1
namespace Go.Proofs.YtoimaaonloibfaaGreatDoor.W1
open Go.RowKit
section
variable {w w' u:World} {m B g:Nat} {o:Obj} {row:Option Nat} {S:Nat->Prop} {a:Addr} {v:Value}
end
namespace Kd
section
variable {α:Type} {d:Kd α} {e base n m:Nat} {ok:Nat->Prop} {w w':World} {v:Value} {A:Option Addr} {xs:List α}
end
end Kd
end Go.Proofs.YtoimaaonloibfaaGreatDoor.W1
namespace Go.Proofs.YtoimaaonloibfaaGreatDoor.W1
open Go.RowKit
section
variable {P:Program} {d:Nat} {xs ys:Array Value} {f:Field} {fs:List Field} {a b:Value} {r s:Bool} {w:World}
end
end Go.Proofs.YtoimaaonloibfaaGreatDoor.W1
namespace Go.Proofs.YtoimaaonloibfaaGreatDoor.W1
theorem Reps.one{α:Type}{R:α->List Value->Prop}{ps:List α}{cs:List Value}{p:α}{v:Value}(hp:R p [v])(h:Reps R 1 ps cs):Reps R 1 (p::ps) (v::cs):=by
 refine⟨by simp[h.1],fun j q hq=> ?_⟩
 cases j with
 |zero=>
  simp only[List.getElem?_cons_zero,Option.some.injEq] at hq;subst hq
  simpa using hp
 |succ j=>
  simp only[List.getElem?_cons_succ] at hq;have h1:=h.2 j q hq
  simpa[Nat.mul_one] using h1
end Go.Proofs.YtoimaaonloibfaaGreatDoor.W1
namespace Go.Proofs.YtoimaaonloibfaaGreatDoor.W2
section
variable {P:Program} {ops:Array Oper} {Q:Exit->Act->World->Prop} {md:Region.Mode} {T:Bool×List (List Nat×List Nat)} {B:List Nat} {O:List Nat} {b:Nat->Bool} {i j n:Nat}
end
end Go.Proofs.YtoimaaonloibfaaGreatDoor.W2
namespace Go.Proofs.YtoimaaonloibfaaGreatDoor.W1
open Go.RowKit
theorem Kd.R_flat{α:Type}{d:Kd α}{e base:Nat}{ok ok':Nat->Prop}{w:World}{v:Value}{xs:List α}(hd:∀{ok1 ok2:Nat->Prop} {x:α} {cs:List Value},d.M w base ok1 x cs->d.M w base ok2 x cs)(h:d.R e w base ok v xs)(hok:∀k,v.ownBlock=some k->ok k->ok' k):d.R e w base ok' v xs:=by
 obtain⟨h0,inner,hown,hr⟩:=h;exact⟨fun k hk=>hok k hk (h0 k hk),inner,hown,hr.imp_ (fun _ _ hm=>hd hm)⟩
end Go.Proofs.YtoimaaonloibfaaGreatDoor.W1
namespace Go.Proofs.YtoimaaonloibfaaGreatDoor.W2
section
variable {ops:Array Oper} {a:Act} {o og:Oper} {g:Nat} {t:Tmp} {u:Bool}
end
end Go.Proofs.YtoimaaonloibfaaGreatDoor.W2
namespace Go.Proofs.YtoimaaonloibfaaGreatDoor.W1
open Go.RowKit
section
variable {P:Program} {ops:Array Oper} {rest:List Oper} {o:Oper} {a:Act} {Q:Exit->Act->World->Prop} {W:World}
end
end Go.Proofs.YtoimaaonloibfaaGreatDoor.W1
namespace Go.Proofs.YtoimaaonloibfaaGreatDoor.W1
open Go.RowKit
namespace Kd
section
variable {α:Type} {d:Kd α} {e base n cap g:Nat} {ok ok' okp:Nat->Prop} {w w1 W:World} {v v1:Value} {xs ys:List α}
end
section
variable {P:Program} {ops:Array Oper} {rest:List Oper} {o:Oper} {a:Act} {Q:Exit->Act->World->Prop} {Kc:Act->World->Prop} {α:Type}
end
end Kd
end Go.Proofs.YtoimaaonloibfaaGreatDoor.W1
namespace Go.Proofs.YtoimaaonloibfaaGreatDoor.W3
open Go.RowKit W1
namespace Kd
open W1.Kd
end Kd
namespace Kd
open W1.Kd
section
variable {α:Type} {d:Kd α} {e base g N:Nat} {ok:Nat->Prop} {W w1:World} {u v:Value} {xs:List α}
end
end Kd
theorem max2_int(k k':IntKind)(x y:Int):Builtin.max2 (.int k x) (.int k' y)=pure (.int k (if x<y then y else x)):=by simp only[Builtin.max2,gt_iff_lt]
theorem min2_int(k k':IntKind)(x y:Int):Builtin.min2 (.int k x) (.int k' y)=pure (.int k (if y<x then y else x)):=by simp only[Builtin.min2]
theorem max_two(ats:Array TypeId)(ty:TypeId)(a b:Value):Builtin.max_ ats ty #[a,b]=(Builtin.max2 a b >>= fun s=>pure s):=by simp only[Builtin.max_,List.foldlM_cons,List.foldlM_nil]
theorem min_two(ats:Array TypeId)(ty:TypeId)(a b:Value):Builtin.min_ ats ty #[a,b]=(Builtin.min2 a b >>= fun s=>pure s):=by simp only[Builtin.min_,List.foldlM_cons,List.foldlM_nil]
theorem max_three(ats:Array TypeId)(ty:TypeId)(a b c:Value):Builtin.max_ ats ty #[a,b,c]=(Builtin.max2 a b >>= fun s=>Builtin.max2 s c >>= fun s=>pure s):=by simp only[Builtin.max_,List.foldlM_cons,List.foldlM_nil]
theorem min_three(ats:Array TypeId)(ty:TypeId)(a b c:Value):Builtin.min_ ats ty #[a,b,c]=(Builtin.min2 a b >>= fun s=>Builtin.min2 s c >>= fun s=>pure s):=by simp only[Builtin.min_,List.foldlM_cons,List.foldlM_nil]
theorem max_four(ats:Array TypeId)(ty:TypeId)(a b c d:Value):Builtin.max_ ats ty #[a,b,c,d]=(Builtin.max2 a b >>= fun s=>Builtin.max2 s c >>= fun s=>Builtin.max2 s d >>= fun s=>pure s):=by simp only[Builtin.max_,List.foldlM_cons,List.foldlM_nil]
theorem min_four(ats:Array TypeId)(ty:TypeId)(a b c d:Value):Builtin.min_ ats ty #[a,b,c,d]=(Builtin.min2 a b >>= fun s=>Builtin.min2 s c >>= fun s=>Builtin.min2 s d >>= fun s=>pure s):=by simp only[Builtin.min_,List.foldlM_cons,List.foldlM_nil]
end Go.Proofs.YtoimaaonloibfaaGreatDoor.W3
namespace Go.Proofs.YtoimaaonloibfaaGreatDoor.W1
open Go.RowKit
section
variable {P:Program} {ops:Array Oper} {rest:List Oper} {o:Oper} {a:Act} {Q:Exit->Act->World->Prop} {W:World}
theorem gate_callee{f:FuncId}{as:Array Operand}{ts:Array TypeId}(_ho:o.op = .call {callee:= .value (.func f),args:=as,argTypes:=ts})(h:wpList P ops Q (o::rest) a W):wpList P ops Q (o::rest) a W:=h
theorem gate_builtin{b:Builtin}{xs:Array Operand}{ts:Array TypeId}(_ho:o.op = .call {callee:= .builtin b,args:=xs,argTypes:=ts})(h:wpList P ops Q (o::rest) a W):wpList P ops Q (o::rest) a W:=h
end
theorem drewN_self(w:World)(n:Nat):w.drewN n=w.drewN n:=rfl
namespace Kd
section
variable {α:Type} {d:Kd α} {e base:Nat} {ok:Nat->Prop} {W w1:World} {v:Value} {xs:List α}
end
section
variable {α:Type} {d:Kd α} {e base g n cap:Nat} {ok oki okp:Nat->Prop} {W:World} {xs:List α} {i:Int} {c:List Value}
end
section
variable {α:Type} {d:Kd α} {e base b b' g N:Nat} {ok ok1:Nat->Prop} {W W2 w1:World} {u v:Value} {xs ys:List α} {S:Nat->Prop}
end
end Kd
end Go.Proofs.YtoimaaonloibfaaGreatDoor.W1
namespace Go.Proofs.YtoimaaonloibfaaGreatDoor.W1
open Go.RowKit
namespace Kd
section
variable {α β:Type} {d:Kd α} {e base base' n m c g N' lo hi:Nat} {ok ok' S:Nat->Prop} {w W w1:World} {A:Option Addr} {ad:Addr} {u v v1:Value} {xs:List α}
end
end Kd
end Go.Proofs.YtoimaaonloibfaaGreatDoor.W1
