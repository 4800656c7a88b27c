/- FnTokensSpaced (part 4): joined texts of this seat: Va, Fr, Lxa, Lxb, Lxc, Lxd, Lxe, Lxf, Lxg, Lxh, Lxi, Lxj, Lxk, Lxl, Lxm, Lxn. -/
import Derived.Test.YtoimaaonloibfaaGreatDoorG03
import Derived.Laws.MakeOwn
import Derived.Test.YtoimaaonloibfaaGreatDoorG01
import Derived.Laws.FloatArith
set_option linter.unusedVariables false
set_option linter.unusedSimpArgs false
namespace Go.Proofs.YtoimaaonloibfaaGreatDoor.Tk
open Go.RowKit W1 W2 PF Wf
section
variable {w w1 w2:World} {sr:Nat} {t:ByteArray}
set_option maxRecDepth 10000 in
theorem reset_q(d:Nat)(A:Value)(S:Value)(cs:Array Value)(hA:A = .slice (some ⟨sr,0,none⟩) 4096 4096)(h:w.heap[d]? = some (.cells #[.slice none 0 0,.nilIface,.int .i64 0,.int .i64 0,.nilIface,.int .i64 0,.int .i64 0] 119 (0,0)))(p:Nat)(hS:S = .iface 54 (.pointer (some ⟨p,0,none⟩))):Calls Tryz.prog 79 #[.pointer (some ⟨d,0,none⟩),A,S] w fun e w'=>e = .returned (.tuple #[])/\w'.heap[d]? = some (.cells #[A,S,.int .i64 0,.int .i64 0,.nilIface,.int .i64 (-1),.int .i64 (-1)] 119 (0,0))/\KeepBut w w' d none/\∀B,B<=d->Below B w w':=by
 subst hA;subst hS;have c0:w.cell? ⟨d,0,none⟩=some (.slice none 0 0):=bC h 0;have c1:w.cell? ⟨d,1,none⟩=some .nilIface:=bC h 1;have c2:w.cell? ⟨d,2,none⟩=some (.int .i64 0):=bC h 2;have c3:w.cell? ⟨d,3,none⟩=some (.int .i64 0):=bC h 3;have c4:w.cell? ⟨d,4,none⟩=some .nilIface:=bC h 4;have c5:w.cell? ⟨d,5,none⟩=some (.int .i64 0):=bC h 5;have c6:w.cell? ⟨d,6,none⟩=some (.int .i64 0):=bC h 6;obtain⟨f0,f1,f2,f3,f4,f5,f6⟩:=bF7 h;have HH:=aM h;clear h;go_enter Tryz.func79,Tryz.ntmps79
 go_wp2_with fail;go_end0;have key:∀(W:World) (j:Nat) (u:Value),KeepBut w W d none->KeepBut w (W.setCell ⟨d,j,none⟩ u) d none:=fun W j u h=>KeepBut.set_ h j u
 refine⟨rfl,blk_set (blk_set (blk_set (blk_set (blk_set (blk_set (blk_set HH.out 0 _) 1 _) 2 _) 3 _) 4 _) 5 _) 6 _,key _ _ _ (key _ _ _ (key _ _ _ (key _ _ _ (key _ _ _ (key _ _ _ (key _ _ _ (KeepBut.refl _ _ _))))))),fun B hB=> ?_⟩;exact((((((((bR B w).setCell (p:=⟨d,0,none⟩) hB _).setCell (p:=⟨d,1,none⟩) hB _).setCell (p:=⟨d,2,none⟩) hB _).setCell (p:=⟨d,3,none⟩) hB _).setCell (p:=⟨d,4,none⟩) hB _).setCell (p:=⟨d,5,none⟩) hB _).setCell (p:=⟨d,6,none⟩) hB _)
theorem ta36(a:Addr)(w:World):(Instr.typeAssert (.iface 54 (.pointer (some a))) 85 86 true).run Tryz.prog w = .ok (.tuple #[.pointer none,.bool false]) w:=by kernel_rfl
theorem make_row(w:World):∃A:Array Value,A.size=4096/\(Instr.makeSlice 41 (.int .i64 (max 4096 16)) (.int .i64 (max 4096 16))).run Tryz.prog w = .ok (.slice (some ⟨w.heap.size,0,none⟩) 4096 4096) (w.alloc (.cells A 5)):=by
 have h5:=info5
 cases hi:Tryz.prog.info? 5 with
 |none=>rw[hi] at h5;cases h5
 |some i=>
  rw[hi] at h5;simp only[Option.map_some,Option.some.injEq,Prod.mk.injEq] at h5;obtain⟨hz,hs,hb⟩:=h5;have e:(max 4096 16:Int)=4096:=by omega
  have e2:(4096:Int).toNat=4096:=by omega
  have b1:(4096:Int).toNat*i.size<=16777216:=by
   have h1:i.size=1:=hs;simp only[h1];omega
  have b2:(i.bytes:Int)*4096<=281474976710656:=by
   have h1:i.bytes=1:=hb;simp only[h1];omega
  have h:=run_makeSlice (P:=Tryz.prog) w 41 5 i (.int .u8 0) Tryz.underlying41 hi hz .i64 .i64 4096 4096 (by omega) (by omega) b1 b2 (by omega);rw[hs,e2] at h;rw[e];refine⟨_,?_,h⟩;rw[size_madeCells]
def Nr(w w':World)(sr d row:Nat)(A:Array Value):Prop:=w'.heap[d]? = some (.cells #[.slice (some ⟨row,0,none⟩) 4096 4096,.iface 54 (.pointer (some ⟨sr,0,none⟩)),.int .i64 0,.int .i64 0,.nilIface,.int .i64 (-1),.int .i64 (-1)] 119 (0,0))/\w'.heap[row]? = some (.cells A 5 (0,0))/\A.size=4096/\Below w.heap.size w w'/\w.heap.size<=d/\w.heap.size<=row
set_option maxRecDepth 10000 in
theorem newReader_q:Calls Tryz.prog 36 #[.iface 54 (.pointer (some ⟨sr,0,none⟩)),.int .i64 4096] w fun e w'=>∃d row A,e = .returned (.pointer (some ⟨d,0,none⟩))/\Nr w w' sr d row A:=by
 have hta:=ta36;obtain⟨A,hA,hmk⟩:=make_row (w.alloc (.cells #[.slice none 0 0,.nilIface,.int .i64 0,.int .i64 0,.nilIface,.int .i64 0,.int .i64 0] 119));have hb1:Below w.heap.size w (w.alloc (.cells #[.slice none 0 0,.nilIface,.int .i64 0,.int .i64 0,.nilIface,.int .i64 0,.int .i64 0] 119)):=(bR _ w).alloc (Nat.le_refl _) _;have HB:=aM (hb1.alloc hb1.size (.cells A 5));have HD:=aM (blk_alloc (blk_new w (.cells #[.slice none 0 0,.nilIface,.int .i64 0,.int .i64 0,.nilIface,.int .i64 0,.int .i64 0] 119)) (.cells A 5));have hrw:=blk_new (w.alloc (.cells #[.slice none 0 0,.nilIface,.int .i64 0,.int .i64 0,.nilIface,.int .i64 0,.int .i64 0] 119)) (.cells A 5);rw[World.size_alloc] at hrw;have HRW:=aM hrw;have HA:=aM hA;clear hA hb1 hrw;go_enter Tryz.func36,Tryz.ntmps36
 go_wp2_with fail;generalize (w.alloc (.cells #[.slice none 0 0,.nilIface,.int .i64 0,.int .i64 0,.nilIface,.int .i64 0,.int .i64 0] 119)).alloc _=w2 at HB HD HRW|-;refine(reset_q (sr:=w.heap.size+1) w.heap.size _ _ #[] rfl HD.out sr rfl).mono ?_;rintro e w5 ⟨rfl,h1,hk,hb⟩;have H1:=aM h1;have HK:=aM hk;have HB2:=aM (hb w.heap.size (Nat.le_refl _));clear h1 hk hb hmk hta;go_wp2_with fail;go_ret;refine⟨_,_,A,rfl,H1.out,?_,HA.out,HB.out.trans HB2.out,Nat.le_refl _,Nat.le_succ _⟩;rw[HK.out.2 _ (blk_lt HRW.out) (by omega) (by simp)];exact HRW.out
set_option maxRecDepth 10000 in
theorem newScanner_q(s0:ByteArray):Calls Tryz.prog 16 #[.iface 54 (.pointer (some ⟨sr,0,none⟩)),.string s0] w fun e w'=>∃g d row A,e = .returned (.pointer (some ⟨g,0,none⟩))/\Nr w w' sr d row A/\w'.heap[g]? = some (.cells #[.string s0,.int .i64 1,.int .i64 0,.pointer (some ⟨d,0,none⟩)] 89 (0,0))/\w.heap.size<=g:=by
 have HQ:=aM (newReader_q (w:=w) (sr:=sr));go_enter Tryz.func16,Tryz.ntmps16
 go_wp2_with fail;refine HQ.out.mono ?_;rintro e w5 ⟨d,row,A,rfl,h⟩;have HN:=aM h;clear h HQ;go_wp2_with fail;go_ret;obtain⟨h1,h2,h3,h4,h5,h6⟩:=HN.out;exact⟨_,d,row,A,rfl,⟨blk_alloc h1 _,blk_alloc h2 _,h3,h4.alloc h4.size _,h5,h6⟩,blk_new _ _,h4.size⟩
end
end Go.Proofs.YtoimaaonloibfaaGreatDoor.Tk
namespace Go.Proofs.YtoimaaonloibfaaGreatDoor.Fr
open W2
def fill(a:Act)(vs:Nat->Value):List Oper->Nat->Act
 |[],_=>a
 |o::r,i=>fill (a.put o.dst (vs i)) vs r (i+1)
def upd(vs:Nat->Value)(i:Nat)(v:Value):Nat->Value:=fun j=>if j=i then v else vs j
def own(a:Act)(l:List Oper)(i:Nat):Value:=match (l[i]?).bind (·.dst) with
 |some t=>a.tmps.getD t undef
 |none=>undef
def needs(o:Oper):List Nat:=(o.after.toList.filter (fun e=>Region.binds .any e)).map (fun e=>e.on)
def chk(ops:Array Oper):Bool:=(List.range ops.size).all fun i=>match ops[i]? with
 |some o=>(needs o).all (fun j=>decide (j<i))&&(List.range ops.size).all fun j=>j==i||match ops[j]? with
  |some o'=>o.dst.isNone||o'.dst != o.dst
  |none=>true
 |none=>false
def One(P:Program)(ops:Array Oper)(Q:Exit->Act->World->Prop)(a0:Act)(w0:World)(Step:World->World->Prop)(F:Nat->Value->World->Prop)(i:Nat)(o:Oper):Prop:=
 ∀vs w,Step w0 w->(∀j,(needs o).contains j=true->F j (vs j) w)->∀K:Act->World->Prop,(∀v w',Step w w'->F i v w'->K ((fill a0 vs ops.toList 0).put o.dst v) w')->
  if Region.wanted o (yielded ops (fill a0 vs ops.toList 0).tmps)=true then Oper.wp P o (fill a0 vs ops.toList 0) w K Q else K ((fill a0 vs ops.toList 0).put o.dst undef) w
def All(P:Program)(ops:Array Oper)(Q:Exit->Act->World->Prop)(a0:Act)(w0:World)(Step:World->World->Prop)(F:Nat->Value->World->Prop):List Oper->Nat->Prop
 |[],_=>True
 |o::r,i=>One P ops Q a0 w0 Step F i o/\All P ops Q a0 w0 Step F r (i+1)
def lastAll(ops:Array Oper)(n:Nat):Bool:=ops.size==n+1&&match ops[n]? with
 |some o=>(List.range n).all fun j=>(needs o).contains j
 |none=>false
def OneB(P:Program)(ops:Array Oper)(l0:List Oper)(Q:Exit->Act->World->Prop)(a0:Act)(w0:World)(Step:World->World->Prop)(F:Nat->Value->World->Prop)(i:Nat)(o:Oper):Prop:=
 ∀vs w,Step w0 w->(∀j,(needs o).contains j=true->F j (vs j) w)->∀K:Act->World->Prop,(∀v w',Step w w'->F i v w'->K ((fill a0 vs l0 0).put o.dst v) w')->
  if Region.wanted o (yielded ops (fill a0 vs l0 0).tmps)=true then Oper.wp P o (fill a0 vs l0 0) w K Q else K ((fill a0 vs l0 0).put o.dst undef) w
def AllB(P:Program)(ops:Array Oper)(l0:List Oper)(Q:Exit->Act->World->Prop)(a0:Act)(w0:World)(Step:World->World->Prop)(F:Nat->Value->World->Prop):List Oper->Nat->Prop
 |[],_=>True
 |o::r,i=>OneB P ops l0 Q a0 w0 Step F i o/\AllB P ops l0 Q a0 w0 Step F r (i+1)
end Go.Proofs.YtoimaaonloibfaaGreatDoor.Fr
namespace Go.Proofs.YtoimaaonloibfaaGreatDoor.Lx
open Go.RowKit W1 W2 PF
def Sb(w:World)(g:Nat)(t:ByteArray)(a:Nat)(l c:Int):Prop:=w.heap[g]? = some (.cells #[.string t,.int .i64 (a:Int),.int .i64 l,.int .i64 c] 81 (0,0))
structure Kp(w0 w w':World)(g:Nat):Prop where
 b:Below w0.heap.size w0 w'
 k:KeepBut w w' g none
section
variable {w0 w w1 w2:World} {g a:Nat} {t:ByteArray} {l c:Int}
theorem Kp.refl(h:Below w0.heap.size w0 w)(g:Nat):Kp w0 w w g:=⟨h,KeepBut.refl _ _ _⟩
theorem Kp.drewN(h:Kp w0 w w1 g)(n:Nat):Kp w0 w (w1.drewN n) g:=⟨pD h.b n,h.k⟩
theorem Kp.alloc(h:Kp w0 w w1 g)(o:Obj):Kp w0 w (w1.alloc o) g:=⟨bA h.b o,KeepBut.trans h.k (KeepBut.of_below (bA (bR _ _) o) g none) (.inl rfl)⟩
theorem Kp.set(h:Kp w0 w w1 g)(hg:w0.heap.size<=g)(j:Nat)(u:Value):Kp w0 w (w1.setCell ⟨g,j,none⟩ u) g:=⟨h.b.setCell (p:=⟨g,j,none⟩) hg u,KeepBut.set_ h.k j u⟩
theorem Kp.trans(h:Kp w0 w w1 g)(k:Kp w0 w1 w2 g):Kp w0 w w2 g:=⟨k.b,KeepBut.trans h.k k.k (.inl rfl)⟩
theorem Kp.drawn(h:Kp w0 w w1 g)(k:Drawn0 w1 w2):Kp w0 w w2 g:=by
 obtain⟨n,rfl⟩:=k;exact h.drewN n
theorem Sb.drewN(h:Sb w g t a l c)(n:Nat):Sb (w.drewN n) g t a l c:=h
theorem Sb.drawn(h:Sb w g t a l c)(k:Drawn0 w w1):Sb w1 g t a l c:=by
 obtain⟨n,rfl⟩:=k;exact h
theorem Sb.c0(h:Sb w g t a l c):w.cell? ⟨g,0,none⟩=some (.string t):=bC h 0
theorem Sb.c1(h:Sb w g t a l c):w.cell? ⟨g,1,none⟩=some (.int .i64 (a:Int)):=bC h 1
theorem Sb.c2(h:Sb w g t a l c):w.cell? ⟨g,2,none⟩=some (.int .i64 l):=bC h 2
theorem Sb.c3(h:Sb w g t a l c):w.cell? ⟨g,3,none⟩=some (.int .i64 c):=bC h 3
theorem Sb.f(h:Sb w g t a l c)(i:Nat):w.frozen? ⟨g,i,none⟩=false:=bF h i
theorem Sb.s1(h:Sb w g t a l c)(b:Nat):Sb (w.setCell ⟨g,1,none⟩ (.int .i64 (b:Int))) g t b l c:=blk_set h 1 _
theorem Sb.s2(h:Sb w g t a l c)(x:Int):Sb (w.setCell ⟨g,2,none⟩ (.int .i64 x)) g t a x c:=blk_set h 2 _
theorem Sb.s3(h:Sb w g t a l c)(x:Int):Sb (w.setCell ⟨g,3,none⟩ (.int .i64 x)) g t a l x:=blk_set h 3 _
theorem Sb.alloc(h:Sb w g t a l c)(o:Obj):Sb (w.alloc o) g t a l c:=blk_alloc h o
theorem Sb.is(h:Sb w g t a l c)(hg:w0.heap.size<=g):IsS81 w0 w g t (a:Int) l c:=⟨h,hg⟩
theorem Sb.below(h:Sb w g t a l c)(k:Below w.heap.size w w1):Sb w1 g t a l c:=blk_below h k
theorem isDone_q(h:Sb w g t a l c):Calls Tryz.prog 30 #[.pointer (some ⟨g,0,none⟩)] w fun e w'=>e = .returned (.bool (decide (t.size<=a)))/\Drawn0 w w':=by
 have c0:=h.c0;have c1:=h.c1;go_enter Tryz.func30,Tryz.ntmps30
 go_wp2
 go_quiet (fail)
 go_wp2
 go_ret;exact⟨by simp,⟨⟨_,rfl⟩⟩⟩
theorem byteAt_q(h:Sb w g t a l c)(ha:a<=3000)(far:Nat)(hf:far<=3000):Calls Tryz.prog 31 #[.pointer (some ⟨g,0,none⟩),.int .i64 (far:Int)] w fun e w'=>e = .returned (.int .u8 (bt t ((a:Int)+(far:Int))))/\Drawn0 w w':=by
 have c0:=h.c0;have c1:=h.c1;have q:IntKind.i64.wrap ((a:Int)+(far:Int))=(a:Int)+(far:Int):=IntWalk.i64_in _ (by omega)
 by_cases hlt:a+far<t.size
 ·have h1:(a:Int)+(far:Int)<(t.size:Int):=by omega
  have h2:(0:Int)<=(a:Int)+(far:Int):=by omega
  have h3:((a:Int)+(far:Int)).toNat=a+far:=by omega
  have hx:(t[a+far].toNat:Int)=bt t ((a:Int)+(far:Int)):=by
   have:=bt_at t ((a:Int)+(far:Int)) (by omega)
   simpa only[h3] using this
  go_enter Tryz.func31,Tryz.ntmps31
  go_wp2
  go_quiet (fail)
  go_wp2
  go_quiet (fail)
  go_wp2
  go_ret;exact⟨rfl,((Drawn0.refl w).step _).step _⟩
 ·have h1:¬(a:Int)+(far:Int)<(t.size:Int):=by omega
  have hx:bt t ((a:Int)+(far:Int))=0:=by
   unfold bt;rw[dif_neg (by omega)]
  rw[hx];clear hx;go_enter Tryz.func31,Tryz.ntmps31
  go_wp2
  go_quiet (fail)
  go_wp2
  go_ret;exact⟨rfl,⟨⟨_,rfl⟩⟩⟩
theorem byteAt0_q(h:Sb w g t a l c)(ha:a<=3000):Calls Tryz.prog 31 #[.pointer (some ⟨g,0,none⟩),.int .i64 0] w fun e w'=>e = .returned (.int .u8 (bt t (a:Int)))/\Drawn0 w w':=by
 have:=byteAt_q h ha 0 (by omega);rw[Int.natCast_zero,Int.add_zero] at this;exact this
theorem byteAt1_q(h:Sb w g t a l c)(ha:a<=3000):Calls Tryz.prog 31 #[.pointer (some ⟨g,0,none⟩),.int .i64 1] w fun e w'=>e = .returned (.int .u8 (bt t ((a:Int)+1)))/\Drawn0 w w':=by
 have:=byteAt_q h ha 1 (by omega);rw[Int.natCast_one] at this;exact this
theorem bt_lt{i:Nat}(h:bt t (i:Int)≠0):i<t.size:=by
 by_cases hq:i<t.size
 ·exact hq
 ·exfalso
  apply h;unfold bt;rw[dif_neg (by omega)]
theorem quiet0{f:FuncId}{args:Array Value}{n:Nat}{v:Value}(h:Calls Tryz.prog f args (w.drewN n) fun e w'=>e = .returned v/\Drawn0 (w.drewN n) w'):Calls Tryz.prog f args (w.drewN n) fun e w''=>e = .returned v/\∃m,w''=w.drewN m:=
 h.mono fun _ _ ⟨he,m,hm⟩=>⟨he,n+m,by rw[hm,World.drewN_drewN]⟩
theorem step_any(h:Sb w g t a l c)(hB:Below w0.heap.size w0 w)(hg:w0.heap.size<=g)(ha:a<t.size)(hn:t.size<=2000):Calls Tryz.prog 32 #[.pointer (some ⟨g,0,none⟩)] w fun e w'=>e = .returned (.tuple #[])/\(∃l',Sb w' g t (a+1) l' c)/\Kp w0 w w' g:=by
 have HB:=aM hB;have HS:=aM h;have c0:=h.c0;have c1:=h.c1;have c2:=h.c2;have f1:=h.f 1;have f2:=h.f 2;have q:IntKind.i64.wrap ((a:Int)+1)=(a:Int)+1:=IntWalk.i64_in _ (by omega);have h1:(a:Int)<(t.size:Int):=by omega
 have h2:¬(t.size<=a):=by omega
 have hx:(t[a].toNat:Int)=bt t (a:Int):=bt_at t (a:Int) (by omega);have HQ:=aM (fun(n:Nat)=>quiet0 (isDone_q (h.drewN n)));have hd:decide (t.size<=a)=false:=decide_eq_false h2;rw[hd] at HQ;clear h hB h2 hd
 by_cases hc:bt t (a:Int)=10
 ·rw[hc] at hx
  clear hc;go_enter Tryz.func32,Tryz.ntmps32
  go_wp2
  go_quiet ((go_at_call 30;exact HQ.out _))
  go_wp2
  go_end0;refine⟨rfl,⟨_,((HS.out.drewN _).s2 _).s1 (a+1)⟩,?_⟩;exact(((Kp.refl HB.out g).drewN _).set hg _ _).set hg _ _
 ·have hcb:(bt t (a:Int)==10)=false:=beq_eq_false_iff_ne.mpr hc
  generalize bt t (a:Int)=ch at hx hcb;clear hc;go_enter Tryz.func32,Tryz.ntmps32
  go_wp2
  go_quiet ((go_at_call 30;exact HQ.out _))
  go_wp2
  go_end0;refine⟨rfl,⟨_,(HS.out.drewN _).s1 (a+1)⟩,?_⟩;exact((Kp.refl HB.out g).drewN _).set hg _ _
theorem tell_any(h:Sb w g t a l c)(hB:Below w0.heap.size w0 w)(hg:w0.heap.size<=g)(x:Int):Calls Tryz.prog 72 #[.pointer (some ⟨g,0,none⟩),.int .i64 x] w fun e w'=>e = .returned (.tuple #[])/\Sb w' g t a l (if c=0 then x else c)/\Kp w0 w w' g:=by
 have HB:=aM hB;have HS:=aM h;have c3:=h.c3;have f3:=h.f 3;clear h hB
 by_cases hc:c=0
 ·subst hc
  go_enter Tryz.func72,Tryz.ntmps72
  go_wp2
  go_end0;exact⟨rfl,HS.out.s3 x,(Kp.refl HB.out g).set hg _ _⟩
 ·rw[if_neg hc]
  have hcb:(c==0)=false:=beq_eq_false_iff_ne.mpr hc;clear hc;go_enter Tryz.func72,Tryz.ntmps72
  go_wp2
  go_end0;exact⟨rfl,HS.out,Kp.refl HB.out g⟩
theorem steps_any(h:Sb w g t a l c)(hB:Below w0.heap.size w0 w)(hg:w0.heap.size<=g)(n:Nat)(ha:a+n<=t.size)(hn:t.size<=2000):Calls Tryz.prog 69 #[.pointer (some ⟨g,0,none⟩),.int .i64 (n:Int)] w fun e w'=>e = .returned (.tuple #[])/\(∃l',Sb w' g t (a+n) l' c)/\Kp w0 w w' g:=by
 have HB:=aM hB;have HS:=aM h;clear h hB;go_enter Tryz.func69,Tryz.ntmps69
 go_wp2
 go_loopg [1] n (fun k v wr=>∃l',v = .int .i64 (k:Int)/\k<=n/\Aside0 (Sb wr g t (a+(n-k)) l' c)/\Aside0 (Kp w0 w wr g))
 case atStart=>exact⟨_,rfl,Nat.le_refl _,⟨by rw[Nat.sub_self];exact HS.out⟩,⟨Kp.refl HB.out g⟩⟩
 case round=>
  obtain⟨l',rfl,hk,HR,HK⟩:=hrel
  cases gk with
  |zero=>
   go_wp2
   go_end0;exact⟨rfl,⟨_,HR.out⟩,HK.out⟩
  |succ gk=>
   have q:IntKind.i64.wrap (((gk+1:Nat):Int)-1)=(gk:Int):=by rw[IntWalk.i64_in _ (by omega)];omega
   have HC:=aM (step_any HR.out HK.out.b hg (by omega) hn);go_wp2_with fail;refine HC.out.mono ?_;rintro e w1 ⟨rfl,⟨l1,h1⟩,h2⟩;have H1:=aM h1;have H2:=aM (HK.out.trans h2);clear h1 h2 HC;go_wp2_with fail;go_roundg gk
   case measure=>omega
   case rel=>exact⟨_,rfl,by omega,⟨by have:=H1.out;rwa[show a+(n-(gk+1))+1=a+(n-gk) by omega] at this⟩,H2⟩
theorem byteAt_f(far:Int)(h0:0<=far)(h1:far<=5000)(ha:a<=3000):spec_lxState_byteAt.f t (a:Int) l c far=some (bt t ((a:Int)+far),t,(a:Int),l,c):=by
 unfold spec_lxState_byteAt.f;rw[IntWalk.wrap64_in _ (by omega)]
 by_cases h:(a:Int)+far>=(t.size:Int)
 ·rw[if_pos h]
  have:bt t ((a:Int)+far)=0:=by
   unfold bt;rw[dif_neg (by omega)]
  rw[this]
 ·rw[if_neg h,if_pos (by omega),if_pos (by omega)]
theorem bracket_f(hn:t.size<=2000)(sign:Int)(h61:sign≠0):∀(d m:Nat),t.size+1<=a+m+d->a+m<=t.size->∃k r,spec_lxState_bracket.l0 k sign (m:Int) t (a:Int) l c=some (r,t,(a:Int),l,c)/\(r = -1\/∃m':Nat,r=(m':Int)/\a+m'+1<t.size/\bt t (a:Int)=sign):=by
 intro d
 induction d with
 |zero=>intro m h1 h2;omega
 |succ d ih=>
  intro m h1 h2
  by_cases h:bt t ((a:Int)+(1+(m:Int)))=61
  ·have hm:a+(m+1)<=t.size:=by
    by_cases hq:a+m+1<t.size
    ·omega
    ·exfalso
     unfold bt at h;rw[dif_neg (by omega)] at h;omega
   obtain⟨k,r,hk,hr⟩:=ih (m+1) (by omega) hm;refine⟨k+1,r,?_,hr⟩;simp only[spec_lxState_bracket.l0];rw[IntWalk.wrap64_in (1+(m:Int)) (by omega),byteAt_f _ (by omega) (by omega) (by omega)];simp only[Option.bind_some];rw[if_pos h,IntWalk.wrap64_in _ (by omega)];have:((m:Int)+1)=((m+1:Nat):Int):=by omega
   rw[this];exact hk
  ·refine⟨1,?_⟩
   simp only[spec_lxState_bracket.l0];rw[IntWalk.wrap64_in (1+(m:Int)) (by omega),byteAt_f _ (by omega) (by omega) (by omega)];simp only[Option.bind_some];rw[if_neg h,byteAt_f _ (by omega) (by omega) (by omega)];simp only[Option.bind_some];rw[Int.add_zero]
   by_cases hs:bt t (a:Int)=sign
   ·rw[if_pos hs,byteAt_f _ (by omega) (by omega) (by omega)]
    simp only[Option.bind_some]
    by_cases hs2:bt t ((a:Int)+(1+(m:Int)))=sign
    ·rw[if_pos hs2]
     refine⟨_,rfl,.inr ⟨m,rfl,?_,hs⟩⟩
     by_cases hq:a+m+1<t.size
     ·exact hq
     ·exfalso
      unfold bt at hs2;rw[dif_neg (by omega)] at hs2;omega
    ·rw[if_neg hs2]
     exact⟨_,rfl,.inl rfl⟩
   ·rw[if_neg hs]
    exact⟨_,rfl,.inl rfl⟩
theorem bracket_any(h:Sb w g t a l c)(hB:Below w0.heap.size w0 w)(hg:w0.heap.size<=g)(ha:a<=t.size)(hn:t.size<=2000)(sign:Int)(h61:sign≠0):Calls Tryz.prog 70 #[.pointer (some ⟨g,0,none⟩),.int .u8 sign] w fun e w'=>(∃r:Int,e = .returned (.int .i64 r)/\(r = -1\/∃m':Nat,r=(m':Int)/\a+m'+1<t.size/\bt t (a:Int)=sign))/\Sb w' g t a l c/\Kp w0 w w' g:=by
 obtain⟨k,r,hk,hr⟩:=bracket_f (a:=a) (l:=l) (c:=c) hn sign h61 (t.size+1) 0 (by omega) (by omega);refine(spec_lxState_bracket.calls k g t a l c sign r t a l c w0 w (h.is hg) hB hk).mono ?_;rintro e w' ⟨he,h1,h2,h3⟩;exact⟨⟨r,he,hr⟩,h1.1,h2,h3⟩
end
structure Wr(w0 w wr:World)(g:Nat)(t:ByteArray)(a:Nat)(l c:Int)(v:Value)(xs:List Int):Prop where
 s:Sb wr g t a l c
 k:Kp w0 w wr g
 r:(Kd.int .u8).R 5 wr w.heap.size (fun _=>True) v xs
theorem run_store_float(P:Program)(w:World)(a:Addr)(m:Mode)(k:FloatKind)(b:Nat):(store a (.float k b) m).run P w=stored P w a (.float k b) m:=run_store P w a _ m rfl
theorem unhid{p:Prop}(h:p):Hid p:=h
theorem E8:(Kd.int .u8).E=[]:=rfl
section
variable {w0 w wr w1 w2:World} {g a:Nat} {t:ByteArray} {l c:Int} {v:Value} {xs:List Int}
variable {ops:Array Oper} {rest:List Oper} {o:Oper} {act:Act} {Q:Exit->Act->World->Prop}
theorem Wr.ne(h:Wr w0 w wr g t a l c v xs):some g≠v.ownBlock:=Kd.R_ne h.r h.s (by decide)
theorem Wr.drewN(h:Wr w0 w wr g t a l c v xs)(n:Nat):Wr w0 w (wr.drewN n) g t a l c v xs:=⟨h.s,h.k.drewN n,Kd.R_drewN h.r n⟩
theorem Wr.drawn(h:Wr w0 w wr g t a l c v xs)(k:Drawn0 wr w1):Wr w0 w w1 g t a l c v xs:=by
 obtain⟨n,rfl⟩:=k;exact h.drewN n
theorem Wr.sl(h:Wr w0 w wr g t a l c v xs):∃A c,v = .slice A xs.length c:=Kd.R_slice h.r
theorem Wr.step(h:Wr w0 w wr g t a l c v xs){a':Nat}{l' c':Int}(hs:Sb w1 g t a' l' c')(hk:Kp w0 wr w1 g):Wr w0 w w1 g t a' l' c' v xs:=
 ⟨hs,h.k.trans hk,Kd.R_mono (Kd.R_keep (Kd.R_types h.r h.s (by decide)) hk.k (fun k hk=>hk.2)) (fun _ hk=>hk.1)⟩
theorem Wr.nil(h:Sb wr g t a l c)(k:Kp w0 w wr g):Wr w0 w (wr.alloc (.cells #[] 5)) g t a l c (.slice (some ⟨wr.heap.size,0,none⟩) 0 0) []:=
 ⟨h.alloc _,k.alloc _,by
  have:=own_lit wr w.heap.size 5 .u8 [] k.k.1 (by simp);exact Kd.R_of_own this (fun _ _=>trivial)⟩
theorem Wr.push(hgd:o.guard=none)(s x:Operand)(ho:o.op = .call {callee:= .builtin .append,args:= #[s,x],argTypes:= #[41,41]})
  (hs:act.eval s=v) (hx:act.eval x = .slice (some ⟨wr.heap.size,0,none⟩) 1 1) (h:Wr w0 w wr g t a l c v xs) (hw:w0.heap.size<=w.heap.size) (b:Int) (hl:xs.length<=100000)
  (hK:∀v1 w1,Wr w0 w w1 g t a l c v1 (xs++[b])->wpList Tryz.prog ops Q rest (act.put o.dst v1) w1):
  wpList Tryz.prog ops Q (o::rest) act (wr.alloc (.cells #[.int .u8 b] 5)):=by
 refine Kd.R_append (P:=Tryz.prog) (Kd.int .u8) (w0:=wr) w.heap.size hgd s x 41 5 (.int .u8 0) 1 ho Tryz.underlying41 info5 rfl (by decide) (by decide) v xs b [.int .u8 b] (fun _=>True) (fun _=>False) hs hx
  rfl (fun k hk=>hk.elim) (fun k hk=>trivial) h.r (bR _ _) h.k.k.1 (by omega) ?_
 intro v1 w1 hR _ hg _;have hb:∀k,v.ownBlock=some k->w.heap.size<=k:=fun k hk=>Kd.R_base h.r k hk
 refine hK v1 w1 ⟨blk_grown h.s hg h.ne,⟨pw_below_grown h.k.b v.ownBlock (Nat.le_trans hw h.k.k.1) hg (fun k hk=>Nat.le_trans hw (hb k hk)),?_⟩,hR⟩;have hk2:KeepBut wr w1 g v.ownBlock:=KeepBut.of_grown hg g;refine⟨Nat.le_trans h.k.k.1 hk2.1,fun i hi hne hn=> ?_⟩;rw[hk2.2 i (Nat.lt_of_lt_of_le hi h.k.k.1) hne (fun e=> ?_),h.k.k.2 i hi hne hn];have:=hb i e.symm;omega
end
def StrRes(e:Ending):Prop:=∃s:ByteArray,e = .returned (.string s)/\s.size<=2000
def Lr(w0 w:World)(g:Nat)(t:ByteArray)(c:Int)(lo:Nat)(w':World):Prop:=∃(a':Nat) (l' c':Int),lo<=a'/\a'<=t.size/\(c'=0->c=0)/\Sb w' g t a' l' c'/\Kp w0 w w' g
theorem tell_c{c x:Int}(hx:x≠0):(if c=0 then x else c)≠0:=by
 split
 ·exact hx
 ·assumption
theorem strOfNums_le{xs:List Int}(h:xs.length<=2000):(strOfNums xs).size<=2000:=by rw[strOfNums_size];exact h
section
variable {w0 w wr w1 w2:World} {g a:Nat} {t:ByteArray} {l c:Int} {v:Value} {xs:List Int}
set_option maxHeartbeats 4000000 in
theorem long_any(h:Sb w g t a l c)(hB:Below w0.heap.size w0 w)(hg:w0.heap.size<=g)(m:Nat)(hm:a+m+1<t.size)(hn:t.size<=2000):
  Calls Tryz.prog 71 #[.pointer (some ⟨g,0,none⟩),.int .i64 (m:Int)] w fun e w'=>StrRes e/\Lr w0 w g t c (a+2) w':=by
 have HB:=aM hB;have HS:=aM h;have q:IntKind.i64.wrap ((m:Int)+2)=((m+2:Nat):Int):=by rw[IntWalk.i64_in _ (by omega)];omega
 have HST:=aM (steps_any h hB hg (m+2) (by omega) hn);have H0:=aM hB.size;clear h hB;go_enter Tryz.func71,Tryz.ntmps71
 go_wp2_with fail;refine HST.out.mono ?_;rintro e w1 ⟨rfl,⟨l1,h1⟩,h2⟩;have S1:=aM h1;have K1:=aM h2;clear h1 h2 HST
 go_upto_if 12 with fail
 have HBY:=aM (byteAt0_q S1.out (by omega));refine HBY.out.mono ?_;rintro e w2 ⟨rfl,hd⟩;have S2:=aM (S1.out.drawn hd);have K2:=aM (K1.out.drawn hd);clear hd HBY;obtain⟨b10,hb⟩:∃b10:Bool,(bt t ((a+(m+2):Nat):Int)==10)=b10:=⟨_,rfl⟩;have HX:=aM hb;generalize bt t ((a+(m+2):Nat):Int)=ch at hb
 go_upto_if 12 with fail
 go_cut [] from 10 to 14 (fun wc=>Aside0 (∃(a':Nat) (l':Int),a+2<=a'/\a'<=t.size/\Sb wc g t a' l' c/\Kp w0 w wc g))
 case first=>
  cases b10 with
  |true=>
   have hlt:a+(m+2)<t.size:=bt_lt (by have:=beq_iff_eq.1 HX.out;omega);have HST:=aM (step_any S2.out K2.out.b hg hlt hn);go_wp2_with fail;refine HST.out.mono ?_;rintro e w3 ⟨rfl,⟨l3,h3⟩,k3⟩;have S3:=aM h3;have K3:=aM (K2.out.trans k3);clear h3 k3 HST HX;go_wp2_with fail;go_meet
   case rel=>exact⟨⟨_,_,by omega,by omega,S3.out,K3.out⟩⟩
  |false=>
   go_wp2_with fail;go_meet
   case rel=>exact⟨⟨_,_,by omega,by omega,S2.out,K2.out⟩⟩
 clear HX hb;obtain⟨⟨a',l',h1,h2,h3,h4⟩⟩:=hcut;have S3:=aM h3;have K3:=aM h4;clear h3 h4 S1 S2 K1 K2;go_wp2_with fail;go_loopg [5] (t.size-a') (fun k v wr=>∃(a1:Nat) (l1 c1:Int) (xs:List Int),k=t.size-a1/\a+2<=a1/\a1<=t.size/\xs.length<=a1/\Aside0 (c1=0->c=0)/\Aside0 (Wr w0 w wr g t a1 l1 c1 v xs))
 case atStart=>exact⟨a',l',c,[],rfl,h1,h2,Nat.zero_le _,⟨fun h=>h⟩,⟨Wr.nil S3.out K3.out⟩⟩
 case round=>
  clear S3 K3;obtain⟨a1,l1,c1,xs,hk,h1,h2,hx,HC,HW⟩:=hrel;have HQ:=aM (isDone_q HW.out.s);obtain⟨A,cp,rfl⟩:=HW.out.sl
  by_cases hlt:a1<t.size
  ·have hd:decide (t.size<=a1)=false:=decide_eq_false (by omega)
   rw[hd] at HQ;clear hd;go_wp2_with fail;refine HQ.out.mono ?_;rintro e w3 ⟨rfl,hd⟩;have HW3:=aM (HW.out.drawn hd);clear hd HQ HW;have HBR:=aM (bracket_any HW3.out.s HW3.out.k.b hg h2 hn 93 (by decide));go_wp2_with fail;refine HBR.out.mono ?_;rintro e w4 ⟨⟨r,rfl,hr⟩,hs,hkp⟩;have HW4:=aM (HW3.out.step hs hkp);have HR:=aM hr;clear hs hkp hr HW3 HBR
   by_cases hrm:r=(m:Int)
   ·have hm2:a1+m+1<t.size:=by
     rcases HR.out with h|⟨m',h,h3,_⟩
     ·omega
     ·have:m'=m:=by omega
      omega
    subst hrm;have HST:=aM (steps_any HW4.out.s HW4.out.k.b hg (m+2) (by omega) hn);clear HR;go_wp2_with fail;refine HST.out.mono ?_;rintro e w5 ⟨rfl,⟨l5,h5⟩,k5⟩;have HW5:=aM (HW4.out.step h5 k5);clear h5 k5 HST HW4;have hcv:=own_string (P:=Tryz.prog) Tryz.underlying41 Tryz.underlying5 Tryz.underlying9 (Kd.own_of_R HW5.out.r);go_wp2_with fail;go_ret;exact⟨⟨_,rfl,strOfNums_le (by omega)⟩,⟨_,_,_,by omega,by omega,HC.out,HW5.out.s,HW5.out.k⟩⟩
   ·have hrb:(r==(m:Int))=false:=beq_eq_false_iff_ne.mpr hrm
    clear hrm HR;go_upto_region 9 with fail
    go_cut [40] from 29 to 40 (fun v wc=>∃b:Bool,v = .bool b/\Aside0 (Wr w0 w wc g t a1 l1 c1 (.slice A xs.length cp) xs))
    case first=>
     by_cases hm0:(m:Int)=0
     ·have hmb:((m:Int)==0)=true:=beq_iff_eq.2 hm0
      clear hm0;go_wp2_with fail;refine(byteAt0_q HW4.out.s (by omega)).mono ?_;rintro e w5 ⟨rfl,hd⟩;have HW5:=aM (HW4.out.drawn hd);clear hd;obtain⟨b1,hb1⟩:∃b1:Bool,(bt t (a1:Int)==91)=b1:=⟨_,rfl⟩;generalize bt t (a1:Int)=ch1 at hb1
      cases b1 with
      |true=>
       go_wp2_with fail;refine(byteAt1_q HW5.out.s (by omega)).mono ?_;rintro e w6 ⟨rfl,hd⟩;have HW6:=aM (HW5.out.drawn hd);clear hd;go_wp2_with fail;go_meet
       case rel=>exact⟨_,rfl,HW6⟩
      |false=>
       go_wp2_with fail;go_meet
       case rel=>exact⟨_,rfl,HW5⟩
     ·have hmb:((m:Int)==0)=false:=beq_eq_false_iff_ne.2 hm0
      clear hm0;go_wp2_with fail;go_meet
      case rel=>exact⟨_,rfl,HW4⟩
    clear HW4;obtain⟨b40,rfl,HW5⟩:=hcut
    go_upto_if 40 with fail
    go_cut [] from 41 to 42 (fun wc=>Aside0 (∃c2:Int,(c2=0->c1=0)/\Wr w0 w wc g t a1 l1 c2 (.slice A xs.length cp) xs))
    case first=>
     cases b40 with
     |true=>
      go_wp2_with fail;refine(tell_any HW5.out.s HW5.out.k.b hg 2).mono ?_;rintro e w6 ⟨rfl,h6,k6⟩;have HW6:=aM (HW5.out.step h6 k6);clear h6 k6;go_wp2_with fail;go_meet
      case rel=>exact⟨⟨_,fun h=>absurd h (tell_c (by decide)),HW6.out⟩⟩
     |false=>
      go_wp2_with fail;go_meet
      case rel=>exact⟨⟨_,fun h=>h,HW5.out⟩⟩
    clear HW5;obtain⟨⟨c2,hc2,hw⟩⟩:=hcut;have HC2:=aM hc2;have HW6:=aM hw;clear hc2 hw;go_wp2_with fail;refine(byteAt0_q HW6.out.s (by omega)).mono ?_;rintro e w7 ⟨rfl,hd⟩;have HW7:=aM (HW6.out.drawn hd);clear hd HW6;generalize bt t (a1:Int)=ch2;go_wp2_with (at_builtin;refine Wr.push rfl (.tmp 43) (.tmp 46) rfl rfl rfl HW7.out H0.out ch2 (by omega) ?_;intro v8 w8 h8;have HW8:=aM h8;clear h8;refine Hid.out ?_)
    refine unhid ?_;obtain⟨A8,c8,rfl⟩:=HW8.out.sl;go_wp2_with fail;refine(step_any HW8.out.s HW8.out.k.b hg hlt hn).mono ?_;rintro e w9 ⟨rfl,⟨l9,h9⟩,k9⟩;have HW9:=aM (HW8.out.step h9 k9);clear h9 k9 HW8 HW7;go_wp2_with fail;go_roundg (t.size-(a1+1))
    case measure=>omega
    case rel=>exact⟨a1+1,l9,c2,xs++[ch2],rfl,by omega,by omega,by rw[List.length_append];simp;omega,⟨fun h=>HC.out (HC2.out h)⟩,⟨by have h:=HW9.out;rw[List.length_append] at h;exact h⟩⟩
  ·have hd:decide (t.size<=a1)=true:=decide_eq_true (by omega)
   rw[hd] at HQ;clear hd;go_wp2_with fail;refine HQ.out.mono ?_;rintro e w3 ⟨rfl,hd⟩;have HW3:=aM (HW.out.drawn hd);clear hd HQ HW;have HT:=aM (tell_any HW3.out.s HW3.out.k.b hg 1);go_wp2_with fail;refine HT.out.mono ?_;rintro e w4 ⟨rfl,h4,k4⟩;have HW4:=aM (HW3.out.step h4 k4);clear h4 k4 HT HW3;go_wp2_with fail;go_ret;exact⟨⟨_,rfl,by decide⟩,⟨_,_,_,h1,h2,fun h=>absurd h (tell_c (by decide)),HW4.out.s,HW4.out.k⟩⟩
end
structure Ls(w0 w wr:World)(g:Nat)(t:ByteArray)(a:Nat)(l c:Int):Prop where
 s:Sb wr g t a l c
 k:Kp w0 w wr g
def isDig(x:Int):Bool:=decide (48<=x)&&decide (x<=57)
def isLet(x:Int):Bool:=(decide (97<=x)&&decide (x<=122))||(decide (65<=x)&&decide (x<=90))||x==95
theorem digit_q(x:Int)(w:World):Calls Tryz.prog 75 #[.int .u8 x] w fun e w'=>e = .returned (.bool (isDig x))/\Drawn0 w w':=
 spec_lxIsDigit.calls x _ w (by
  unfold spec_lxIsDigit.f isDig
  by_cases h:x>=48
  ·rw[if_pos h];simp[h]
  ·rw[if_neg h];simp[h])
theorem letter_q(x:Int)(w:World):Calls Tryz.prog 73 #[.int .u8 x] w fun e w'=>e = .returned (.bool (isLet x))/\Drawn0 w w':=
 spec_lxIsLetter.calls x _ w (by
  unfold spec_lxIsLetter.f isLet
  by_cases h1:x>=97<;>by_cases h2:x<=122<;>by_cases h3:x>=65<;>by_cases h4:x<=90<;>simp[h1,h2,h3,h4]<;>omega)
theorem isDig_pos{x:Int}(h:isDig x=true):x≠0:=by
 unfold isDig at h;simp at h;omega
def U8Res(e:Ending):Prop:=∃x:Int,e = .returned (.int .u8 x)
section
variable {w0 w wr w1 w2:World} {g a:Nat} {t:ByteArray} {l c:Int} {v:Value} {xs:List Int}
theorem Ls.drawn(h:Ls w0 w wr g t a l c)(k:Drawn0 wr w1):Ls w0 w w1 g t a l c:=⟨h.s.drawn k,h.k.drawn k⟩
theorem Ls.step(h:Ls w0 w wr g t a l c){a':Nat}{l' c':Int}(hs:Sb w1 g t a' l' c')(hk:Kp w0 wr w1 g):Ls w0 w w1 g t a' l' c':=⟨hs,h.k.trans hk⟩
theorem Ls.start(h:Sb w g t a l c)(hB:Below w0.heap.size w0 w):Ls w0 w w g t a l c:=⟨h,Kp.refl hB g⟩
set_option maxHeartbeats 4000000 in
theorem comment_any(h:Sb w g t a l c)(hB:Below w0.heap.size w0 w)(hg:w0.heap.size<=g)(ha:a+2<=t.size)(hn:t.size<=2000):
  Calls Tryz.prog 34 #[.pointer (some ⟨g,0,none⟩)] w fun e w'=>e = .returned (.tuple #[])/\Lr w0 w g t c (a+2) w':=by
 have H1:=aM (Ls.start h hB);clear h hB;go_enter Tryz.func34,Tryz.ntmps34
 go_wp2_with fail;refine(steps_any H1.out.s H1.out.k.b hg 2 (by omega) hn).mono ?_;rintro e w2 ⟨rfl,⟨lH2,hs⟩,hk⟩;have H2:=aM (H1.out.step hs hk);clear hs hk;go_wp2_with fail;refine(bracket_any H2.out.s H2.out.k.b hg (by omega) hn 91 (by decide)).mono ?_;rintro e w3 ⟨⟨r,rfl,hr⟩,hs,hk⟩;have H3:=aM (H2.out.step hs hk);have HR:=aM hr;clear hs hk hr H1 H2
 by_cases h0:0<=r
 ·obtain⟨m,rfl,hm⟩:∃m:Nat,r=(m:Int)/\a+2+m+1<t.size:=by
   rcases HR.out with h|⟨m,h1,h2,_⟩
   ·omega
   ·exact⟨m,h1,h2⟩
  clear HR;go_wp2_with fail;refine(long_any H3.out.s H3.out.k.b hg m hm hn).mono ?_;rintro e w4 ⟨⟨s,rfl,_⟩,a4,l4,c4,h41,h42,h43,hs,hk⟩;have H4:=aM (H3.out.step hs hk);have HC:=aM h43;clear hs hk h43;go_wp2_with fail;refine bodyPost_ret (results_none rfl _ _ _) rfl ?_;exact⟨rfl,_,_,_,by omega,h42,HC.out,H4.out.s,H4.out.k⟩
 ·have h0b:decide (0<=r)=false:=decide_eq_false h0
  clear HR;go_upto_region 4 with fail
  go_cut [19] from 12 to 19 (fun v wc=>∃b:Bool,v = .bool b/\Aside0 (∃l',Ls w0 w wc g t (a+2) l' c))
  case first=>
   go_wp2_with fail;refine(byteAt0_q H3.out.s (by omega)).mono ?_;rintro e w4 ⟨rfl,hd⟩;have H4:=aM (H3.out.drawn hd);clear hd;obtain⟨b1,hb1⟩:∃b1:Bool,(bt t ((a+2:Nat):Int)==91)=b1:=⟨_,rfl⟩;generalize bt t ((a+2:Nat):Int)=ch1 at hb1
   cases b1 with
   |true=>
    go_wp2_with fail;refine(byteAt1_q H4.out.s (by omega)).mono ?_;rintro e w5 ⟨rfl,hd⟩;have H5:=aM (H4.out.drawn hd);clear hd;go_wp2_with fail;go_meet
    case rel=>exact⟨_,rfl,⟨_,H5.out⟩⟩
   |false=>
    go_wp2_with fail;go_meet
    case rel=>exact⟨_,rfl,⟨_,H4.out⟩⟩
  clear H3;obtain⟨b19,rfl,⟨l4,h4⟩⟩:=hcut;have H4:=aM h4;clear h4
  go_upto_if 19 with fail
  go_cut [] from 20 to 21 (fun wc=>Aside0 (∃c2:Int,(c2=0->c=0)/\Ls w0 w wc g t (a+2) l4 c2))
  case first=>
   cases b19 with
   |true=>
    go_wp2_with fail;refine(tell_any H4.out.s H4.out.k.b hg 2).mono ?_;rintro e w5 ⟨rfl,hs,hk⟩;have H5:=aM (H4.out.step hs hk);clear hs hk;go_wp2_with fail;go_meet
    case rel=>exact⟨_,fun h=>absurd h (tell_c (by decide)),H5.out⟩
   |false=>
    go_wp2_with fail;go_meet
    case rel=>exact⟨_,fun h=>h,H4.out⟩
  clear H4;obtain⟨⟨c2,hc2,h5⟩⟩:=hcut;have HC:=aM hc2;have H5:=aM h5;clear hc2 h5;go_wp2_with fail;go_loopg [] (t.size-(a+2)) (fun k wr=>∃(a1:Nat) (l1:Int),k=t.size-a1/\a+2<=a1/\a1<=t.size/\Aside0 (Ls w0 w wr g t a1 l1 c2))
  case atStart=>exact⟨_,_,rfl,Nat.le_refl _,ha,H5⟩
  case round=>
   clear H5;obtain⟨a1,l1,hk,h1,h2,H6⟩:=hrel
   by_cases hlt:a1<t.size
   ·have HQ:=aM (isDone_q H6.out.s)
    rw[decide_eq_false (show ¬t.size<=a1 by omega)] at HQ;go_wp2_with fail;refine(HQ.out).mono ?_;rintro e w7 ⟨rfl,hd⟩;have H7:=aM (H6.out.drawn hd);clear hd;go_wp2_with fail;refine(byteAt0_q H7.out.s (by omega)).mono ?_;rintro e w8 ⟨rfl,hd⟩;have H8:=aM (H7.out.drawn hd);clear hd;obtain⟨b2,hb2⟩:∃b2:Bool,(bt t (a1:Int) != 10)=b2:=⟨_,rfl⟩;generalize bt t (a1:Int)=ch2 at hb2;clear HQ H6 H7
    cases b2 with
    |true=>
     go_wp2_with fail;refine(step_any H8.out.s H8.out.k.b hg hlt hn).mono ?_;rintro e w9 ⟨rfl,⟨lH9,hs⟩,hk⟩;have H9:=aM (H8.out.step hs hk);clear hs hk;go_wp2_with fail;go_roundg (t.size-(a1+1))
     case measure=>omega
     case rel=>exact⟨a1+1,_,rfl,by omega,by omega,H9⟩
    |false=>
     go_wp2_with fail;go_end0;exact⟨rfl,_,_,_,h1,h2,HC.out,H8.out.s,H8.out.k⟩
   ·have HQ:=aM (isDone_q H6.out.s)
    rw[decide_eq_true (show t.size<=a1 by omega)] at HQ;go_wp2_with fail;refine(HQ.out).mono ?_;rintro e w7 ⟨rfl,hd⟩;have H7:=aM (H6.out.drawn hd);clear hd;go_wp2_with fail;go_end0;exact⟨rfl,_,_,_,h1,h2,HC.out,H7.out.s,H7.out.k⟩
end
section
variable {w0 w wr w1 w2:World} {g a:Nat} {t:ByteArray} {l c:Int} {v:Value} {xs:List Int}
set_option maxHeartbeats 4000000 in
theorem digits_any(h:Sb w g t a l c)(hB:Below w0.heap.size w0 w)(hg:w0.heap.size<=g)(ha:a<=t.size)(hn:t.size<=2000):
  Calls Tryz.prog 151 #[.pointer (some ⟨g,0,none⟩)] w fun e w'=>U8Res e/\Lr w0 w g t c a w':=by
 have H1:=aM (Ls.start h hB);clear h hB;go_enter Tryz.func151,Tryz.ntmps151
 go_wp2_with fail;go_loopg [3,4] 3 (fun k v3 v4 wr=>∃(x:Int) (i a1:Nat) (l1:Int),v3 = .int .i64 x/\v4 = .int .i64 (i:Int)/\k=3-i/\i<=3/\a<=a1/\a1<=t.size/\Aside0 (Ls w0 w wr g t a1 l1 c))
 case atStart=>exact⟨_,0,_,_,rfl,rfl,rfl,by omega,Nat.le_refl _,ha,H1⟩
 case round=>
  clear H1;obtain⟨x,i,a1,l1,rfl,rfl,hk,hi,h1,h2,H2⟩:=hrel
  by_cases hi3:i<3
  ·have hi3I:(i:Int)<3:=by omega
   have q:IntKind.i64.wrap ((i:Int)+1)=((i+1:Nat):Int):=by rw[IntWalk.i64_in _ (by omega)];omega
   go_wp2_with fail;refine(byteAt0_q H2.out.s (by omega)).mono ?_;rintro e w3 ⟨rfl,hd⟩;have H3:=aM (H2.out.drawn hd);clear hd;go_wp2_with fail;refine(digit_q _ _).mono ?_;rintro e w4 ⟨rfl,hd⟩;have H4:=aM (H3.out.drawn hd);clear hd;obtain⟨b2,hb2⟩:∃b2:Bool,isDig (bt t (a1:Int))=b2:=⟨_,rfl⟩;rw[hb2];have HD:=aM hb2;clear hb2 H2 H3
   cases b2 with
   |true=>
    have hlt:a1<t.size:=bt_lt (isDig_pos HD.out);go_wp2_with fail;refine(byteAt0_q H4.out.s (by omega)).mono ?_;rintro e w5 ⟨rfl,hd⟩;have H5:=aM (H4.out.drawn hd);clear hd;generalize bt t (a1:Int)=ch2;go_wp2_with fail;refine(step_any H5.out.s H5.out.k.b hg hlt hn).mono ?_;rintro e w6 ⟨rfl,⟨lH6,hs⟩,hk⟩;have H6:=aM (H5.out.step hs hk);clear hs hk;go_wp2_with fail;go_roundg (3-(i+1))
    case measure=>omega
    case rel=>exact⟨_,i+1,a1+1,_,rfl,rfl,rfl,by omega,by omega,by omega,H6⟩
   |false=>
    by_cases hx:255<x
    ·go_wp2_with fail
     refine(tell_any H4.out.s H4.out.k.b hg 2).mono ?_;rintro e w5 ⟨rfl,hs,hk⟩;have H5:=aM (H4.out.step hs hk);clear hs hk;go_wp2_with fail;go_ret;exact⟨⟨_,rfl⟩,_,_,_,h1,h2,fun h=>absurd h (tell_c (by decide)),H5.out.s,H5.out.k⟩
    ·go_wp2_with fail
     go_ret;exact⟨⟨_,rfl⟩,_,_,_,h1,h2,fun h=>h,H4.out.s,H4.out.k⟩
  ·have hi3I:¬(i:Int)<3:=by omega
   by_cases hx:255<x
   ·go_wp2_with fail
    refine(tell_any H2.out.s H2.out.k.b hg 2).mono ?_;rintro e w5 ⟨rfl,hs,hk⟩;have H5:=aM (H2.out.step hs hk);clear hs hk;go_wp2_with fail;go_ret;exact⟨⟨_,rfl⟩,_,_,_,h1,h2,fun h=>absurd h (tell_c (by decide)),H5.out.s,H5.out.k⟩
   ·go_wp2_with fail
    go_ret;exact⟨⟨_,rfl⟩,_,_,_,h1,h2,fun h=>h,H2.out.s,H2.out.k⟩
set_option maxHeartbeats 4000000 in
theorem escape_any(h:Sb w g t a l c)(hB:Below w0.heap.size w0 w)(hg:w0.heap.size<=g)(ha:a+1<t.size)(hn:t.size<=2000):
  Calls Tryz.prog 134 #[.pointer (some ⟨g,0,none⟩)] w fun e w'=>U8Res e/\Lr w0 w g t c (a+1) w':=by
 have H1:=aM (Ls.start h hB);clear h hB;go_enter Tryz.func134,Tryz.ntmps134
 go_wp2_with fail;refine(step_any H1.out.s H1.out.k.b hg (by omega) hn).mono ?_;rintro e w2 ⟨rfl,⟨lH2,hs⟩,hk⟩;have H2:=aM (H1.out.step hs hk);clear hs hk;go_wp2_with fail;refine(byteAt0_q H2.out.s (by omega)).mono ?_;rintro e w3 ⟨rfl,hd⟩;have H3:=aM (H2.out.drawn hd);clear hd;generalize bt t ((a+1:Nat):Int)=ch;go_wp2_with fail;refine(digit_q _ _).mono ?_;rintro e w4 ⟨rfl,hd⟩;have H4:=aM (H3.out.drawn hd);clear hd;obtain⟨b2,hb2⟩:∃b2:Bool,isDig ch=b2:=⟨_,rfl⟩;rw[hb2];clear hb2 H1 H2 H3
 cases b2 with
 |true=>
  go_wp2_with fail;refine(digits_any H4.out.s H4.out.k.b hg (by omega) hn).mono ?_;rintro e w5 ⟨⟨x,rfl⟩,a5,l5,c5,h51,h52,h53,hs,hk⟩;have H5:=aM (H4.out.step hs hk);have HC:=aM h53;clear hs hk h53;go_wp2_with fail;go_ret;exact⟨⟨_,rfl⟩,_,_,_,h51,h52,HC.out,H5.out.s,H5.out.k⟩
 |false=>
  go_wp2_with fail;refine(step_any H4.out.s H4.out.k.b hg (by omega) hn).mono ?_;rintro e w5 ⟨rfl,⟨lH5,hs⟩,hk⟩;have H5:=aM (H4.out.step hs hk);clear hs hk;have fin:∀x:Int,U8Res (.returned (.int .u8 x))/\Lr w0 w g t c (a+1) w5:=fun x=>⟨⟨_,rfl⟩,_,_,_,by omega,by omega,fun h=>h,H5.out.s,H5.out.k⟩
  have FIN:=aM fin;clear fin;go_wp2_with fail
  all_goals first
   |(go_ret;exact FIN.out _)
   |(refine(tell_any H5.out.s H5.out.k.b hg 2).mono ?_
     rintro e w6 ⟨rfl,hs,hk⟩;have H6:=aM (H5.out.step hs hk);clear hs hk;go_wp2_with fail;go_ret;exact⟨⟨_,rfl⟩,_,_,_,by omega,by omega,fun h=>absurd h (tell_c (by decide)),H6.out.s,H6.out.k⟩)
set_option maxHeartbeats 4000000 in
theorem quoted_any(h:Sb w g t a l c)(hB:Below w0.heap.size w0 w)(hg:w0.heap.size<=g)(ha:a<t.size)(hn:t.size<=2000):
  Calls Tryz.prog 108 #[.pointer (some ⟨g,0,none⟩)] w fun e w'=>StrRes e/\Lr w0 w g t c (a+1) w':=by
 have H1:=aM (Ls.start h hB);have H0:=aM hB.size;clear h hB;go_enter Tryz.func108,Tryz.ntmps108
 go_wp2_with fail;refine(byteAt0_q H1.out.s (by omega)).mono ?_;rintro e w2 ⟨rfl,hd⟩;have H2:=aM (H1.out.drawn hd);clear hd;generalize bt t (a:Int)=quote;go_upto_region 2 with fail;have H3:=aM (Wr.nil H2.out.s H2.out.k);generalize w2.alloc _=w3 at H3|-;generalize w2.heap.size=n3 at H3|-;clear H1 H2;go_wp2_with fail;refine(step_any H3.out.s H3.out.k.b hg ha hn).mono ?_;rintro e w4 ⟨rfl,⟨lH4,hs⟩,hk⟩;have H4:=aM (H3.out.step hs hk);clear hs hk;go_wp2_with fail;go_loopg [4] (t.size-(a+1)) (fun k v wr=>∃(a1:Nat) (l1 c1:Int) (xs:List Int),k=t.size-a1/\a+1<=a1/\a1<=t.size/\xs.length<=a1/\Aside0 (c1=0->c=0)/\Aside0 (Wr w0 w wr g t a1 l1 c1 v xs))
 case atStart=>exact⟨_,_,_,[],rfl,Nat.le_refl _,by omega,Nat.zero_le _,⟨fun h=>h⟩,H4⟩
 case round=>
  clear H3 H4;obtain⟨a1,l1,c1,xs,hk,h1,h2,hx,HC,HW⟩:=hrel;obtain⟨A,cp,rfl⟩:=HW.out.sl;have REF:∀(w5:World),Aside0 (Wr w0 w w5 g t a1 l1 c1 (.slice A xs.length cp) xs)->True:=fun _ _=>trivial
  clear REF
  by_cases hlt:a1<t.size
  ·have HQ:=aM (isDone_q HW.out.s)
   rw[decide_eq_false (show ¬t.size<=a1 by omega)] at HQ;go_wp2_with fail;refine(HQ.out).mono ?_;rintro e w5 ⟨rfl,hd⟩;have H5:=aM (HW.out.drawn hd);clear hd;go_wp2_with fail;refine(byteAt0_q H5.out.s (by omega)).mono ?_;rintro e w6 ⟨rfl,hd⟩;have H6:=aM (H5.out.drawn hd);clear hd;obtain⟨b2,hb2⟩:∃b2:Bool,(bt t (a1:Int) != 10)=b2:=⟨_,rfl⟩;obtain⟨ch,hch⟩:∃ch:Int,bt t (a1:Int)=ch:=⟨_,rfl⟩;rw[hch] at hb2|-;have HCH:=aM hch;clear hch HQ HW H5
   cases b2 with
   |true=>
    go_wp2_with fail;refine(byteAt0_q H6.out.s (by omega)).mono ?_;rintro e w7 ⟨rfl,hd⟩;have H7:=aM (H6.out.drawn hd);clear hd;rw[HCH.out];clear H6
    by_cases hq:ch=quote
    ·have hqb:(ch==quote)=true:=beq_iff_eq.2 hq
     clear hq;go_wp2_with fail;refine(step_any H7.out.s H7.out.k.b hg hlt hn).mono ?_;rintro e w8 ⟨rfl,⟨lH8,hs⟩,hk⟩;have H8:=aM (H7.out.step hs hk);clear hs hk;have hcv:=own_string (P:=Tryz.prog) Tryz.underlying41 Tryz.underlying5 Tryz.underlying9 (Kd.own_of_R H8.out.r);go_wp2_with fail;go_ret;exact⟨⟨_,rfl,strOfNums_le (by omega)⟩,_,_,_,by omega,by omega,HC.out,H8.out.s,H8.out.k⟩
    ·have hqb:(ch==quote)=false:=beq_eq_false_iff_ne.2 hq
     clear hq
     by_cases hbs:ch=92
     ·subst hbs
      have hb3:=hb2;clear hb2 hb3;have c0:=H7.out.s.c0;have c1_:=H7.out.s.c1;have q:IntKind.i64.wrap ((a1:Int)+1)=(a1:Int)+1:=IntWalk.i64_in _ (by omega)
      by_cases hend:a1+1<t.size
      ·have hendI:(a1:Int)+1<(t.size:Int):=by omega
       go_wp2_with fail
       go_quiet (fail)
       have H8:=aM (H7.out.drewN nq);generalize w7.drewN nq=w8 at H8|-;clear c0 c1_ H7;go_wp2_with fail;refine(escape_any H8.out.s H8.out.k.b hg hend hn).mono ?_;rintro e w9 ⟨⟨x,rfl⟩,a9,l9,c9,h91,h92,h93,hs,hk2⟩;have H9:=aM (H8.out.step hs hk2);have HC9:=aM h93;clear hs hk2 h93 H8;go_wp2_with (at_builtin;refine Wr.push rfl (.tmp 41) (.tmp 44) rfl rfl rfl H9.out H0.out x (by omega) ?_;intro v10 w10 h10;have H10:=aM h10;clear h10;refine Hid.out ?_)
       refine unhid ?_;obtain⟨A8,c8,rfl⟩:=H10.out.sl;go_wp2_with fail;go_roundg (t.size-a9)
       case measure=>omega
       case rel=>exact⟨a9,_,_,xs++[x],rfl,by omega,by omega,by rw[List.length_append];simp;omega,⟨fun h=>HC.out (HC9.out h)⟩,(by first|exact H10|exact⟨by have h:=H10.out;rw[List.length_append] at h;exact h⟩)⟩
      ·have hendI:¬(a1:Int)+1<(t.size:Int):=by omega
       go_wp2_with fail
       go_quiet (fail)
       have H8:=aM (H7.out.drewN nq);generalize w7.drewN nq=w8 at H8|-;clear c0 c1_ H7;go_wp2_with fail;refine(tell_any H8.out.s H8.out.k.b hg 1).mono ?_;rintro e w9 ⟨rfl,hs,hk⟩;have H9:=aM (H8.out.step hs hk);clear hs hk;go_wp2_with fail;go_ret;exact⟨⟨_,rfl,by decide⟩,_,_,_,h1,h2,fun h=>absurd h (tell_c (by decide)),H9.out.s,H9.out.k⟩
     ·have hbb:(ch==92)=false:=beq_eq_false_iff_ne.2 hbs
      clear hbs;go_wp2_with (at_builtin;refine Wr.push rfl (.tmp 46) (.tmp 48) rfl rfl rfl H7.out H0.out ch (by omega) ?_;intro v10 w10 h10;have H10:=aM h10;clear h10;refine Hid.out ?_)
      refine unhid ?_;obtain⟨A8,c8,rfl⟩:=H10.out.sl;go_wp2_with fail;refine(step_any H10.out.s H10.out.k.b hg hlt hn).mono ?_;rintro e w11 ⟨rfl,⟨lH11,hs⟩,hk⟩;have H11:=aM (H10.out.step hs hk);clear hs hk;go_wp2_with fail;go_roundg (t.size-(a1+1))
      case measure=>omega
      case rel=>exact⟨a1+1,_,_,xs++[ch],rfl,by omega,by omega,by rw[List.length_append];simp;omega,HC,(by first|exact H11|exact⟨by have h:=H11.out;rw[List.length_append] at h;exact h⟩)⟩
   |false=>
    go_wp2_with fail;refine(tell_any H6.out.s H6.out.k.b hg 1).mono ?_;rintro e w9 ⟨rfl,hs,hk⟩;have H9:=aM (H6.out.step hs hk);clear hs hk;go_wp2_with fail;go_ret;exact⟨⟨_,rfl,by decide⟩,_,_,_,h1,h2,fun h=>absurd h (tell_c (by decide)),H9.out.s,H9.out.k⟩
  ·have HQ:=aM (isDone_q HW.out.s)
   rw[decide_eq_true (show t.size<=a1 by omega)] at HQ;go_wp2_with fail;refine(HQ.out).mono ?_;rintro e w5 ⟨rfl,hd⟩;have H5:=aM (HW.out.drawn hd);clear hd;go_wp2_with fail;refine(tell_any H5.out.s H5.out.k.b hg 1).mono ?_;rintro e w9 ⟨rfl,hs,hk⟩;have H9:=aM (H5.out.step hs hk);clear hs hk;go_wp2_with fail;go_ret;exact⟨⟨_,rfl,by decide⟩,_,_,_,h1,h2,fun h=>absurd h (tell_c (by decide)),H9.out.s,H9.out.k⟩
end
theorem float_run(op:BinOp)(hop:op = .mul\/op = .quo)(t:TypeId)(x y:Nat)(w:World):∃r w',(binOp op t (.float .f64 x) (.float .f64 y)).run Tryz.prog w = .ok (.float .f64 r) w'/\Drawn0 w w':=by
 cases h:floatBits op .f64 x y with
 |some r=>exact⟨r,w,run_float_arith w op t .f64 x y r h,Drawn0.refl w⟩
 |none=>
  have key:∃r w',(binOp op t (.float .f64 x) (.float .f64 y)).run Tryz.prog w = .ok (.float .f64 r) w'/\∃n,w'=w.drewN n:=by
   rcases hop with rfl|rfl
   all_goals
    simp only[floatBits] at h;simp only[binOp,Op.floatArith,h,choose]
    by_cases hq:(Question.nanBits FloatKind.f64 x y).forced=true
    ·refine⟨0,w,?_,0,rfl⟩
     simp[Sem.run,hq]
    ·refine⟨(Question.nanBits FloatKind.f64 x y).cut (w.tape w.drawn (Question.nanBits FloatKind.f64 x y)),w.drew,?_,1,rfl⟩
     simp[Sem.run,hq]
  obtain⟨r,w',h1,h2⟩:=key;exact⟨r,w',h1,⟨h2⟩⟩
def FltRes(e:Ending):Prop:=∃x:Nat,e = .returned (.float .f64 x)
theorem power_any(n:Nat)(hn:n<=1000)(w:World):Calls Tryz.prog 150 #[.int .i64 (n:Int)] w fun e w'=>FltRes e/\Drawn0 w w':=by
 go_enter Tryz.func150,Tryz.ntmps150
 go_wp2
 go_loopg [0,3] n (fun k v0 v3 wr=>∃x:Nat,v0 = .int .i64 (k:Int)/\k<=n/\v3 = .float .f64 x/\Drawn0 w wr)
 case atStart=>exact⟨_,rfl,Nat.le_refl _,rfl,Drawn0.refl w⟩
 case round=>
  obtain⟨x,rfl,hk,rfl,hd⟩:=hrel
  cases gk with
  |zero=>
   go_wp2
   go_ret;exact⟨⟨_,rfl⟩,hd⟩
  |succ gk=>
   have q:IntKind.i64.wrap (((gk+1:Nat):Int)-1)=(gk:Int):=by rw[IntWalk.i64_in _ (by omega)];omega
   obtain⟨r,w1,hrun,hd1⟩:=float_run .mul (.inl rfl) 23 x 4621819117588971520 wr
   go_wp2
   go_roundg gk
   case measure=>omega
   case rel=>exact⟨r,rfl,by omega,rfl,by obtain⟨n,rfl⟩:=hd1;exact hd.step n⟩
end Go.Proofs.YtoimaaonloibfaaGreatDoor.Lx
namespace Go.Proofs.YtoimaaonloibfaaGreatDoor.Lx
open Go.RowKit W1 W2 PF Wf
def NumlRes(e0:Int)(e:Ending):Prop:=∃(x:Nat) (s:ByteArray) (b:Bool),e = .returned (.tuple #[.float .f64 x,.string s,.bool b])/\(b=true->NumT (bytesOf s))/\s.size<=50/\(-22<=e0->e0<=5->b=true)
theorem below_drawn{B:Nat}{w w1 w2:World}(h:Below B w w1)(k:Drawn0 w1 w2):Below B w w2:=by
 obtain⟨n,rfl⟩:=k;exact pD h n
theorem below_self(w:World):Below w.heap.size w w:=bR _ _
theorem pow_le15{n:Nat}(h:n<=15):(10:Int) ^ n<=10 ^ 15:=by
 obtain⟨d,hd⟩:∃d,n+d=15:=⟨15-n,by omega⟩;have h1:(10:Int) ^ 15=10 ^ n*10 ^ d:=by rw[<-Int.pow_add,hd]
 have h2:(1:Int)<=10 ^ d:=Int.pow_pos (by omega);have h3:(10:Int) ^ n*1<=10 ^ n*10 ^ d:=Int.mul_le_mul_of_nonneg_left h2 (Int.le_of_lt (Int.pow_pos (by omega)));omega
theorem numt_zero:NumT (bytesOf ⟨#[48]⟩):=⟨[48],⟨by simp,by intro x hx;simp at hx;omega⟩,.inl rfl,.inl rfl⟩
theorem ret3{P:Program}{fn:Func}{R:Ending->World->Prop}{tmps:Array Value}{w:World}{i j k:Tmp}{v1 v2 v3:Value}(hr:fn.results = #[.tmp i,.tmp j,.tmp k])(h1:tmps.getD i undef=v1)(h2:tmps.getD j undef=v2)(h3:tmps.getD k undef=v3)(h:R (.returned (.tuple #[v1,v2,v3])) w):bodyPost P fn R .ret ⟨tmps,[]⟩ w:=by
 refine bodyPost_ret (v:= .tuple #[v1,v2,v3]) ?_ rfl h;simp only[Array.getD_eq_getD_getElem?] at h1 h2 h3;simp[results,hr,h1,h2,h3,go_sem]
set_option maxHeartbeats 4000000 in
theorem numeral_any(m e:Int)(w:World)(hm0:0<=m)(hm1:m<100000000000000000)(he0: -5000<=e)(he1:e<=5000):
  Calls Tryz.prog 132 #[.int .i64 m,.int .i64 e] w fun e1 w'=>NumlRes e e1/\Below w.heap.size w w':=by
 go_enter Tryz.func132,Tryz.ntmps132
 go_wp2_with fail;go_loopg [0,1] 17 (fun k v0 v1 wr=>∃m1 e1:Int,v0 = .int .i64 m1/\v1 = .int .i64 e1/\0<=m1/\m1<100000000000000000/\Aside0 (m1<10 ^ k)/\e<=e1/\e1+(k:Int)<=e+17/\wr=w)
 case atStart=>exact⟨_,_,rfl,rfl,hm0,hm1,⟨by omega⟩,Int.le_refl _,by omega,rfl⟩
 case round=>
  clear hm0 hm1;obtain⟨m1,e1,rfl,rfl,hm0,hm1,hmk,he2,he3,rfl⟩:=hrel;have HE:=aM (show e<=e1/\e1+(gk:Int)<=e+17 from⟨he2,he3⟩);have hb1: -5000<=e1:=by omega
  have hb2:e1<=5017:=by omega
  clear he2 he3 he0 he1
  by_cases hz:m1=0
  ·subst hz
   go_wp2_with fail;refine ret3 rfl rfl rfl rfl ?_;exact⟨⟨_,_,_,rfl,fun _=>numt_zero,by decide,fun _ _=>rfl⟩,bR _ _⟩
  ·have hzb:(m1==0)=false:=beq_eq_false_iff_ne.2 hz
   have hzb2:(m1 != 0)=true:=bne_iff_ne.2 hz
   by_cases h10:m1%10=0
   ·have h10b:(m1%10==0)=true:=beq_iff_eq.2 h10
    have q:IntKind.i64.wrap (e1+1)=e1+1:=IntWalk.i64_in _ (by omega)
    cases gk with
    |zero=>have:=hmk.out;omega
    |succ gk=>
     go_wp2_with fail;go_roundg gk
     case measure=>omega
     case rel=>exact⟨m1/10,e1+1,rfl,rfl,by omega,by omega,⟨by have:=hmk.out;rw[Int.pow_succ] at this;omega⟩,by have:=HE.out;omega,by have:=HE.out;omega,rfl⟩
   ·have h10b:(m1%10==0)=false:=beq_eq_false_iff_ne.2 h10
    obtain⟨r,hr1,hr2,hr3,hr4,hr5,hr6⟩:=digs_any m1 hm0 (by omega);have hpos:0<m1:=by omega
    have HR:=aM (show Digs (bytesOf r)/\(bytesOf r).head?≠some 48/\m1<10 ^ r.size from⟨hr1,hr3 hpos,hr5⟩);have HD:=aM hr6;clear hr1 hr2 hr3 hr5 hr6 h10
    by_cases he:0<=e1
    ·obtain⟨en,rfl⟩:∃en:Nat,e1=(en:Int):=⟨e1.toNat,by omega⟩
     clear he;go_wp2_with fail;refine(HD.out _).mono ?_;rintro e w2 ⟨rfl,hb⟩;have HB:=aM hb;clear hb
     by_cases h15:(r.size:Int)+(en:Int)<=15
     ·have q15:IntKind.i64.wrap ((r.size:Int)+(en:Int))=(r.size:Int)+(en:Int):=IntWalk.i64_in _ (by omega)
      go_wp2_with fail;have hm15:m1*10 ^ en<1000000000000000:=by
       have h1:=HR.out.2.2;have h2:(10:Int) ^ r.size*10 ^ en=10 ^ (r.size+en):=(Int.pow_add ..).symm;have h3:(10:Int) ^ (r.size+en)<=10 ^ 15:=pow_le15 (by omega);have h4:m1*10 ^ en<10 ^ r.size*10 ^ en:=Int.mul_lt_mul_of_pos_right h1 (Int.pow_pos (by omega));omega
      go_loopg [0,1] en (fun k v0 v1 w3=>∃m2:Int,v0 = .int .i64 m2/\v1 = .int .i64 (k:Int)/\k<=en/\0<m2/\Aside0 (m2*10 ^ k<1000000000000000)/\w3=w2)
      case atStart=>exact⟨_,rfl,rfl,Nat.le_refl _,hpos,⟨hm15⟩,rfl⟩
      case round=>
       clear hm15;obtain⟨m2,rfl,rfl,hken,hp2,hm2,rfl⟩:=hrel
       cases gk with
       |zero=>
        have hm3:m2<1000000000000000:=by have:=hm2.out;omega
        obtain⟨r2,h21,h22,h23,h24,h25,h26⟩:=digs_any m2 (by omega) (by omega);have HD2:=aM h26;have HN:=aM (show NumT (bytesOf r2) from⟨_,h21,.inr (h23 hp2),.inl rfl⟩);clear h21 h22 h23 h25 h26;go_wp2_with fail;refine(HD2.out _).mono ?_;rintro e w5 ⟨rfl,hb⟩;have HB5:=aM (below_then HB.out HB.out.size hb);clear hb;go_wp2_with fail;refine ret3 rfl rfl rfl rfl ?_;exact⟨⟨_,_,_,rfl,(fun _=>HN.out),by omega,fun _ _=>rfl⟩,HB5.out⟩
       |succ k2=>
        have hm3:m2*10<1000000000000000:=by
         have h1:=hm2.out;have h2:(1:Int)<=10 ^ k2:=Int.pow_pos (by omega);have h3:m2*10 ^ (k2+1)=m2*10*10 ^ k2:=by rw[Int.pow_succ,Int.mul_comm (10 ^ k2),<-Int.mul_assoc]
         have h4:m2*10*1<=m2*10*10 ^ k2:=Int.mul_le_mul_of_nonneg_left h2 (by omega);omega
        have HM3:=aM (show m2*10*10 ^ k2<1000000000000000 by
         have h1:=hm2.out
         rwa[Int.pow_succ,Int.mul_comm (10 ^ k2),<-Int.mul_assoc] at h1)
        have q1:IntKind.i64.wrap (m2*10)=m2*10:=IntWalk.i64_in _ (by omega);have q2:IntKind.i64.wrap (((k2+1:Nat):Int)-1)=(k2:Int):=by rw[IntWalk.i64_in _ (by omega)];omega
        go_wp2_with fail;go_roundg k2
        case measure=>omega
        case rel=>exact⟨m2*10,rfl,rfl,by omega,by omega,HM3,rfl⟩
     ·have q15:IntKind.i64.wrap ((r.size:Int)+(en:Int))=(r.size:Int)+(en:Int):=IntWalk.i64_in _ (by omega)
      by_cases h22:22<(en:Int)
      ·go_wp2_with fail
       refine ret3 rfl rfl rfl rfl ?_;exact⟨⟨_,_,_,rfl,(fun h=>by cases h),by decide,fun h1 h2=>by have:=HE.out;omega⟩,HB.out⟩
      ·go_wp2_with fail
       refine(power_any en (by omega) _).mono ?_;rintro e w3 ⟨⟨x,rfl⟩,hd⟩;have HB3:=aM (below_drawn HB.out hd);clear hd;obtain⟨x2,w4,hrun,hd⟩:=float_run .mul (.inl rfl) 23 (floatOfInt .f64 m1) x w3
       have HB4:=aM (below_drawn HB3.out hd);clear hd;go_wp2_with fail;refine(HD.out _).mono ?_;rintro e w5 ⟨rfl,hb⟩;have HB5:=aM (below_then HB4.out HB4.out.size hb);clear hb;obtain⟨r2,h21,h22,h23,h24,h25,h26⟩:=digs_any (en:Int) (by omega) (by omega);have HD2:=aM h26;have HN:=aM (show NumT (bytesOf (r++⟨#[101]⟩++r2)) from⟨_,HR.out.1,.inr HR.out.2.1,.inr ⟨_,h21,.inl (by rw[bytesOf_append,bytesOf_append,List.append_assoc];rfl)⟩⟩);clear h21 h22 h23 h25 h26;have z1:(⟨#[101]⟩:ByteArray).size=1:=rfl;have z2:(r++(⟨#[101]⟩:ByteArray)).size=r.size+1:=ByteArray.size_append;go_wp2_with fail;refine(HD2.out _).mono ?_;rintro e w6 ⟨rfl,hb⟩;have HB6:=aM (below_then HB5.out HB5.out.size hb);clear hb;go_wp2_with fail;refine ret3 rfl rfl rfl rfl ?_;exact⟨⟨_,_,_,rfl,(fun _=>HN.out),by rw[ByteArray.size_append,z2];omega,fun _ _=>rfl⟩,HB6.out⟩
    ·have heb:decide (0<=e1)=false:=decide_eq_false he
     by_cases h22:e1 < -22
     ·go_wp2_with fail
      refine ret3 rfl rfl rfl rfl ?_;exact⟨⟨_,_,_,rfl,(fun h=>by cases h),by decide,fun h1 h2=>by have:=HE.out;omega⟩,bR _ _⟩
     ·obtain⟨en,rfl⟩:∃en:Nat,e1 = -(en:Int):=⟨(-e1).toNat,by omega⟩
      have hen:0<en:=by omega
      have heb2:decide (-(en:Int)<0)=true:=decide_eq_true (by omega);have heb3:decide (-(en:Int) < -22)=false:=decide_eq_false h22;have heb4:decide ((22:Int) < -(en:Int))=false:=decide_eq_false (by omega);have hn22:¬(22<en):=by omega
      clear h22;go_wp2_with fail;refine(power_any en (by omega) _).mono ?_;rintro e w3 ⟨⟨x,rfl⟩,hd⟩;have HB3:=aM (below_drawn (below_self _) hd);clear hd;obtain⟨x2,w4,hrun,hd⟩:=float_run .quo (.inr rfl) 23 (floatOfInt .f64 m1) x w3
      have HB4:=aM (below_drawn HB3.out hd);clear hd;go_wp2_with fail;refine(HD.out _).mono ?_;rintro e w5 ⟨rfl,hb⟩;have HB5:=aM (below_then HB4.out HB4.out.size hb);clear hb;obtain⟨r2,h21,h22,h23,h24,h25,h26⟩:=digs_any (en:Int) (by omega) (by omega);have HD2:=aM h26;have HN:=aM (show NumT (bytesOf (r++⟨#[101,45]⟩++r2)) from⟨_,HR.out.1,.inr HR.out.2.1,.inr ⟨_,h21,.inr (by rw[bytesOf_append,bytesOf_append,List.append_assoc];rfl)⟩⟩);clear h21 h22 h23 h25 h26;have z1:(⟨#[101,45]⟩:ByteArray).size=2:=rfl;have z2:(r++(⟨#[101,45]⟩:ByteArray)).size=r.size+2:=ByteArray.size_append;go_wp2_with fail;refine(HD2.out _).mono ?_;rintro e w6 ⟨rfl,hb⟩;have HB6:=aM (below_then HB5.out HB5.out.size hb);clear hb;go_wp2_with fail;refine ret3 rfl rfl rfl rfl ?_;exact⟨⟨_,_,_,rfl,(fun _=>HN.out),by rw[ByteArray.size_append,z2];omega,fun _ _=>rfl⟩,HB6.out⟩
def RunR(w0 w:World)(g:Nat)(t:ByteArray)(a:Nat)(c:Int)(e:Ending)(w':World):Prop:=∃(m:Int) (n:Nat) (l':Int),e = .returned (.tuple #[.int .i64 m,.int .i64 (n:Int)])/\0<=m/\m<10000000000000000/\a+n<=t.size/\(isDig (bt t (a:Int))=true->1<=n)/\(isDig (bt t (a:Int))=false->n=0)/\Sb w' g t (a+n) l' c/\Kp w0 w w' g
theorem ret2{P:Program}{fn:Func}{R:Ending->World->Prop}{tmps:Array Value}{w:World}{i j:Tmp}{v1 v2:Value}(hr:fn.results = #[.tmp i,.tmp j])(h1:tmps.getD i undef=v1)(h2:tmps.getD j undef=v2)(h:R (.returned (.tuple #[v1,v2])) w):bodyPost P fn R .ret ⟨tmps,[]⟩ w:=by
 refine bodyPost_ret (v:= .tuple #[v1,v2]) ?_ rfl h;simp only[Array.getD_eq_getD_getElem?] at h1 h2;simp[results,hr,h1,h2,go_sem]
theorem isDig_spec{x:Int}:isDig x=true↔48<=x/\x<=57:=by
 unfold isDig;simp
section
variable {w0 w wr w1 w2:World} {g a:Nat} {t:ByteArray} {l c:Int} {v:Value} {xs:List Int}
theorem Ls.below(h:Ls w0 w wr g t a l c)(hb:Below wr.heap.size wr w1):Ls w0 w w1 g t a l c:=
 ⟨h.s.below hb,⟨h.k.b.trans (hb.mono h.k.b.size),KeepBut.trans h.k.k (KeepBut.of_below hb g none) (.inl rfl)⟩⟩
set_option maxHeartbeats 4000000 in
theorem run_any(h:Sb w g t a l c)(hB:Below w0.heap.size w0 w)(hg:w0.heap.size<=g)(ha:a<=t.size)(hn:t.size<=2000)(m:Int)(hm0:0<=m)(hm1:m<10000000000000000):
  Calls Tryz.prog 133 #[.pointer (some ⟨g,0,none⟩),.int .i64 m] w fun e w'=>RunR w0 w g t a c e w':=by
 have H1:=aM (Ls.start h hB);clear h hB;go_enter Tryz.func133,Tryz.ntmps133
 go_wp2_with fail;go_loopg [1,6] (t.size-a) (fun k v1 v6 wr=>∃(m1:Int) (n:Nat) (l2:Int),v1 = .int .i64 m1/\v6 = .int .i64 (n:Int)/\k=t.size-(a+n)/\a+n<=t.size/\0<=m1/\m1<10000000000000000/\Aside0 (isDig (bt t (a:Int))=false->n=0)/\Aside0 (Ls w0 w wr g t (a+n) l2 c))
 case atStart=>exact⟨_,0,_,rfl,rfl,rfl,ha,hm0,hm1,⟨fun _=>rfl⟩,H1⟩
 case round=>
  clear H1 hm0 hm1;obtain⟨m1,n,l2,rfl,rfl,hk,h2,hm0,hm1,HN0,H2⟩:=hrel;have HCH:Aside0 (isDig (bt t ((a+n:Nat):Int))=isDig (bt t ((a+n:Nat):Int))):=⟨rfl⟩;go_wp2_with fail;refine(byteAt0_q H2.out.s (by omega)).mono ?_;rintro e w3 ⟨rfl,hd⟩;have H3:=aM (H2.out.drawn hd);clear hd;obtain⟨ch,hch⟩:∃ch:Int,bt t ((a+n:Nat):Int)=ch:=⟨_,rfl⟩;rw[hch];have HC:=aM hch;clear hch HCH H2;go_wp2_with fail;refine(digit_q _ _).mono ?_;rintro e w4 ⟨rfl,hd⟩;have H4:=aM (H3.out.drawn hd);clear hd;clear H3
  cases hd:isDig ch with
  |true=>
   have hd2:=isDig_spec.1 hd;have hlt:a+n<t.size:=bt_lt (by rw[HC.out];exact isDig_pos hd);have q1:IntKind.i64.wrap ((n:Int)+1)=((n+1:Nat):Int):=by rw[IntWalk.i64_in _ (by omega)];omega
   clear hd
   go_upto_if 11 with fail
   go_cut [1] from 11 to 18 (fun v wc=>∃m2:Int,v = .int .i64 m2/\0<=m2/\m2<10000000000000000/\Aside0 (Ls w0 w wc g t (a+n) l2 c))
   case first=>
    by_cases hm:m1<1000000000000000
    ·have q2:IntKind.u8.wrap (ch-48)=ch-48:=IntWalk.u8_in _ (by omega)
     have q3:IntKind.i64.wrap (10*m1)=10*m1:=IntWalk.i64_in _ (by omega);have q4:IntKind.i64.wrap (10*m1+(ch-48))=10*m1+(ch-48):=IntWalk.i64_in _ (by omega);go_wp2_with fail;refine(byteAt0_q H4.out.s (by omega)).mono ?_;rintro e w5 ⟨rfl,hd⟩;have H5:=aM (H4.out.drawn hd);clear hd;rw[HC.out];go_wp2_with fail;go_meet
     case rel=>exact⟨10*m1+(ch-48),rfl,by omega,by omega,H5⟩
    ·have hmb:decide (m1<1000000000000000)=false:=decide_eq_false hm
     go_wp2_with fail;go_meet
     case rel=>exact⟨m1,rfl,hm0,hm1,H4⟩
   clear H4;obtain⟨m2,rfl,hm20,hm21,H5⟩:=hcut;go_wp2_with fail;refine(step_any H5.out.s H5.out.k.b hg hlt hn).mono ?_;rintro e w6 ⟨rfl,⟨lH6,hs⟩,hk⟩;have H6:=aM (H5.out.step hs hk);clear hs hk;go_wp2_with fail;go_roundg (t.size-(a+(n+1)))
   case measure=>omega
   case rel=>exact⟨m2,n+1,_,rfl,rfl,rfl,by omega,hm20,hm21,⟨fun h=>by
    exfalso
    have:=HN0.out h;subst this;rw[<-HC.out,Nat.add_zero] at hd2;rw[isDig_spec.2 hd2] at h
    cases h⟩,H6⟩
  |false=>
   go_wp2_with fail;refine ret2 rfl rfl rfl ?_;refine⟨_,n,_,rfl,hm0,hm1,h2,fun h=> ?_,HN0.out,H4.out.s,H4.out.k⟩
   by_cases hn0:n=0
   ·exfalso
    subst hn0;have h9:=HC.out;rw[Nat.add_zero] at h9;rw[h9,hd] at h;cases h
   ·omega
def hexv(x:Int):Int:=if 48<=x/\x<=57 then x-48 else if 97<=x/\x<=102 then x-97+10 else if 65<=x/\x<=70 then x-65+10 else -1
theorem hexv_range(x:Int): -1<=hexv x/\hexv x<=15:=by
 unfold hexv
 split
 ·omega
 ·split
  ·omega
  ·split<;>omega
theorem hexv_zero:hexv 0 = -1:=by decide
theorem hex_q(x:Int)(h0:0<=x)(h1:x<=255)(w:World):Calls Tryz.prog 131 #[.int .u8 x] w fun e w'=>e = .returned (.int .i64 (hexv x))/\Drawn0 w w':=
 spec_lxHex.calls 3 x _ w (by
  unfold spec_lxHex.f hexv;simp only[spec_lxHex.j0,spec_lxHex.j1]
  by_cases a1:x>=48<;>by_cases a2:x<=57<;>by_cases a3:x>=97<;>by_cases a4:x<=102<;>by_cases a5:x>=65<;>by_cases a6:x<=70<;>simp[a1,a2,a3,a4,a5,a6]<;>omega)
end
def DecR(w0 w:World)(g:Nat)(t:ByteArray)(c:Int)(lo:Nat)(e:Ending)(w':World):Prop:=
 ∃(x:Nat) (s:ByteArray) (a':Nat) (l' c':Int),e = .returned (.tuple #[.float .f64 x,.string s])/\s.size<=50/\(c'=0->NumT (bytesOf s))/\lo<=a'/\a'<=t.size/\(c'=0->c=0)/\Sb w' g t a' l' c'/\Kp w0 w w' g
section
variable {w0 w wr w1 w2:World} {g a:Nat} {t:ByteArray} {l c:Int} {v:Value} {xs:List Int}
set_option maxHeartbeats 4000000 in
theorem hexadecimal_any(h:Sb w g t a l c)(hB:Below w0.heap.size w0 w)(hg:w0.heap.size<=g)(ha:a<=t.size)(hn:t.size<=2000):
  Calls Tryz.prog 106 #[.pointer (some ⟨g,0,none⟩)] w fun e w'=>DecR w0 w g t c a e w':=by
 have H1:=aM (Ls.start h hB);clear h hB;go_enter Tryz.func106,Tryz.ntmps106
 go_wp2_with fail;go_loopg [4,5] (t.size-a) (fun k v4 v5 wr=>∃(m1:Int) (n:Nat) (l2:Int),v4 = .int .i64 m1/\v5 = .int .i64 (n:Int)/\k=t.size-(a+n)/\a+n<=t.size/\0<=m1/\m1<281474976710656/\Aside0 (n<=12->m1<16 ^ n)/\Aside0 (Ls w0 w wr g t (a+n) l2 c))
 case atStart=>exact⟨_,0,_,rfl,rfl,rfl,ha,Int.le_refl _,by omega,⟨fun _=>by omega⟩,H1⟩
 case round=>
  clear H1;obtain⟨m1,n,l2,rfl,rfl,hk,h2,hm0,hm1,HM,H2⟩:=hrel;have hrg:=bt_range t ((a+n:Nat):Int);go_wp2_with fail;refine(byteAt0_q H2.out.s (by omega)).mono ?_;rintro e w3 ⟨rfl,hd⟩;have H3:=aM (H2.out.drawn hd);clear hd;obtain⟨ch,hch⟩:∃ch:Int,bt t ((a+n:Nat):Int)=ch:=⟨_,rfl⟩;rw[hch] at hrg|-;have HC:=aM hch;clear hch H2;go_wp2_with fail;refine(hex_q _ hrg.1 hrg.2 _).mono ?_;rintro e w4 ⟨rfl,hd⟩;have H4:=aM (H3.out.drawn hd);clear hd;clear H3;have hhr:=hexv_range ch
  by_cases hx:0<=hexv ch
  ·have hlt:a+n<t.size:=bt_lt (by
    rw[HC.out];rintro rfl;rw[hexv_zero] at hx
    omega)
   have q1:IntKind.i64.wrap ((n:Int)+1)=((n+1:Nat):Int):=by rw[IntWalk.i64_in _ (by omega)];omega
   go_upto_if 14 with fail
   go_cut [4] from 14 to 20 (fun v wc=>∃m2:Int,v = .int .i64 m2/\0<=m2/\m2<281474976710656/\Aside0 (n+1<=12->m2<16 ^ (n+1))/\Aside0 (Ls w0 w wc g t (a+n) l2 c))
   case first=>
    by_cases hn12:n<12
    ·have hn12I:(n:Int)<12:=by omega
     have hm2:16*m1+hexv ch<16 ^ (n+1):=by
      have:=HM.out (by omega);rw[Int.pow_succ];omega
     have hm3:16*m1+hexv ch<281474976710656:=by
      obtain⟨d,hd⟩:∃d,n+1+d=12:=⟨12-(n+1),by omega⟩;have h1:(16:Int) ^ 12=16 ^ (n+1)*16 ^ d:=by rw[<-Int.pow_add,hd]
      have h2:(1:Int)<=16 ^ d:=Int.pow_pos (by omega);have h3:(16:Int) ^ (n+1)*1<=16 ^ (n+1)*16 ^ d:=Int.mul_le_mul_of_nonneg_left h2 (Int.le_of_lt (Int.pow_pos (by omega)));omega
     have HM2:=aM (show n+1<=12->16*m1+hexv ch<16 ^ (n+1) from fun _=>hm2);clear hm2;have q3:IntKind.i64.wrap (16*m1)=16*m1:=IntWalk.i64_in _ (by omega);have q4:IntKind.i64.wrap (16*m1+hexv ch)=16*m1+hexv ch:=IntWalk.i64_in _ (by omega);go_wp2_with fail;refine(byteAt0_q H4.out.s (by omega)).mono ?_;rintro e w5 ⟨rfl,hd⟩;have H5:=aM (H4.out.drawn hd);clear hd;rw[HC.out];go_wp2_with fail;refine(hex_q _ hrg.1 hrg.2 _).mono ?_;rintro e w6 ⟨rfl,hd⟩;have H6:=aM (H5.out.drawn hd);clear hd;go_wp2_with fail;go_meet
     case rel=>exact⟨16*m1+hexv ch,rfl,by omega,by omega,HM2,H6⟩
    ·have hmb:decide ((n:Int)<12)=false:=decide_eq_false (by omega)
     go_wp2_with fail;go_meet
     case rel=>exact⟨m1,rfl,hm0,hm1,⟨fun h=>by omega⟩,H4⟩
   clear H4;obtain⟨m2,rfl,hm20,hm21,HM2,H5⟩:=hcut;go_wp2_with fail;refine(step_any H5.out.s H5.out.k.b hg hlt hn).mono ?_;rintro e w6 ⟨rfl,⟨lH6,hs⟩,hk⟩;have H6:=aM (H5.out.step hs hk);clear hs hk;go_wp2_with fail;go_roundg (t.size-(a+(n+1)))
   case measure=>omega
   case rel=>exact⟨m2,n+1,_,rfl,rfl,rfl,by omega,hm20,hm21,HM2,H6⟩
  ·have hxb:decide (0<=hexv ch)=false:=decide_eq_false hx
   go_upto_region 7 with fail
   go_cut [30] from 9 to 32 (fun v wc=>∃b:Bool,v = .bool b/\wc=w4)
   case first=>
    by_cases hn1:(n:Int)<1
    ·go_wp2_with fail
     go_meet
     case rel=>exact⟨true,rfl,rfl⟩
    ·by_cases hn2:12<(n:Int)
     ·go_wp2_with fail
      go_meet
      case rel=>exact⟨true,rfl,rfl⟩
     ·go_wp2_with fail
      go_meet
      case rel=>exact⟨false,rfl,rfl⟩
   obtain⟨b30,rfl,rfl⟩:=hcut
   go_upto_if 30 with fail
   go_cut [] from 30 to 32 (fun wc=>Aside0 (∃c2:Int,(c2=0->c=0)/\Ls w0 w wc g t (a+n) l2 c2))
   case first=>
    cases b30 with
    |true=>
     go_wp2_with fail;refine(tell_any H4.out.s H4.out.k.b hg 2).mono ?_;rintro e w5 ⟨rfl,hs,hk⟩;have H5:=aM (H4.out.step hs hk);clear hs hk;go_wp2_with fail;go_meet
     case rel=>exact⟨_,fun h=>absurd h (tell_c (by decide)),H5.out⟩
    |false=>
     go_wp2_with fail;go_meet
     case rel=>exact⟨_,fun h=>h,H4.out⟩
   clear H4;obtain⟨⟨c2,hc2,h5⟩⟩:=hcut;have HC2:=aM hc2;have H5:=aM h5;clear hc2 h5;go_wp2_with fail;refine(numeral_any m1 0 _ hm0 (by omega) (by omega) (by omega)).mono ?_;rintro e w6 ⟨⟨x,s,b,rfl,hs1,hs2,hs3⟩,hb⟩;have hbt:=hs3 (by omega) (by omega);subst hbt;have H6:=aM (H5.out.below hb);have HN:=aM (hs1 rfl);clear hb hs1 hs3 H5;go_wp2_with fail;refine ret2 rfl rfl rfl ?_;exact⟨_,_,_,_,_,rfl,hs2,fun _=>HN.out,by omega,h2,HC2.out,H6.out.s,H6.out.k⟩
set_option maxHeartbeats 8000000 in
theorem decimal_any(h:Sb w g t a l c)(hB:Below w0.heap.size w0 w)(hg:w0.heap.size<=g)(ha:a<t.size)(hn:t.size<=2000)(hst:isDig (bt t (a:Int))=true\/bt t (a:Int)=46):
  Calls Tryz.prog 107 #[.pointer (some ⟨g,0,none⟩)] w fun e w'=>DecR w0 w g t c (a+1) e w':=by
 have H1:=aM (Ls.start h hB);have HST:=aM hst;clear h hB hst;go_enter Tryz.func107,Tryz.ntmps107
 go_upto_region 1 with fail
 go_cut [21] from 14 to 21 (fun v wc=>∃b:Bool,v = .bool b/\Aside0 (Ls w0 w wc g t a l c))
 case first=>
  go_wp2_with fail;refine(byteAt0_q H1.out.s (by omega)).mono ?_;rintro e w2 ⟨rfl,hd⟩;have H2:=aM (H1.out.drawn hd);clear hd;generalize bt t (a:Int)=ch
  by_cases hc:ch=48
  ·have hcb:(ch==48)=true:=beq_iff_eq.2 hc
   clear hc;go_wp2_with fail;refine(byteAt1_q H2.out.s (by omega)).mono ?_;rintro e w3 ⟨rfl,hd⟩;have H3:=aM (H2.out.drawn hd);clear hd;go_wp2_with fail;refine(digit_q _ _).mono ?_;rintro e w4 ⟨rfl,hd⟩;have H4:=aM (H3.out.drawn hd);clear hd;generalize isDig (bt t ((a:Int)+1))=b;go_wp2_with fail;go_meet
   case rel=>exact⟨_,rfl,H4⟩
  ·have hcb:(ch==48)=false:=beq_eq_false_iff_ne.2 hc
   clear hc;go_wp2_with fail;go_meet
   case rel=>exact⟨_,rfl,H2⟩
 clear H1;obtain⟨b21,rfl,H1⟩:=hcut
 go_upto_if 21 with fail
 go_cut [] from 21 to 23 (fun wc=>Aside0 (∃c2:Int,(c2=0->c=0)/\Ls w0 w wc g t a l c2))
 case first=>
  cases b21 with
  |true=>
   go_wp2_with fail;refine(tell_any H1.out.s H1.out.k.b hg 2).mono ?_;rintro e w5 ⟨rfl,hs,hk⟩;have H5:=aM (H1.out.step hs hk);clear hs hk;go_wp2_with fail;go_meet
   case rel=>exact⟨_,fun h=>absurd h (tell_c (by decide)),H5.out⟩
  |false=>
   go_wp2_with fail;go_meet
   case rel=>exact⟨_,fun h=>h,H1.out⟩
 clear H1;obtain⟨⟨c2,hc2,h5⟩⟩:=hcut;have HC2:=aM hc2;have H5:=aM h5;clear hc2 h5;go_wp2_with fail;refine(run_any H5.out.s H5.out.k.b hg (by omega) hn 0 (by omega) (by omega)).mono ?_;rintro e w6 ⟨m1,n1,l6,rfl,hm0,hm1,hs,hd1,hd0,hsb,hk⟩;have H6:=aM (H5.out.step hsb hk);have HD:=aM (And.intro hd1 hd0);clear hsb hk hd1 hd0 H5
 -- the point
 go_upto_if 31 with fail
 refine(byteAt0_q H6.out.s (by omega)).mono ?_;rintro e w7 ⟨rfl,hd⟩;have H7:=aM (H6.out.drawn hd);clear hd H6;obtain⟨ch,hch⟩:∃ch:Int,bt t ((a+n1:Nat):Int)=ch:=⟨_,rfl⟩;rw[hch];have HCH:=aM hch;clear hch
 go_upto_if 31 with fail
 go_cut [4,6,7] from 31 to 49 (fun v4 v6 v7 wc=>∃(m2 e2:Int) (n2 a2:Nat),v4 = .int .i64 m2/\v6 = .int .i64 e2/\v7 = .int .i64 (n2:Int)/\0<=m2/\m2<10000000000000000/\-2000<=e2/\e2<=0/\n2<=2000/\a+1<=a2/\a2<=t.size/\Aside0 (∃(l2 c3:Int),(c3=0->c=0)/\Ls w0 w wc g t a2 l2 c3))
 case first=>
  by_cases h46:ch=46
  ·have hcb:(ch==46)=true:=beq_iff_eq.2 h46
   have hlt:a+n1<t.size:=bt_lt (by rw[HCH.out];omega);clear h46;go_wp2_with fail;refine(step_any H7.out.s H7.out.k.b hg hlt hn).mono ?_;rintro e w8 ⟨rfl,⟨lH8,hs⟩,hk⟩;have H8:=aM (H7.out.step hs hk);clear hs hk;go_wp2_with fail;refine(run_any H8.out.s H8.out.k.b hg (by omega) hn m1 hm0 hm1).mono ?_;rintro e w9 ⟨m2,n2,l9,rfl,hm20,hm21,hs2,hd1,hd0,hsb,hk⟩;have H9:=aM (H8.out.step hsb hk);clear hsb hk hd1 hd0 H8 H7;have q:IntKind.i64.wrap (-(n2:Int)) = -(n2:Int):=IntWalk.i64_in _ (by omega);go_upto_region 9 with fail
   go_cut [47] from 42 to 47 (fun v wc=>∃b:Bool,v = .bool b/\wc=w9)
   case first=>
    by_cases hz:(n1:Int)=0
    ·have hzb:((n1:Int)==0)=true:=beq_iff_eq.2 hz
     clear hz;go_wp2_with fail;go_meet
     case rel=>exact⟨true,rfl,rfl⟩
    ·have hzb:((n1:Int)==0)=false:=beq_eq_false_iff_ne.2 hz
     clear hz;generalize hbb:((n2:Int)==0)=bb;go_wp2_with fail;go_meet
     case rel=>exact⟨bb,rfl,rfl⟩
   obtain⟨b47,rfl,rfl⟩:=hcut
   cases b47 with
   |true=>
    go_wp2_with fail;refine(tell_any H9.out.s H9.out.k.b hg 2).mono ?_;rintro e w10 ⟨rfl,hs,hk⟩;have H10:=aM (H9.out.step hs hk);clear hs hk;go_wp2_with fail;go_meet
    case rel=>exact⟨m2,_,n2,_,rfl,rfl,rfl,hm20,hm21,by omega,by omega,by omega,by omega,hs2,⟨_,_,fun h=>absurd h (tell_c (by decide)),H10.out⟩⟩
   |false=>
    go_wp2_with fail;go_meet
    case rel=>exact⟨m2,_,n2,_,rfl,rfl,rfl,hm20,hm21,by omega,by omega,by omega,by omega,hs2,⟨_,_,HC2.out,H9.out⟩⟩
  ·have hcb:(ch==46)=false:=beq_eq_false_iff_ne.2 h46
   have hn1:1<=n1:=by
    rcases HST.out with h|h
    ·exact HD.out.1 h
    ·exfalso
     have h0:=HD.out.2 (by rw[h];decide);subst h0;have:=HCH.out;rw[Nat.add_zero,h] at this;exact h46 this.symm
   clear h46;go_wp2_with fail;go_meet
   case rel=>exact⟨m1,0,0,_,rfl,rfl,rfl,hm0,hm1,by omega,by omega,by omega,by omega,hs,⟨_,_,HC2.out,H7.out⟩⟩
 clear H7 HCH HC2;obtain⟨m2,e2,n2,a2,rfl,rfl,rfl,hm20,hm21,he20,he21,hn2,ha2,hs2,⟨l2,c3,hc3,h8⟩⟩:=hcut;have HC3:=aM hc3;have H8:=aM h8;clear hc3 h8
 -- the exponent
 go_upto_region 11 with fail
 go_cut [57] from 50 to 57 (fun v wc=>∃b:Bool,v = .bool b/\Aside0 (Ls w0 w wc g t a2 l2 c3)/\Aside0 (b=true->a2<t.size))
 case first=>
  go_wp2_with fail;refine(byteAt0_q H8.out.s (by omega)).mono ?_;rintro e w9 ⟨rfl,hd⟩;have H9:=aM (H8.out.drawn hd);clear hd;obtain⟨ch2,hch2⟩:∃ch2:Int,bt t (a2:Int)=ch2:=⟨_,rfl⟩;rw[hch2];have HCH2:=aM hch2;clear hch2
  by_cases hc:ch2=101
  ·have hcb:(ch2==101)=true:=beq_iff_eq.2 hc
   have hlt2:=aM (show a2<t.size from bt_lt (by rw[HCH2.out];omega));clear hc;go_wp2_with fail;go_meet
   case rel=>exact⟨_,rfl,H9,⟨fun _=>hlt2.out⟩⟩
  ·have hcb:(ch2==101)=false:=beq_eq_false_iff_ne.2 hc
   clear hc;go_wp2_with fail;refine(byteAt0_q H9.out.s (by omega)).mono ?_;rintro e w10 ⟨rfl,hd⟩;have H10:=aM (H9.out.drawn hd);clear hd;rw[HCH2.out]
   by_cases hc:ch2=69
   ·have hcb:(ch2==69)=true:=beq_iff_eq.2 hc
    have hlt2:=aM (show a2<t.size from bt_lt (by rw[HCH2.out];omega));clear hc;go_wp2_with fail;go_meet
    case rel=>exact⟨_,rfl,H10,⟨fun _=>hlt2.out⟩⟩
   ·have hcb:(ch2==69)=false:=beq_eq_false_iff_ne.2 hc
    clear hc;go_wp2_with fail;go_meet
    case rel=>exact⟨_,rfl,H10,⟨fun h=>by cases h⟩⟩
 clear H8;obtain⟨b57,rfl,H8,HL⟩:=hcut
 go_upto_if 57 with fail
 go_cut [6] from 57 to 91 (fun v6 wc=>∃(e3:Int) (a3:Nat),v6 = .int .i64 e3/\-5000<=e3/\e3<=5000/\a+1<=a3/\a3<=t.size/\Aside0 (∃(l3 c4:Int),(c4=0->c=0)/\Ls w0 w wc g t a3 l3 c4))
 case first=>
  cases b57 with
  |true=>
   have hlt2:=HL.out rfl;go_wp2_with fail;refine(step_any H8.out.s H8.out.k.b hg hlt2 hn).mono ?_;rintro e w9 ⟨rfl,⟨lH9,hs⟩,hk⟩;have H9:=aM (H8.out.step hs hk);clear hs hk;clear H8;go_upto_region 14 with fail
   go_cut [67] from 60 to 67 (fun v wc=>∃b:Bool,v = .bool b/\Aside0 (Ls w0 w wc g t (a2+1) lH9 c3)/\Aside0 (b=true->a2+1<t.size))
   case first=>
    go_wp2_with fail;refine(byteAt0_q H9.out.s (by omega)).mono ?_;rintro e w10 ⟨rfl,hd⟩;have H10:=aM (H9.out.drawn hd);clear hd;obtain⟨ch2,hch2⟩:∃ch2:Int,bt t ((a2+1:Nat):Int)=ch2:=⟨_,rfl⟩;rw[hch2];have HCH2:=aM hch2;clear hch2
    by_cases hc:ch2=45
    ·have hcb:(ch2==45)=true:=beq_iff_eq.2 hc
     have hlt3:=aM (show a2+1<t.size from bt_lt (by rw[HCH2.out];omega));clear hc;go_wp2_with fail;go_meet
     case rel=>exact⟨_,rfl,H10,⟨fun _=>hlt3.out⟩⟩
    ·have hcb:(ch2==45)=false:=beq_eq_false_iff_ne.2 hc
     clear hc;go_wp2_with fail;refine(byteAt0_q H10.out.s (by omega)).mono ?_;rintro e w11 ⟨rfl,hd⟩;have H11:=aM (H10.out.drawn hd);clear hd;rw[HCH2.out]
     by_cases hc:ch2=43
     ·have hcb:(ch2==43)=true:=beq_iff_eq.2 hc
      have hlt3:=aM (show a2+1<t.size from bt_lt (by rw[HCH2.out];omega));clear hc;go_wp2_with fail;go_meet
      case rel=>exact⟨_,rfl,H11,⟨fun _=>hlt3.out⟩⟩
     ·have hcb:(ch2==43)=false:=beq_eq_false_iff_ne.2 hc
      clear hc;go_wp2_with fail;go_meet
      case rel=>exact⟨_,rfl,H11,⟨fun h=>by cases h⟩⟩
   clear H9;obtain⟨b67,rfl,H9,HL2⟩:=hcut
   go_upto_if 67 with fail
   go_cut [8] from 67 to 72 (fun v wc=>∃(sg:Int) (a3:Nat),v = .int .i64 sg/\(sg=1\/sg = -1)/\a+1<=a3/\a3<=t.size/\Aside0 (∃l3:Int,Ls w0 w wc g t a3 l3 c3))
   case first=>
    cases b67 with
    |true=>
     have hlt3:=HL2.out rfl;go_wp2_with fail;refine(byteAt0_q H9.out.s (by omega)).mono ?_;rintro e w10 ⟨rfl,hd⟩;have H10:=aM (H9.out.drawn hd);clear hd;generalize bt t ((a2+1:Nat):Int)=ch2
     by_cases hc:ch2=45
     ·have hcb:(ch2==45)=true:=beq_iff_eq.2 hc
      clear hc;go_wp2_with fail;refine(step_any H10.out.s H10.out.k.b hg hlt3 hn).mono ?_;rintro e w11 ⟨rfl,⟨lH11,hs⟩,hk⟩;have H11:=aM (H10.out.step hs hk);clear hs hk;go_wp2_with fail;go_meet
      case rel=>exact⟨-1,_,rfl,.inr rfl,by omega,by omega,⟨_,H11.out⟩⟩
     ·have hcb:(ch2==45)=false:=beq_eq_false_iff_ne.2 hc
      clear hc;go_wp2_with fail;refine(step_any H10.out.s H10.out.k.b hg hlt3 hn).mono ?_;rintro e w11 ⟨rfl,⟨lH11,hs⟩,hk⟩;have H11:=aM (H10.out.step hs hk);clear hs hk;go_wp2_with fail;go_meet
      case rel=>exact⟨1,_,rfl,.inl rfl,by omega,by omega,⟨_,H11.out⟩⟩
    |false=>
     go_wp2_with fail;go_meet
     case rel=>exact⟨1,_,rfl,.inl rfl,by omega,by omega,⟨_,H9.out⟩⟩
   clear H9;obtain⟨sg,a3,rfl,hsg,ha3,hs3,⟨l3,h9⟩⟩:=hcut;have H9:=aM h9;have HSG:=aM hsg;clear h9 hsg;go_wp2_with fail;refine(run_any H9.out.s H9.out.k.b hg hs3 hn 0 (by omega) (by omega)).mono ?_;rintro e w10 ⟨p,n4,l10,rfl,hp0,hp1,hs4,hd1,hd0,hsb,hk⟩;have H10:=aM (H9.out.step hsb hk);clear hsb hk hd1 hd0 H9;go_upto_region 19 with fail
   go_cut [83] from 78 to 83 (fun v wc=>∃b:Bool,v = .bool b/\wc=w10)
   case first=>
    by_cases hz:(n4:Int)<1
    ·go_wp2_with fail
     go_meet
     case rel=>exact⟨true,rfl,rfl⟩
    ·by_cases hz2:3<(n4:Int)
     ·go_wp2_with fail
      go_meet
      case rel=>exact⟨true,rfl,rfl⟩
     ·go_wp2_with fail
      go_meet
      case rel=>exact⟨false,rfl,rfl⟩
   obtain⟨b83,rfl,rfl⟩:=hcut
   go_upto_if 83 with fail
   go_cut [] from 83 to 85 (fun wc=>Aside0 (∃c5:Int,(c5=0->c3=0)/\Ls w0 w wc g t (a3+n4) l10 c5))
   case first=>
    cases b83 with
    |true=>
     go_wp2_with fail;refine(tell_any H10.out.s H10.out.k.b hg 2).mono ?_;rintro e w11 ⟨rfl,hs,hk⟩;have H11:=aM (H10.out.step hs hk);clear hs hk;go_wp2_with fail;go_meet
     case rel=>exact⟨_,fun h=>absurd h (tell_c (by decide)),H11.out⟩
    |false=>
     go_wp2_with fail;go_meet
     case rel=>exact⟨_,fun h=>h,H10.out⟩
   clear H10;obtain⟨⟨c5,hc5,h11⟩⟩:=hcut;have H11:=aM h11;have HC5:=aM hc5;clear h11 hc5;rcases HSG.out with h|h
   ·subst h
    have q1:IntKind.i64.wrap (1*(p%1000))=p%1000:=by rw[Int.one_mul];exact IntWalk.i64_in _ (by omega)
    have q2:IntKind.i64.wrap (e2+p%1000)=e2+p%1000:=IntWalk.i64_in _ (by omega);have q3:IntKind.i64.wrap (p%1000)=p%1000:=IntWalk.i64_in _ (by omega);go_wp2_with fail;go_meet
    case rel=>exact⟨e2+p%1000,_,rfl,by omega,by omega,by omega,hs4,⟨_,_,fun h=>HC3.out (HC5.out h),H11.out⟩⟩
   ·subst h
    have q1:IntKind.i64.wrap (-(p%1000)) = -(p%1000):=IntWalk.i64_in _ (by omega);have q2:IntKind.i64.wrap (e2 + -(p%1000))=e2 + -(p%1000):=IntWalk.i64_in _ (by omega);go_wp2_with fail;go_meet
    case rel=>exact⟨e2 + -(p%1000),_,rfl,by omega,by omega,by omega,hs4,⟨_,_,fun h=>HC3.out (HC5.out h),H11.out⟩⟩
  |false=>
   go_wp2_with fail;go_meet
   case rel=>exact⟨e2,_,rfl,by omega,by omega,ha2,hs2,⟨_,_,HC3.out,H8.out⟩⟩
 clear H8 HL HC3;obtain⟨e3,a3,rfl,he30,he31,ha3,hs3,⟨l3,c4,hc4,h9⟩⟩:=hcut;have H9:=aM h9;have HC4:=aM hc4;clear h9 hc4;go_wp2_with fail;refine(numeral_any m2 e3 _ hm20 (by omega) (by omega) (by omega)).mono ?_;rintro e w10 ⟨⟨x,s,b,rfl,hsn1,hsn2,_⟩,hb⟩;have H10:=aM (H9.out.below hb);have HN:=aM hsn1;clear hb hsn1 H9;go_upto_region 23 with fail;have q5:IntKind.i64.wrap ((n1:Int)+(n2:Int))=(n1:Int)+(n2:Int):=IntWalk.i64_in _ (by omega)
 go_cut [106] from 99 to 106 (fun v wc=>∃b2:Bool,v = .bool b2/\wc=w10/\Aside0 (b2=false->b=true))
 case first=>
  cases b with
  |true=>
   by_cases hz:15<(n1:Int)+(n2:Int)
   ·go_wp2_with fail
    go_meet
    case rel=>exact⟨true,rfl,rfl,⟨by first|exact fun _=>rfl|simp⟩⟩
   ·go_wp2_with fail
    go_meet
    case rel=>exact⟨false,rfl,rfl,⟨by first|exact fun _=>rfl|simp⟩⟩
  |false=>
   go_wp2_with fail;go_meet
   case rel=>exact⟨true,rfl,rfl,⟨fun h=>by cases h⟩⟩
 obtain⟨b106,rfl,rfl,HB⟩:=hcut
 go_upto_if 106 with fail
 go_cut [] from 106 to 108 (fun wc=>Aside0 (∃c5:Int,(c5=0->c4=0/\b=true)/\Ls w0 w wc g t a3 l3 c5))
 case first=>
  cases b106 with
  |true=>
   go_wp2_with fail;refine(tell_any H10.out.s H10.out.k.b hg 2).mono ?_;rintro e w11 ⟨rfl,hs,hk⟩;have H11:=aM (H10.out.step hs hk);clear hs hk;go_wp2_with fail;go_meet
   case rel=>exact⟨_,fun h=>absurd h (tell_c (by decide)),H11.out⟩
  |false=>
   go_wp2_with fail;go_meet
   case rel=>exact⟨_,fun h=>⟨h,by have:=HB.out;simpa using this⟩,H10.out⟩
 clear H10;obtain⟨⟨c5,hc5,h11⟩⟩:=hcut;have H11:=aM h11;have HC5:=aM hc5;clear h11 hc5;go_wp2_with fail;refine ret2 rfl rfl rfl ?_;exact⟨_,_,_,_,_,rfl,hsn2,fun h=>HN.out (HC5.out h).2,ha3,hs3,fun h=>HC4.out (HC5.out h).1,H11.out.s,H11.out.k⟩
end
end Go.Proofs.YtoimaaonloibfaaGreatDoor.Lx
namespace Go.Proofs.YtoimaaonloibfaaGreatDoor.Lx
open Go.RowKit W1 W2 PF Wf
attribute [local go_sem] run_store_float
def TokR(w0 w:World)(g:Nat)(t:ByteArray)(c:Int)(lo:Nat)(e:Ending)(w':World):Prop:=
 ∃(k:Int) (s:ByteArray) (x:Nat) (f1 f2:Int) (a':Nat) (l' c':Int),e = .returned (.agg #[.int .i64 k,.string s,.float .f64 x,.int .i64 f1,.int .i64 f2])/\s.size<=2000/\k≠6/\(c'=0->WT k (bytesOf s))/\lo<=a'/\a'<=t.size/\(c'=0->c=0)/\Sb w' g t a' l' c'/\Kp w0 w w' g
structure Tw(w0 w wr:World)(g:Nat)(t:ByteArray)(a:Nat)(l c:Int)(n0 n1:Nat)(cs:Array Value):Prop where
 s:Sb wr g t a l c
 k:Kp w0 w wr g
 r:wr.heap[n0]? = some (.cells #[.int .i64 0,.string ⟨#[]⟩,.float .f64 0,.int .i64 0,.int .i64 0] 49 (0,0))
 v:wr.heap[n1]? = some (.cells cs 49 (0,0))
section
variable {w0 w wr w1 w2:World} {g a:Nat} {t:ByteArray} {l c:Int} {n0 n1:Nat} {cs:Array Value}
theorem Kp.drew1(h:Kp w0 w w1 g):Kp w0 w w1.drew g:=⟨below_drew h.b,h.k⟩
theorem Tw.ls(h:Tw w0 w wr g t a l c n0 n1 cs):Ls w0 w wr g t a l c:=⟨h.s,h.k⟩
theorem Tw.drawn(h:Tw w0 w wr g t a l c n0 n1 cs)(k:Drawn0 wr w1):Tw w0 w w1 g t a l c n0 n1 cs:=by
 obtain⟨n,rfl⟩:=k;exact⟨h.s,h.k.drewN n,h.r,h.v⟩
theorem Tw.step(h:Tw w0 w wr g t a l c n0 n1 cs){a':Nat}{l' c':Int}(hs:Sb w1 g t a' l' c')(hk:Kp w0 wr w1 g):Tw w0 w w1 g t a' l' c' n0 n1 cs:=
 ⟨hs,h.k.trans hk,hk.k.blk h.r (blk_ne h.r h.s (by decide)) (by simp),hk.k.blk h.v (blk_ne h.v h.s (by decide)) (by simp)⟩
theorem Tw.below(h:Tw w0 w wr g t a l c n0 n1 cs)(hb:Below wr.heap.size wr w1):Tw w0 w w1 g t a l c n0 n1 cs:=
 ⟨h.s.below hb,(h.ls.below hb).k,blk_below h.r hb,blk_below h.v hb⟩
theorem Tw.new(h:Ls w0 w wr g t a l c){cs:Array Value}:Tw w0 w ((wr.alloc (.cells #[.int .i64 0,.string ⟨#[]⟩,.float .f64 0,.int .i64 0,.int .i64 0] 49)).alloc (.cells cs 49)) g t a l c wr.heap.size (wr.heap.size+1) cs:=
 ⟨(h.s.alloc _).alloc _,(h.k.alloc _).alloc _,blk_alloc (blk_new _ _) _,by
  have:=blk_new (wr.alloc (.cells #[.int .i64 0,.string ⟨#[]⟩,.float .f64 0,.int .i64 0,.int .i64 0] 49)) (.cells cs 49);rw[World.size_alloc] at this;exact this⟩
theorem Tw.set(h:Tw w0 w wr g t a l c n0 n1 cs)(hw:w.heap.size<=n1)(hw0:w0.heap.size<=w.heap.size)(hne:n0≠n1)(j:Nat)(u:Value):Tw w0 w (wr.setCell ⟨n1,j,none⟩ u) g t a l c n0 n1 (cs.setIfInBounds j u):=by
 have hg:g≠n1:=blk_ne h.s h.v (by decide);refine⟨blk_far h.s (p:=⟨n1,j,none⟩) hg u,⟨h.k.b.setCell (p:=⟨n1,j,none⟩) (Nat.le_trans hw0 hw) u,?_⟩,blk_far h.r (p:=⟨n1,j,none⟩) hne u,blk_set h.v j u⟩;refine⟨by simpa[World.setCell] using h.k.k.1,fun i hi hgi hr=> ?_⟩;rw[Below.heap_setCell _ _ _ _ (show i≠n1 by omega)];exact h.k.k.2 i hi hgi hr
theorem Tw.fin(h:Tw w0 w wr g t a l c n0 n1 cs)(hw:w.heap.size=n0)(hw0:w0.heap.size<=w.heap.size)(u0 u1 u2 u3 u4:Value):
  Sb (((((wr.setCell ⟨n0,0,none⟩ u0).setCell ⟨n0,1,none⟩ u1).setCell ⟨n0,2,none⟩ u2).setCell ⟨n0,3,none⟩ u3).setCell ⟨n0,4,none⟩ u4) g t a l c/\
  Kp w0 w (((((wr.setCell ⟨n0,0,none⟩ u0).setCell ⟨n0,1,none⟩ u1).setCell ⟨n0,2,none⟩ u2).setCell ⟨n0,3,none⟩ u3).setCell ⟨n0,4,none⟩ u4) g/\
  (((((wr.setCell ⟨n0,0,none⟩ u0).setCell ⟨n0,1,none⟩ u1).setCell ⟨n0,2,none⟩ u2).setCell ⟨n0,3,none⟩ u3).setCell ⟨n0,4,none⟩ u4).heap[n0]? = some (.cells #[u0,u1,u2,u3,u4] 49 (0,0)):=by
 have hg:g≠n0:=blk_ne h.s h.r (by decide);have far:∀{wr:World},Sb wr g t a l c->∀(j:Nat) (u:Value),Sb (wr.setCell ⟨n0,j,none⟩ u) g t a l c:=fun h j u=>blk_far h (p:=⟨n0,j,none⟩) hg u
 have kp:∀{wr:World},Kp w0 w wr g->∀(j:Nat) (u:Value),Kp w0 w (wr.setCell ⟨n0,j,none⟩ u) g:=fun{wr} h j u=>by
  refine⟨h.b.setCell (p:=⟨n0,j,none⟩) (by show w0.heap.size<=n0;omega) u,?_⟩;refine⟨by simpa[World.setCell] using h.k.1,fun i hi hgi hr=> ?_⟩;rw[Below.heap_setCell _ _ _ _ (show i≠n0 by omega)];exact h.k.2 i hi hgi hr
 exact⟨far (far (far (far (far h.s 0 u0) 1 u1) 2 u2) 3 u3) 4 u4,kp (kp (kp (kp (kp h.k 0 u0) 1 u1) 2 u2) 3 u3) 4 u4,blk_set (blk_set (blk_set (blk_set (blk_set h.r 0 u0) 1 u1) 2 u2) 3 u3) 4 u4⟩
set_option maxHeartbeats 8000000 in
theorem number_any(h:Sb w g t a l c)(hB:Below w0.heap.size w0 w)(hg:w0.heap.size<=g)(ha:a<t.size)(hn:t.size<=2000)(hst:isDig (bt t (a:Int))=true\/bt t (a:Int)=46):
  Calls Tryz.prog 76 #[.pointer (some ⟨g,0,none⟩)] w fun e w'=>TokR w0 w g t c (a+1) e w':=by
 have H1:=aM (Ls.start h hB);have HST:=aM hst;have HB0:=aM hB.size;have c2:=(h.alloc (.cells #[.int .i64 0,.string ⟨#[]⟩,.float .f64 0,.int .i64 0,.int .i64 0] 49)).c2;clear h hB hst;go_enter Tryz.func76,Tryz.ntmps76
 go_upto_region 1 with fail
 go_region_held3 (fun w'=>w'.cell? ⟨g,2,none⟩=some (.int .i64 l)) (go_keep) (fail)
 have HT:=aM ((Tw.new H1.out (cs:= #[.int .i64 4,.string ⟨#[]⟩,.float .f64 0,.int .i64 l,.int .i64 l])).drawn ((Drawn0.refl _).step 1));have HN:=aM (show w.heap.size<=w.heap.size+1/\w.heap.size≠w.heap.size+1 by omega)
 change Aside0 (Tw w0 w (((w.alloc (.cells #[.int .i64 0,.string ⟨#[]⟩,.float .f64 0,.int .i64 0,.int .i64 0] 49)).alloc (.cells #[.int .i64 4,.string ⟨#[]⟩,.float .f64 0,.int .i64 l,.int .i64 l] 49)).drew) g t a l c _ _ _) at HT
 generalize ((w.alloc (.cells #[.int .i64 0,.string ⟨#[]⟩,.float .f64 0,.int .i64 0,.int .i64 0] 49)).alloc (.cells #[.int .i64 4,.string ⟨#[]⟩,.float .f64 0,.int .i64 l,.int .i64 l] 49)).drew=w2 at HT|-;obtain⟨n0,hn0⟩:∃n0,w.heap.size=n0:=⟨_,rfl⟩;obtain⟨n1,hn1⟩:∃n1,w.heap.size+1=n1:=⟨_,rfl⟩;rw[hn1,hn0] at HT HN|-;have HN0:=aM hn0;clear c2 H1 hn0 hn1;have hset:∀{wr:World} {a1:Nat} {l1 c1:Int} {cs:Array Value},Tw w0 w wr g t a1 l1 c1 n0 n1 cs->∀(j:Nat) (u:Value),Tw w0 w (wr.setCell ⟨n1,j,none⟩ u) g t a1 l1 c1 n0 n1 (cs.setIfInBounds j u):=fun h j u=>h.set (by have:=HN0.out;have:=HN.out;omega) HB0.out HN.out.2 j u
 have SET:=aM @hset;clear hset;go_upto_region 2 with fail
 go_cut [26] from 14 to 26 (fun v wc=>∃b:Bool,v = .bool b/\Aside0 (b=true->a+2<=t.size)/\Aside0 (Tw w0 w wc g t a l c n0 n1 #[.int .i64 4,.string ⟨#[]⟩,.float .f64 0,.int .i64 l,.int .i64 l]))
 case first=>
  go_wp2_with fail;refine(byteAt0_q HT.out.s (by omega)).mono ?_;rintro e w3 ⟨rfl,hd⟩;have H2:=aM (HT.out.drawn hd);clear hd;generalize bt t (a:Int)=ch
  by_cases hc:ch=48
  ·have hcb:(ch==48)=true:=beq_iff_eq.2 hc
   clear hc;go_wp2_with fail;refine(byteAt1_q H2.out.s (by omega)).mono ?_;rintro e w4 ⟨rfl,hd⟩;have H3:=aM (H2.out.drawn hd);clear hd;obtain⟨ch2,hch2⟩:∃ch2:Int,bt t ((a:Int)+1)=ch2:=⟨_,rfl⟩;rw[hch2];have HCH2:=aM hch2;clear hch2
   by_cases hc:ch2=120
   ·have hcb:(ch2==120)=true:=beq_iff_eq.2 hc
    have hlt2:=aM (show a+1<t.size from bt_lt (by rw[Int.natCast_add,Int.natCast_one,HCH2.out];omega));clear hc;go_wp2_with fail;go_meet
    case rel=>exact⟨_,rfl,⟨fun _=>hlt2.out⟩,H3⟩
   ·have hcb:(ch2==120)=false:=beq_eq_false_iff_ne.2 hc
    clear hc;go_wp2_with fail;refine(byteAt1_q H3.out.s (by omega)).mono ?_;rintro e w5 ⟨rfl,hd⟩;have H4:=aM (H3.out.drawn hd);clear hd;rw[HCH2.out]
    by_cases hc:ch2=88
    ·have hcb:(ch2==88)=true:=beq_iff_eq.2 hc
     have hlt2:=aM (show a+1<t.size from bt_lt (by rw[Int.natCast_add,Int.natCast_one,HCH2.out];omega));clear hc;go_wp2_with fail;go_meet
     case rel=>exact⟨_,rfl,⟨fun _=>hlt2.out⟩,H4⟩
    ·have hcb:(ch2==88)=false:=beq_eq_false_iff_ne.2 hc
     clear hc;go_wp2_with fail;go_meet
     case rel=>exact⟨_,rfl,⟨fun h=>by cases h⟩,H4⟩
  ·have hcb:(ch==48)=false:=beq_eq_false_iff_ne.2 hc
   clear hc;go_wp2_with fail;go_meet
   case rel=>exact⟨_,rfl,⟨fun h=>by cases h⟩,H2⟩
 clear HT;obtain⟨b26,rfl,HL,HT⟩:=hcut
 go_upto_if 26 with fail
 go_cut [] from 26 to 47 (fun wc=>Aside0 (∃(s:ByteArray) (x:Nat) (a':Nat) (l' c':Int),s.size<=50/\(c'=0->NumT (bytesOf s))/\a+1<=a'/\a'<=t.size/\(c'=0->c=0)/\Tw w0 w wc g t a' l' c' n0 n1 #[.int .i64 4,.string s,.float .f64 x,.int .i64 l,.int .i64 l]))
 case first=>
  cases b26 with
  |true=>
   have hL2:=HL.out rfl
   go_upto_if 29 with fail
   refine(byteAt1_q HT.out.s (by omega)).mono ?_;rintro e w3 ⟨rfl,hd⟩;have H2:=aM (HT.out.drawn hd);clear hd;obtain⟨b29,hb29⟩:∃b:Bool,(bt t ((a:Int)+1)==88)=b:=⟨_,rfl⟩;generalize bt t ((a:Int)+1)=ch at hb29|-
   go_upto_if 29 with fail
   go_cut [] from 28 to 31 (fun wc=>Aside0 (∃c2:Int,(c2=0->c=0)/\Tw w0 w wc g t a l c2 n0 n1 #[.int .i64 4,.string ⟨#[]⟩,.float .f64 0,.int .i64 l,.int .i64 l]))
   case first=>
    cases b29 with
    |true=>
     go_wp2_with fail;refine(tell_any H2.out.s H2.out.k.b hg 2).mono ?_;rintro e w5 ⟨rfl,hs,hk⟩;have H3:=aM (H2.out.step hs hk);clear hs hk;go_wp2_with fail;go_meet
     case rel=>exact⟨_,fun h=>absurd h (tell_c (by decide)),H3.out⟩
    |false=>
     go_wp2_with fail;go_meet
     case rel=>exact⟨_,fun h=>h,H2.out⟩
   clear H2 HT hb29;obtain⟨⟨c2,hc2,h5⟩⟩:=hcut;have HC2:=aM hc2;have H3:=aM h5;clear hc2 h5;go_wp2_with fail;refine(steps_any H3.out.s H3.out.k.b hg 2 hL2 hn).mono ?_;rintro e w4 ⟨rfl,⟨lH4,hs⟩,hk⟩;have H4:=aM (H3.out.step hs hk);clear hs hk;go_wp2_with fail;refine(hexadecimal_any H4.out.s H4.out.k.b hg hL2 hn).mono ?_;rintro e w5 ⟨x,s,a5,l5,c5,rfl,hs1,hs2,ha5,hs5,hc5,hsb,hk⟩;have H5:=aM (H4.out.step hsb hk);have HP:=aM (And.intro hs2 hc5);clear hsb hk hs2 hc5 H4 H3;have e1:=bC H5.out.v 1;have e2:=bC H5.out.v 2;have f1:=bF H5.out.v 1;have f2:=bF H5.out.v 2;go_wp2_with fail;go_meet
   case rel=>exact⟨s,x,_,_,_,hs1,HP.out.1,by omega,hs5,fun h=>HC2.out (HP.out.2 h),SET.out (SET.out H5.out 2 (.float .f64 x)) 1 (.string s)⟩
  |false=>
   go_wp2_with fail;refine(decimal_any HT.out.s HT.out.k.b hg ha hn HST.out).mono ?_;rintro e w5 ⟨x,s,a5,l5,c5,rfl,hs1,hs2,ha5,hs5,hc5,hsb,hk⟩;have H5:=aM (HT.out.step hsb hk);have HP:=aM (And.intro hs2 hc5);clear hsb hk hs2 hc5;have e1:=bC H5.out.v 1;have e2:=bC H5.out.v 2;have f1:=bF H5.out.v 1;have f2:=bF H5.out.v 2;go_wp2_with fail;go_meet
   case rel=>exact⟨s,x,_,_,_,hs1,HP.out.1,by omega,hs5,HP.out.2,SET.out (SET.out H5.out 2 (.float .f64 x)) 1 (.string s)⟩
 clear HT HL;obtain⟨⟨s,x,a',l',c',hs1,hnum,ha',hs',hc',ht⟩⟩:=hcut;have HT:=aM ht;have HP:=aM (And.intro hnum hc');clear ht hnum hc';go_wp2_with fail;refine(byteAt0_q HT.out.s (by omega)).mono ?_;rintro e w3 ⟨rfl,hd⟩;have H2:=aM (HT.out.drawn hd);clear hd HT;generalize bt t (a':Int)=ch;go_upto_region 9 with fail
 go_cut [59] from 50 to 59 (fun v wc=>∃b:Bool,v = .bool b/\Aside0 (Tw w0 w wc g t a' l' c' n0 n1 #[.int .i64 4,.string s,.float .f64 x,.int .i64 l,.int .i64 l]))
 case first=>
  go_wp2_with fail;refine(digit_q _ _).mono ?_;rintro e w4 ⟨rfl,hd⟩;have H3:=aM (H2.out.drawn hd);clear hd;generalize isDig ch=b1
  cases b1 with
  |true=>
   go_wp2_with fail;go_meet
   case rel=>exact⟨_,rfl,H3⟩
  |false=>
   go_wp2_with fail;refine(letter_q _ _).mono ?_;rintro e w5 ⟨rfl,hd⟩;have H4:=aM (H3.out.drawn hd);clear hd;generalize isLet ch=b2
   cases b2 with
   |true=>
    go_wp2_with fail;go_meet
    case rel=>exact⟨_,rfl,H4⟩
   |false=>
    obtain⟨b3,hb3⟩:∃b:Bool,(ch==46)=b:=⟨_,rfl⟩;go_wp2_with fail;go_meet
    case rel=>exact⟨b3,rfl,H4⟩
 clear H2;obtain⟨b59,rfl,H2⟩:=hcut
 go_upto_if 59 with fail
 go_cut [] from 59 to 61 (fun wc=>Aside0 (∃c2:Int,(c2=0->c'=0)/\Tw w0 w wc g t a' l' c2 n0 n1 #[.int .i64 4,.string s,.float .f64 x,.int .i64 l,.int .i64 l]))
 case first=>
  cases b59 with
  |true=>
   go_wp2_with fail;refine(tell_any H2.out.s H2.out.k.b hg 2).mono ?_;rintro e w5 ⟨rfl,hs,hk⟩;have H3:=aM (H2.out.step hs hk);clear hs hk;go_wp2_with fail;go_meet
   case rel=>exact⟨_,fun h=>absurd h (tell_c (by decide)),H3.out⟩
  |false=>
   go_wp2_with fail;go_meet
   case rel=>exact⟨_,fun h=>h,H2.out⟩
 clear H2;obtain⟨⟨c2,hc2,h5⟩⟩:=hcut;have HC2:=aM hc2;have H3:=aM h5;clear hc2 h5;obtain⟨z0,z1,z2,z3,z4⟩:=bC5 H3.out.v;obtain⟨y0,y1,y2,y3,y4⟩:=bC5 H3.out.r;obtain⟨f0,f1,f2,f3,f4⟩:=bF5 H3.out.r;go_wp2_with fail;have HF:=aM (H3.out.fin HN0.out HB0.out (.int .i64 4) (.string s) (.float .f64 x) (.int .i64 l) (.int .i64 l));generalize (((((wc.setCell ⟨n0,0,none⟩ (.int .i64 4)).setCell ⟨n0,1,none⟩ (.string s)).setCell ⟨n0,2,none⟩ (.float .f64 x)).setCell ⟨n0,3,none⟩ (.int .i64 l)).setCell ⟨n0,4,none⟩ (.int .i64 l))=W at HF|-;obtain⟨q0,q1,q2,q3,q4⟩:=bC5 HF.out.2.2;refine bodyPost_ret (v:= .agg #[.int .i64 4,.string s,.float .f64 x,.int .i64 l,.int .i64 l]) (by simp[results,Tryz.results76,go_sem,q0,q1,q2,q3,q4]) rfl ?_;exact⟨_,_,_,_,_,_,_,_,rfl,by omega,by decide,fun h=> .inr (.inr (.inr (.inl ⟨rfl,HP.out.1 (HC2.out h)⟩))),ha',hs',fun h=>HP.out.2 (HC2.out h),HF.out.1,HF.out.2.1⟩
end
def NmSo(a a1:Nat)(xs:List Int):Prop:=xs.length=a1-a/\(∀y∈xs,0<=y/\y<=255)/\(xs=[]\/Ident xs)
theorem NmSo.snoc{a a1:Nat}{xs:List Int}{x:Int}(h:NmSo a a1 xs)(ha:a<=a1)(h0:0<=x/\x<=255)(h1:isLet x=true\/(isDig x=true/\xs≠[])):NmSo a (a1+1) (xs++[x]):=by
 obtain⟨k1,k2,k3⟩:=h;refine⟨by rw[List.length_append];simp;omega,?_,.inr ?_⟩
 ·intro y hy
  rcases List.mem_append.1 hy with hy|hy
  ·exact k2 y hy
  ·simp at hy
   omega
 ·rcases k3 with rfl|⟨y,r,rfl,k4,k5⟩
  ·rcases h1 with h1|h1
   ·exact⟨x,[],rfl,h1,by simp⟩
   ·exact absurd rfl h1.2
  ·refine⟨y,r++[x],rfl,k4,?_⟩
   intro z hz;rcases List.mem_append.1 hz with hz|hz
   ·exact k5 z hz
   ·simp at hz
    subst hz;unfold isWy;rcases h1 with h1|h1
    ·rw[show isLt z=true from h1];rfl
    ·rw[show isDg z=true from h1.1,Bool.or_true]
section
variable {w0 w wr w1 w2:World} {g a:Nat} {t:ByteArray} {l c:Int} {n0 n1:Nat} {cs:Array Value}
set_option maxHeartbeats 8000000 in
theorem name_any(h:Sb w g t a l c)(hB:Below w0.heap.size w0 w)(hg:w0.heap.size<=g)(ha:a<t.size)(hn:t.size<=2000)(hst:isLet (bt t (a:Int))=true):
  Calls Tryz.prog 74 #[.pointer (some ⟨g,0,none⟩)] w fun e w'=>TokR w0 w g t c (a+1) e w':=by
 have H1:=aM (Ls.start (h.alloc (.cells #[.int .i64 0,.string ⟨#[]⟩,.float .f64 0,.int .i64 0,.int .i64 0] 49)) (bA hB _));have HR:=aM (blk_new w (.cells #[.int .i64 0,.string ⟨#[]⟩,.float .f64 0,.int .i64 0,.int .i64 0] 49));have HK:=aM ((Kp.refl hB g).alloc (.cells #[.int .i64 0,.string ⟨#[]⟩,.float .f64 0,.int .i64 0,.int .i64 0] 49));have HST:=aM hst;have HB0:=aM hB.size;clear h hB hst;go_enter Tryz.func74,Tryz.ntmps74
 go_upto_region 1 with fail;have HZ:Aside0 ((w.alloc (.cells #[.int .i64 0,.string ⟨#[]⟩,.float .f64 0,.int .i64 0,.int .i64 0] 49)).heap.size=w.heap.size+1):=⟨World.size_alloc _ _⟩;generalize w.alloc _=w1 at H1 HR HK HZ|-;obtain⟨n0,hn0⟩:∃n0,w.heap.size=n0:=⟨_,rfl⟩;rw[hn0] at HR HZ|-;have HN0:=aM hn0;clear hn0;have HW1:=aM (Wr.nil H1.out.s H1.out.k);have H0:=aM H1.out.k.b.size;have HS1:=aM H1.out.s;go_wp2_with fail;generalize w1.alloc _=w2 at HW1|-;generalize w1.heap.size=n3 at HW1|-;go_loopg [3] (t.size-a) (fun k v wr=>∃(a1:Nat) (l1:Int) (xs:List Int),k=t.size-a1/\a<=a1/\a1<=t.size/\Aside0 (NmSo a a1 xs)/\Aside0 (Wr w0 w1 wr g t a1 l1 c v xs))
 case atStart=>exact⟨a,l,[],rfl,Nat.le_refl _,by omega,⟨by simp,by simp,.inl rfl⟩,HW1⟩
 case round=>
  clear HW1 H1;obtain⟨a1,l1,xs,hk,h1,h2,HX,HW⟩:=hrel;obtain⟨A,cp,rfl⟩:=HW.out.sl;obtain⟨ch,hch⟩:∃ch:Int,bt t (a1:Int)=ch:=⟨_,rfl⟩;have HCH:=aM hch;have HRG:=aM (bt_range t (a1:Int));rw[hch] at HRG;clear hch;have HXN:=aM (show xs=[]->isLet ch=true from fun h=>by
   have h9:=HX.out.1;rw[h] at h9;have:a1=a:=by simp at h9;omega
   subst this;rw[<-HCH.out];exact HST.out)
  have hxl:xs.length<=2000:=by have:=HX.out.1;omega
  go_upto_region 2 with fail
  go_cut [13] from 6 to 13 (fun v wc=>∃b:Bool,v = .bool b/\Aside0 (b=true->isLet ch=true\/(isDig ch=true/\xs≠[]))/\Aside0 (b=false->isLet ch=false)/\Aside0 (Wr w0 w1 wc g t a1 l1 c (.slice A xs.length cp) xs))
  case first=>
   go_wp2_with fail;refine(byteAt0_q HW.out.s (by omega)).mono ?_;rintro e w4 ⟨rfl,hd⟩;have H2:=aM (HW.out.drawn hd);clear hd;rw[HCH.out];go_wp2_with fail;refine(letter_q _ _).mono ?_;rintro e w5 ⟨rfl,hd⟩;have H3:=aM (H2.out.drawn hd);clear hd;obtain⟨b1,hb1⟩:∃b:Bool,isLet ch=b:=⟨_,rfl⟩;rw[hb1];have HB1:=aM hb1;clear hb1
   cases b1 with
   |true=>
    go_wp2_with fail;go_meet
    case rel=>exact⟨_,rfl,⟨fun _=> .inl HB1.out⟩,⟨fun h=>by cases h⟩,H3⟩
   |false=>
    go_wp2_with fail;refine(byteAt0_q H3.out.s (by omega)).mono ?_;rintro e w6 ⟨rfl,hd⟩;have H4:=aM (H3.out.drawn hd);clear hd;rw[HCH.out];go_wp2_with fail;refine(digit_q _ _).mono ?_;rintro e w7 ⟨rfl,hd⟩;have H5:=aM (H4.out.drawn hd);clear hd;obtain⟨b2,hb2⟩:∃b:Bool,isDig ch=b:=⟨_,rfl⟩;rw[hb2];have HB2:=aM hb2;clear hb2;go_wp2_with fail;go_meet
    case rel=>exact⟨_,rfl,⟨fun h=> .inr ⟨HB2.out.trans h,fun hx=>by have:=HXN.out hx;rw[HB1.out] at this;cases this⟩⟩,⟨fun _=>HB1.out⟩,H5⟩
  clear HW;obtain⟨b13,rfl,HP,HQ,HW⟩:=hcut
  cases b13 with
  |true=>
   have hor:=HP.out rfl;have hlt:a1<t.size:=bt_lt (by
    rw[HCH.out];intro h0;subst h0;rcases hor with h|h
    ·exact absurd h (by decide)
    ·exact absurd h.1 (by decide))
   have HX2:=aM (HX.out.snoc h1 HRG.out hor);clear hor;go_wp2_with fail;refine(byteAt0_q HW.out.s (by omega)).mono ?_;rintro e w4 ⟨rfl,hd⟩;have H2:=aM (HW.out.drawn hd);rw[HCH.out];clear hd HW;go_wp2_with (at_builtin;refine Wr.push rfl (.tmp 14) (.tmp 17) rfl rfl rfl H2.out H0.out ch (by omega) ?_;intro v8 w8 h8;have HW8:=aM h8;clear h8;refine Hid.out ?_)
   refine unhid ?_;obtain⟨A8,c8,rfl⟩:=HW8.out.sl;go_wp2_with fail;refine(step_any HW8.out.s HW8.out.k.b hg hlt hn).mono ?_;rintro e w9 ⟨rfl,⟨lHW9,hs⟩,hk⟩;have HW9:=aM (HW8.out.step hs hk);clear hs hk;go_wp2_with fail;go_roundg (t.size-(a1+1))
   case measure=>omega
   case rel=>exact⟨a1+1,_,xs++[ch],rfl,by omega,by omega,HX2,(by first|exact HW9|exact⟨by have h:=HW9.out;rw[List.length_append] at h;exact h⟩)⟩
  |false=>
   have hid:Ident xs:=by
    rcases HX.out.2.2 with h|h
    ·exfalso
     have h1:=HXN.out h;rw[HQ.out rfl] at h1;cases h1
    ·exact h
   have ha1:a+1<=a1:=by
    obtain⟨x,r,h,_⟩:=hid;have:=HX.out.1;rw[h] at this;simp at this;omega
   have HID:=aM (show Ident xs/\bytesOf (strOfNums xs)=xs from⟨hid,bytesOf_nums HX.out.2.1⟩);clear hid HP HQ HXN HCH HRG HST;have c2:=HW.out.s.c2;have HCV:=aM (fun(w':World) (h:Below wc.heap.size wc w')=>own_string (P:=Tryz.prog) Tryz.underlying41 Tryz.underlying5 Tryz.underlying9 (Kd.own_of_R (Kd.R_below HW.out.r h)));have cv0:=HCV.out _ (below_drew (bR _ _));go_upto_region 5 with fail
   go_region_held3 (fun w'=>w'.cell? ⟨g,2,none⟩=some (.int .i64 l1)/\(convert 41 9 (.slice A xs.length cp)).run Tryz.prog w' = .ok (.string (strOfNums xs)) w') ((refine⟨?_,?_⟩<;>first|with_reducible exact cv0|with_reducible exact HCV.out _ (below_drew (bA (bR _ _) _))|with_reducible assumption|go_keep)) (fail)
   have HT:=aM (show Tw w0 w (wc.alloc (.cells #[.int .i64 1,.string (strOfNums xs),.float .f64 0,.int .i64 l1,.int .i64 l1] 49)).drew g t a1 l1 c n0 wc.heap.size #[.int .i64 1,.string (strOfNums xs),.float .f64 0,.int .i64 l1,.int .i64 l1] from
    ⟨HW.out.s.alloc _,((HK.out.trans HW.out.k).alloc _).drew1,blk_alloc (HW.out.k.k.blk HR.out (blk_ne HR.out (show w1.heap[g]? = _ from HS1.out) (by decide)) (by simp)) _,blk_new _ _⟩)
   have HN:=aM (show n0<=wc.heap.size/\n0≠wc.heap.size by have:=HW.out.k.k.1;have:=HZ.out;omega);generalize (wc.alloc (.cells #[.int .i64 1,.string (strOfNums xs),.float .f64 0,.int .i64 l1,.int .i64 l1] 49)).drew=w2 at HT|-;generalize wc.heap.size=n1 at HT HN|-;have hset:∀{wr:World} {a1:Nat} {l1 c1:Int} {cs:Array Value},Tw w0 w wr g t a1 l1 c1 n0 n1 cs->∀(j:Nat) (u:Value),Tw w0 w (wr.setCell ⟨n1,j,none⟩ u) g t a1 l1 c1 n0 n1 (cs.setIfInBounds j u):=fun h j u=>h.set (by have:=HN0.out;have:=HN.out;omega) HB0.out HN.out.2 j u
   have SET:=aM @hset;have hsz:(strOfNums xs).size<=2000:=by rw[strOfNums_size];exact hxl
   clear hset c2 HCV cv0 HW;obtain⟨s,hs⟩:∃s,strOfNums xs=s:=⟨_,rfl⟩;rw[hs] at HT HID hsz|-;clear hs;have z0:=bC HT.out.v 0;have z1:=bC HT.out.v 1;have f0:=bF HT.out.v 0
   go_upto_if 34 with fail
   refine(isWord_q s w2).mono ?_;rintro e w3 ⟨rfl,hb⟩;have H2:=aM (HT.out.below hb);clear hb z0 z1 f0 HT
   go_upto_if 34 with fail
   go_cut [] from 34 to 35 (fun wc=>∃kk:Int,Aside0 ((kk=2/\isw s=true)\/(kk=1/\isw s=false))/\Aside0 (Tw w0 w wc g t a1 l1 c n0 n1 #[.int .i64 kk,.string s,.float .f64 0,.int .i64 l1,.int .i64 l1]))
   case first=>
    obtain⟨b,hb⟩:∃b,isw s=b:=⟨_,rfl⟩;rw[hb];have HB:=aM hb;clear hb;have z0:=bC H2.out.v 0;have f0:=bF H2.out.v 0
    cases b with
    |true=>
     go_wp2_with fail;go_meet
     case rel=>exact⟨2,⟨.inl ⟨rfl,HB.out⟩⟩,⟨SET.out H2.out 0 (.int .i64 2)⟩⟩
    |false=>
     go_wp2_with fail;go_meet
     case rel=>exact⟨1,⟨.inr ⟨rfl,HB.out⟩⟩,H2⟩
   clear H2;obtain⟨kk,HKK,H3⟩:=hcut;have z1:=bC H3.out.v 1;obtain⟨bg,hbg⟩:∃bg:Bool,(s.toList==[103,111,116,111])=bg:=⟨_,rfl⟩;have HBG:=aM hbg
   go_upto_if 38 with fail
   go_cut [] from 38 to 40 (fun wc=>Aside0 (∃c2:Int,(c2=0->c=0/\bg=false)/\Tw w0 w wc g t a1 l1 c2 n0 n1 #[.int .i64 kk,.string s,.float .f64 0,.int .i64 l1,.int .i64 l1]))
   case first=>
    clear z1
    cases bg with
    |true=>
     go_wp2_with fail;refine(tell_any H3.out.s H3.out.k.b hg 2).mono ?_;rintro e w5 ⟨rfl,hs,hk⟩;have H4:=aM (H3.out.step hs hk);clear hs hk;go_wp2_with fail;go_meet
     case rel=>exact⟨_,fun h=>absurd h (tell_c (by decide)),H4.out⟩
    |false=>
     go_wp2_with fail;go_meet
     case rel=>exact⟨_,(by first|exact fun h=>⟨h,rfl⟩|exact fun h=>⟨h,trivial⟩),H3.out⟩
   clear H3 z1 hbg;obtain⟨⟨c2,hc2,h5⟩⟩:=hcut;have HC2:=aM hc2;have H4:=aM h5;clear hc2 h5;obtain⟨z0,z1,z2,z3,z4⟩:=bC5 H4.out.v;obtain⟨y0,y1,y2,y3,y4⟩:=bC5 H4.out.r;obtain⟨f0,f1,f2,f3,f4⟩:=bF5 H4.out.r;go_wp2_with fail;have HF:=aM (H4.out.fin HN0.out HB0.out (.int .i64 kk) (.string s) (.float .f64 0) (.int .i64 l1) (.int .i64 l1));generalize (((((wc.setCell ⟨n0,0,none⟩ (.int .i64 kk)).setCell ⟨n0,1,none⟩ (.string s)).setCell ⟨n0,2,none⟩ (.float .f64 0)).setCell ⟨n0,3,none⟩ (.int .i64 l1)).setCell ⟨n0,4,none⟩ (.int .i64 l1))=W at HF|-;obtain⟨q0,q1,q2,q3,q4⟩:=bC5 HF.out.2.2;refine bodyPost_ret (v:= .agg #[.int .i64 kk,.string s,.float .f64 0,.int .i64 l1,.int .i64 l1]) (by simp[results,Tryz.results74,go_sem,q0,q1,q2,q3,q4]) rfl ?_;refine⟨_,_,_,_,_,_,_,_,rfl,hsz,?_,fun h=> ?_,ha1,h2,fun h=>(HC2.out h).1,HF.out.1,HF.out.2.1⟩
   ·rcases HKK.out with⟨rfl,_⟩|⟨rfl,_⟩<;>decide
   ·rcases HKK.out with⟨rfl,hw⟩|⟨rfl,hw⟩
    ·exact .inr (.inl ⟨rfl,isw_iff.1 hw⟩)
    ·refine .inl ⟨rfl,?_,fun hm=> ?_,fun hm=> ?_⟩
     ·rw[HID.out.2];exact HID.out.1
     ·rw[isw_iff.2 hm] at hw;cases hw
     ·have h9:=HBG.out
      rw[(HC2.out h).2] at h9;have h10:s.toList=[103,111,116,111]:=by
       have h11:s=⟨#[103,111,116,111]⟩:=bytesOf_inj hm;rw[h11];exact ByteArray.toList_mk [103,111,116,111]
      rw[h10] at h9;exact absurd h9 (by decide)
end
section
variable {w0 w wr w1 w2:World} {g a:Nat} {t:ByteArray} {l c:Int} {n0 n1:Nat} {cs:Array Value}
def sw(t:ByteArray)(a:Nat)(s:ByteArray):Bool:=decide (a+s.size<=t.size)&&((t.extract a (a+s.size)).toList==s.toList)
theorem starts_q(h:Sb w g t a l c)(hB:Below w0.heap.size w0 w)(hg:w0.heap.size<=g)(ha:a<=3000)(s:ByteArray)(hs:s.size<=1000):Calls Tryz.prog 33 #[.pointer (some ⟨g,0,none⟩),.string s] w fun e w'=>e = .returned (.bool (sw t a s))/\Sb w' g t a l c/\Kp w0 w w' g:=by
 refine(spec_lxState_starts.calls g t a l c s (sw t a s) t a l c w0 w (h.is hg) hB ?_).mono ?_
 ·unfold spec_lxState_starts.f sw
  rw[IntWalk.wrap64_in _ (by omega)]
  by_cases hq:a+s.size<=t.size
  ·have e1:((a:Int)).toNat=a:=by omega
   have e2:((a:Int)+(s.size:Int)).toNat=a+s.size:=by omega
   rw[if_pos (by omega),if_pos (by omega),if_pos (by omega),e1,e2,decide_eq_true hq,Bool.true_and]
  ·rw[if_neg (by omega),decide_eq_false hq,Bool.false_and]
 ·rintro e w' ⟨he,h1,h2,h3⟩
  exact⟨he,h1.1,h2,h3⟩
set_option maxHeartbeats 8000000 in
theorem str_any(h:Sb w g t a l c)(hB:Below w0.heap.size w0 w)(hg:w0.heap.size<=g)(ha:a<t.size)(hn:t.size<=2000):
  Calls Tryz.prog 77 #[.pointer (some ⟨g,0,none⟩)] w fun e w'=>TokR w0 w g t c (a+1) e w':=by
 have H1:=aM (Ls.start h hB);have HB0:=aM hB.size;have c2:=((h.alloc (.cells #[.int .i64 0,.string ⟨#[]⟩,.float .f64 0,.int .i64 0,.int .i64 0] 49))).c2;clear h hB;go_enter Tryz.func77,Tryz.ntmps77
 go_upto_region 2 with fail;have HT:=aM (Tw.new H1.out (cs:= #[.int .i64 5,.string ⟨#[]⟩,.float .f64 0,.int .i64 l,.int .i64 0]));have HN:=aM (show w.heap.size<=w.heap.size+1/\w.heap.size≠w.heap.size+1 by omega);generalize ((w.alloc (.cells #[.int .i64 0,.string ⟨#[]⟩,.float .f64 0,.int .i64 0,.int .i64 0] 49)).alloc (.cells #[.int .i64 5,.string ⟨#[]⟩,.float .f64 0,.int .i64 l,.int .i64 0] 49))=w2 at HT|-;obtain⟨n0,hn0⟩:∃n0,w.heap.size=n0:=⟨_,rfl⟩;obtain⟨n1,hn1⟩:∃n1,w.heap.size+1=n1:=⟨_,rfl⟩;rw[hn1,hn0] at HT HN|-;have HN0:=aM hn0;clear c2 H1 hn0 hn1;have hset:∀{wr:World} {a1:Nat} {l1 c1:Int} {cs:Array Value},Tw w0 w wr g t a1 l1 c1 n0 n1 cs->∀(j:Nat) (u:Value),Tw w0 w (wr.setCell ⟨n1,j,none⟩ u) g t a1 l1 c1 n0 n1 (cs.setIfInBounds j u):=fun h j u=>h.set (by have:=HN0.out;have:=HN.out;omega) HB0.out HN.out.2 j u
 have SET:=aM @hset;clear hset;go_wp2_with fail;refine(bracket_any HT.out.s HT.out.k.b hg (by omega) hn 91 (by decide)).mono ?_;rintro e w3 ⟨⟨r,rfl,hr⟩,hs,hk⟩;have H2:=aM (HT.out.step hs hk);have HR:=aM hr;clear hs hk hr HT
 go_upto_if 13 with fail
 go_cut [] from 12 to 20 (fun wc=>Aside0 (∃(s:ByteArray) (a':Nat) (l' c':Int),s.size<=2000/\a+1<=a'/\a'<=t.size/\(c'=0->c=0)/\Tw w0 w wc g t a' l' c' n0 n1 #[.int .i64 5,.string s,.float .f64 0,.int .i64 l,.int .i64 0]))
 case first=>
  by_cases h0:0<=r
  ·obtain⟨m,rfl,hm⟩:∃m:Nat,r=(m:Int)/\a+m+1<t.size:=by
    rcases HR.out with h|⟨m,h1,h2,_⟩
    ·omega
    ·exact⟨m,h1,h2⟩
   clear HR;go_wp2_with fail;refine(long_any H2.out.s H2.out.k.b hg m hm hn).mono ?_;rintro e w4 ⟨⟨s,rfl,hs4⟩,a4,l4,c4,h41,h42,h43,hs,hk⟩;have H4:=aM (H2.out.step hs hk);have HC:=aM h43;clear hs hk h43;have e1:=bC H4.out.v 1;have f1:=bF H4.out.v 1;go_wp2_with fail;go_meet
   case rel=>exact⟨s,_,_,_,hs4,by omega,h42,HC.out,SET.out H4.out 1 (.string s)⟩
  ·have h0b:decide (0<=r)=false:=decide_eq_false h0
   clear HR;go_wp2_with fail;refine(quoted_any H2.out.s H2.out.k.b hg ha hn).mono ?_;rintro e w4 ⟨⟨s,rfl,hs4⟩,a4,l4,c4,h41,h42,h43,hs,hk⟩;have H4:=aM (H2.out.step hs hk);have HC:=aM h43;clear hs hk h43;have e1:=bC H4.out.v 1;have f1:=bF H4.out.v 1;go_wp2_with fail;go_meet
   case rel=>exact⟨s,_,_,_,hs4,by omega,h42,HC.out,SET.out H4.out 1 (.string s)⟩
 clear H2 HR;obtain⟨⟨s,a',l',c',hs1,ha',hs',hc',ht⟩⟩:=hcut;have HT:=aM ht;have HC:=aM hc';clear ht hc';have e4:=bC HT.out.v 4;have f4:=bF HT.out.v 4;have c2:=HT.out.s.c2;go_upto_region 7 with fail;have H3:=aM (SET.out HT.out 4 (.int .i64 l'));generalize wc.setCell ⟨n1,4,none⟩ (.int .i64 l')=w5 at H3|-
 change Aside0 (Tw w0 w w5 g t a' l' c' n0 n1 #[.int .i64 5,.string s,.float .f64 0,.int .i64 l,.int .i64 l']) at H3
 clear e4 f4 c2 HT;obtain⟨z0,z1,z2,z3,z4⟩:=bC5 H3.out.v;obtain⟨y0,y1,y2,y3,y4⟩:=bC5 H3.out.r;obtain⟨f0,f1,f2,f3,f4⟩:=bF5 H3.out.r;go_wp2_with fail;have HF:=aM (H3.out.fin HN0.out HB0.out (.int .i64 5) (.string s) (.float .f64 0) (.int .i64 l) (.int .i64 l'));generalize (((((w5.setCell ⟨n0,0,none⟩ (.int .i64 5)).setCell ⟨n0,1,none⟩ (.string s)).setCell ⟨n0,2,none⟩ (.float .f64 0)).setCell ⟨n0,3,none⟩ (.int .i64 l)).setCell ⟨n0,4,none⟩ (.int .i64 l'))=W at HF|-;obtain⟨q0,q1,q2,q3,q4⟩:=bC5 HF.out.2.2;refine bodyPost_ret (v:= .agg #[.int .i64 5,.string s,.float .f64 0,.int .i64 l,.int .i64 l']) (by simp[results,Tryz.results77,go_sem,q0,q1,q2,q3,q4]) rfl ?_;exact⟨_,_,_,_,_,_,_,_,rfl,hs1,by decide,fun h=> .inr (.inr (.inr (.inr rfl))),ha',hs',HC.out,HF.out.1,HF.out.2.1⟩
end
section
variable {w0 w wr w1 w2:World} {g a:Nat} {t:ByteArray} {l c:Int} {n0 n1:Nat} {cs:Array Value}
theorem signs_size{s:List Int}(h:s∈signsL):1<=s.length/\s.length<=3:=by
 have:∀s∈signsL,1<=s.length/\s.length<=3:=by decide
 exact this s h
def Rs(wr:World)(base:Nat)(v:Value)(ss:List ByteArray):Prop:=Kd.R Kd.string 9 wr base (fun _=>True) v ss
theorem Rs.step{base:Nat}{v:Value}{ss:List ByteArray}(h:Rs wr base v ss)(hs:Sb wr g t a l c)(hk:Kp w0 wr w1 g):Rs w1 base v ss:=
 Kd.R_mono (Kd.R_keep (Kd.R_types h hs (by decide)) hk.k (fun _ h=>h.2)) (fun _ h=>h.1)
set_option maxHeartbeats 8000000 in
theorem sign_any(h:Sb w g t a l c)(hB:Below w0.heap.size w0 w)(hg:w0.heap.size<=g)(ha:a<t.size)(hn:t.size<=2000):
  Calls Tryz.prog 78 #[.pointer (some ⟨g,0,none⟩)] w fun e w'=>TokR w0 w g t c (a+1) e w':=by
 have H1:=aM (Ls.start h hB);have HB0:=aM hB.size;have c2:=(h.alloc (.cells #[.int .i64 0,.string ⟨#[]⟩,.float .f64 0,.int .i64 0,.int .i64 0] 49)).c2;clear h hB;go_enter Tryz.func78,Tryz.ntmps78
 go_upto_region 1 with fail
 go_region_held3 (fun w'=>w'.cell? ⟨g,2,none⟩=some (.int .i64 l)) (go_keep) (fail)
 have HT:=aM ((Tw.new H1.out (cs:= #[.int .i64 3,.string ⟨#[]⟩,.float .f64 0,.int .i64 l,.int .i64 l])).drawn ((Drawn0.refl _).step 1));have HN:=aM (show w.heap.size<=w.heap.size+1/\w.heap.size≠w.heap.size+1 by omega)
 change Aside0 (Tw w0 w (((w.alloc (.cells #[.int .i64 0,.string ⟨#[]⟩,.float .f64 0,.int .i64 0,.int .i64 0] 49)).alloc (.cells #[.int .i64 3,.string ⟨#[]⟩,.float .f64 0,.int .i64 l,.int .i64 l] 49)).drew) g t a l c _ _ _) at HT
 generalize ((w.alloc (.cells #[.int .i64 0,.string ⟨#[]⟩,.float .f64 0,.int .i64 0,.int .i64 0] 49)).alloc (.cells #[.int .i64 3,.string ⟨#[]⟩,.float .f64 0,.int .i64 l,.int .i64 l] 49)).drew=w2 at HT|-;obtain⟨n0,hn0⟩:∃n0,w.heap.size=n0:=⟨_,rfl⟩;obtain⟨n1,hn1⟩:∃n1,w.heap.size+1=n1:=⟨_,rfl⟩;rw[hn1,hn0] at HT HN|-;have HN0:=aM hn0;clear c2 H1 hn0 hn1;have hset:∀{wr:World} {a1:Nat} {l1 c1:Int} {cs:Array Value},Tw w0 w wr g t a1 l1 c1 n0 n1 cs->∀(j:Nat) (u:Value),Tw w0 w (wr.setCell ⟨n1,j,none⟩ u) g t a1 l1 c1 n0 n1 (cs.setIfInBounds j u):=fun h j u=>h.set (by have:=HN0.out;have:=HN.out;omega) HB0.out HN.out.2 j u
 have SET:=aM @hset;clear hset;go_upto_region 2 with fail
 go_cut [20] from 15 to 20 (fun v wc=>∃b:Bool,v = .bool b/\Aside0 (Tw w0 w wc g t a l c n0 n1 #[.int .i64 3,.string ⟨#[]⟩,.float .f64 0,.int .i64 l,.int .i64 l]))
 case first=>
  go_wp2_with fail;refine(starts_q HT.out.s HT.out.k.b hg (by omega) _ (by decide)).mono ?_;rintro e w3 ⟨rfl,hs,hk⟩;have H2:=aM (HT.out.step hs hk);clear hs hk;generalize sw t a ⟨#[58,58]⟩=b1
  cases b1 with
  |true=>
   go_wp2_with fail;go_meet
   case rel=>exact⟨_,rfl,H2⟩
  |false=>
   go_wp2_with fail;refine(starts_q H2.out.s H2.out.k.b hg (by omega) _ (by decide)).mono ?_;rintro e w4 ⟨rfl,hs,hk⟩;have H3:=aM (H2.out.step hs hk);clear hs hk;generalize sw t a ⟨#[91,61]⟩=b2;go_wp2_with fail;go_meet
   case rel=>exact⟨_,rfl,H3⟩
 clear HT;obtain⟨b20,rfl,HT⟩:=hcut
 go_upto_if 20 with fail
 go_cut [] from 20 to 22 (fun wc=>Aside0 (∃c2:Int,(c2=0->c=0)/\Tw w0 w wc g t a l c2 n0 n1 #[.int .i64 3,.string ⟨#[]⟩,.float .f64 0,.int .i64 l,.int .i64 l]))
 case first=>
  cases b20 with
  |true=>
   go_wp2_with fail;refine(tell_any HT.out.s HT.out.k.b hg 2).mono ?_;rintro e w3 ⟨rfl,hs,hk⟩;have H2:=aM (HT.out.step hs hk);clear hs hk;go_wp2_with fail;go_meet
   case rel=>exact⟨_,fun h=>absurd h (tell_c (by decide)),H2.out⟩
  |false=>
   go_wp2_with fail;go_meet
   case rel=>exact⟨_,fun h=>h,HT.out⟩
 clear HT;obtain⟨⟨c2,hc2,h5⟩⟩:=hcut;have HC2:=aM hc2;have H3:=aM h5;clear hc2 h5;obtain⟨ss,hss1,hss2⟩:=signs_ok;have hlen:ss.length=26:=by rw[<-List.length_map (f:=bytesOf),hss2];rfl
 have HSS:=aM hss2;go_wp2_with fail;refine(spec_lxSigns.calls ss _ hss1).mono ?_;rintro e w4 ⟨v0,rfl,hr,hb⟩;have H4:=aM (H3.out.below hb);obtain⟨A,cp,rfl⟩:=Kd.R_slice hr;obtain⟨ad,rfl,_⟩:=Kd.at_string (Kd.R_reads' hr).2.2 0 (by omega) (by omega)
 have HR:=aM (show Rs w4 wc.heap.size (.slice (some ad) ss.length cp) ss from hr);generalize wc.heap.size=base at HR;clear hr hb hss1 hss2 H3;go_wp2_with fail;go_loopg [25] 26 (fun k v wr=>∃i:Nat,v = .int .i64 (i:Int)/\k=26-i/\i<=26/\Aside0 (Tw w0 w wr g t a l c2 n0 n1 #[.int .i64 3,.string ⟨#[]⟩,.float .f64 0,.int .i64 l,.int .i64 l])/\Aside0 (Rs wr base (.slice (some ad) ss.length cp) ss))
 case atStart=>exact⟨0,rfl,rfl,by omega,H4,HR⟩
 case round=>
  clear H4 HR;obtain⟨i,rfl,hk,hi,HT,HR⟩:=hrel
  by_cases hlt:i<26
  ·have hltI:(i:Int)<(ss.length:Int):=by omega
   have h0I:(0:Int)<=(i:Int):=by omega
   have hil:i<ss.length:=by omega
   obtain⟨ad',he,hx⟩:=Kd.at_string (Kd.R_reads' (show Kd.R Kd.string 9 wr base (fun _=>True) _ ss from HR.out)).2.2 (i:Int) (by omega) (by omega)
   cases he
   have hitn:(i:Int).toNat=i:=by omega
   rw[hitn] at hx;obtain⟨s,hs⟩:∃s,rdOf ByteArray.empty ss (i:Int)=s:=⟨_,rfl⟩;rw[hs] at hx;have hmem:bytesOf s∈signsL:=by
    rw[<-HSS.out,List.mem_map];refine⟨s,?_,rfl⟩;rw[<-hs];simp[rdOf,hil]
   have hsz:=signs_size hmem;rw[bytesOf_length] at hsz;have HM:=aM hmem;have q:IntKind.i64.wrap ((i:Int)+1)=((i+1:Nat):Int):=by rw[IntWalk.i64_in _ (by omega)];omega
   clear hmem hs;go_wp2_with fail;refine(starts_q HT.out.s HT.out.k.b hg (by omega) s (by omega)).mono ?_;rintro e w5 ⟨rfl,hs,hk5⟩;have H5:=aM (HT.out.step hs hk5);have HR5:=aM (HR.out.step HT.out.s hk5);clear hs hk5 hx;obtain⟨b,hb⟩:∃b,sw t a s=b:=⟨_,rfl⟩;rw[hb];have HB:=aM hb;clear hb HT HR
   cases b with
   |true=>
    have hfit:a+s.size<=t.size:=by
     have h9:=HB.out;unfold sw at h9;rw[Bool.and_eq_true,decide_eq_true_eq] at h9;exact h9.1
    have e1:=bC H5.out.v 1;have f1:=bF H5.out.v 1;go_upto_region 9 with fail;have H6:=aM (SET.out H5.out 1 (.string s));generalize w5.setCell ⟨n1,1,none⟩ (.string s)=w6 at H6|-
    change Aside0 (Tw w0 w w6 g t a l c2 n0 n1 #[.int .i64 3,.string s,.float .f64 0,.int .i64 l,.int .i64 l]) at H6
    clear e1 f1 H5 HR5;go_wp2_with fail;refine(steps_any H6.out.s H6.out.k.b hg s.size hfit hn).mono ?_;rintro e w7 ⟨rfl,⟨lH7,hs⟩,hk⟩;have H7:=aM (H6.out.step hs hk);clear hs hk;obtain⟨z0,z1,z2,z3,z4⟩:=bC5 H7.out.v;obtain⟨y0,y1,y2,y3,y4⟩:=bC5 H7.out.r;obtain⟨f0,f1,f2,f3,f4⟩:=bF5 H7.out.r;go_wp2_with fail;have HF:=aM (H7.out.fin HN0.out HB0.out (.int .i64 3) (.string s) (.float .f64 0) (.int .i64 l) (.int .i64 l));generalize (((((w7.setCell ⟨n0,0,none⟩ (.int .i64 3)).setCell ⟨n0,1,none⟩ (.string s)).setCell ⟨n0,2,none⟩ (.float .f64 0)).setCell ⟨n0,3,none⟩ (.int .i64 l)).setCell ⟨n0,4,none⟩ (.int .i64 l))=W at HF|-;obtain⟨q0,q1,q2,q3,q4⟩:=bC5 HF.out.2.2;refine bodyPost_ret (v:= .agg #[.int .i64 3,.string s,.float .f64 0,.int .i64 l,.int .i64 l]) (by simp[results,Tryz.results78,go_sem,q0,q1,q2,q3,q4]) rfl ?_;exact⟨_,_,_,_,_,_,_,_,rfl,by omega,by decide,fun h=> .inr (.inr (.inl ⟨rfl,HM.out⟩)),by omega,hfit,HC2.out,HF.out.1,HF.out.2.1⟩
   |false=>
    go_wp2_with fail;go_roundg (26-(i+1))
    case measure=>omega
    case rel=>exact⟨i+1,rfl,rfl,by omega,H5,HR5⟩
  ·have hltI:¬(i:Int)<(ss.length:Int):=by omega
   have hil2:¬i<ss.length:=by omega
   go_wp2_with fail;refine(byteAt0_q HT.out.s (by omega)).mono ?_;rintro e w5 ⟨rfl,hd⟩;have H5:=aM (HT.out.drawn hd);clear hd HT HR;generalize bt t (a:Int)=ch
   go_upto_if 42 with fail
   go_cut [] from 41 to 44 (fun wc=>Aside0 (∃c3:Int,(c3=0->c2=0)/\Tw w0 w wc g t a l c3 n0 n1 #[.int .i64 3,.string ⟨#[]⟩,.float .f64 0,.int .i64 l,.int .i64 l]))
   case first=>
    by_cases hc:126<ch
    ·go_wp2_with fail
     refine(tell_any H5.out.s H5.out.k.b hg 2).mono ?_;rintro e w6 ⟨rfl,hs,hk⟩;have H6:=aM (H5.out.step hs hk);clear hs hk;go_wp2_with fail;go_meet
     case rel=>exact⟨_,fun h=>absurd h (tell_c (by decide)),H6.out⟩
    ·go_wp2_with fail
     go_meet
     case rel=>exact⟨_,fun h=>h,H5.out⟩
   clear H5;obtain⟨⟨c3,hc3,h5⟩⟩:=hcut;have H6:=aM h5;clear hc3 h5;go_wp2_with fail;refine(tell_any H6.out.s H6.out.k.b hg 1).mono ?_;rintro e w7 ⟨rfl,hs,hk⟩;have H7:=aM (H6.out.step hs hk);clear hs hk;go_wp2_with fail;refine(step_any H7.out.s H7.out.k.b hg ha hn).mono ?_;rintro e w8 ⟨rfl,⟨lH8,hs⟩,hk⟩;have H8:=aM (H7.out.step hs hk);clear hs hk;obtain⟨z0,z1,z2,z3,z4⟩:=bC5 H8.out.v;obtain⟨y0,y1,y2,y3,y4⟩:=bC5 H8.out.r;obtain⟨f0,f1,f2,f3,f4⟩:=bF5 H8.out.r;go_wp2_with fail;have HF:=aM (H8.out.fin HN0.out HB0.out (.int .i64 3) (.string ⟨#[]⟩) (.float .f64 0) (.int .i64 l) (.int .i64 l));generalize (((((w8.setCell ⟨n0,0,none⟩ (.int .i64 3)).setCell ⟨n0,1,none⟩ (.string ⟨#[]⟩)).setCell ⟨n0,2,none⟩ (.float .f64 0)).setCell ⟨n0,3,none⟩ (.int .i64 l)).setCell ⟨n0,4,none⟩ (.int .i64 l))=W at HF|-;obtain⟨q0,q1,q2,q3,q4⟩:=bC5 HF.out.2.2;refine bodyPost_ret (v:= .agg #[.int .i64 3,.string ⟨#[]⟩,.float .f64 0,.int .i64 l,.int .i64 l]) (by simp[results,Tryz.results78,go_sem,q0,q1,q2,q3,q4]) rfl ?_;exact⟨_,_,_,_,_,_,_,_,rfl,by decide,by decide,fun h=>absurd h (tell_c (by decide)),Nat.le_refl _,by omega,fun h=>absurd h (tell_c (by decide)),HF.out.1,HF.out.2.1⟩
end
section
variable {w0 w wr w1 w2:World} {g a:Nat} {t:ByteArray} {l c:Int} {n0 n1:Nat} {cs:Array Value}
theorem Tw.new0(h:Ls w0 w wr g t a l c):Tw w0 w (wr.alloc (.cells #[.int .i64 0,.string ⟨#[]⟩,.float .f64 0,.int .i64 0,.int .i64 0] 49)) g t a l c wr.heap.size wr.heap.size #[.int .i64 0,.string ⟨#[]⟩,.float .f64 0,.int .i64 0,.int .i64 0]:=
 ⟨h.s.alloc _,h.k.alloc _,blk_new _ _,blk_new _ _⟩
set_option maxHeartbeats 8000000 in
theorem next_any(h:Sb w g t a l c)(hB:Below w0.heap.size w0 w)(hg:w0.heap.size<=g)(ha:a<t.size)(hn:t.size<=2000):
  Calls Tryz.prog 35 #[.pointer (some ⟨g,0,none⟩)] w fun e w'=>TokR w0 w g t c (a+1) e w':=by
 have H1:=aM (Tw.new0 (Ls.start h hB));have HB0:=aM hB.size;clear h hB;go_enter Tryz.func35,Tryz.ntmps35
 go_upto_region 1 with fail;generalize w.alloc _=w1 at H1|-;obtain⟨n0,hn0⟩:∃n0,w.heap.size=n0:=⟨_,rfl⟩;rw[hn0] at H1|-;have HN0:=aM hn0;clear hn0;go_wp2_with fail;refine(byteAt0_q H1.out.s (by omega)).mono ?_;rintro e w2 ⟨rfl,hd⟩;have H2:=aM (H1.out.drawn hd);clear hd;obtain⟨ch,hch⟩:∃ch:Int,bt t (a:Int)=ch:=⟨_,rfl⟩;rw[hch];have HCH:=aM hch;clear hch H1;go_wp2_with fail;refine(letter_q _ _).mono ?_;rintro e w3 ⟨rfl,hd⟩;have H3:=aM (H2.out.drawn hd);clear hd;clear H2;obtain⟨b1,hb1⟩:∃b:Bool,isLet ch=b:=⟨_,rfl⟩;rw[hb1];have HB1:=aM hb1;clear hb1
 cases b1 with
 |true=>
  go_wp2_with fail;refine(name_any H3.out.s H3.out.k.b hg ha hn (by rw[HCH.out];exact HB1.out)).mono ?_;rintro e w9 ⟨k,s,x,j1,j2,a9,l9,c9,rfl,p1,p2,p3,p4,p5,p6,hs,hk⟩;have H9:=aM (H3.out.step hs hk);have HP:=aM (And.intro p1 (And.intro p2 (And.intro p3 (And.intro p4 (And.intro p5 p6)))));clear hs hk p1 p2 p3 p4 p5 p6;obtain⟨y0,y1,y2,y3,y4⟩:=bC5 H9.out.r;obtain⟨f0,f1,f2,f3,f4⟩:=bF5 H9.out.r;go_wp2_with fail;have HF:=aM (H9.out.fin HN0.out HB0.out (.int .i64 k) (.string s) (.float .f64 x) (.int .i64 j1) (.int .i64 j2));generalize (((((w9.setCell ⟨n0,0,none⟩ (.int .i64 k)).setCell ⟨n0,1,none⟩ (.string s)).setCell ⟨n0,2,none⟩ (.float .f64 x)).setCell ⟨n0,3,none⟩ (.int .i64 j1)).setCell ⟨n0,4,none⟩ (.int .i64 j2))=W at HF|-;obtain⟨q0,q1,q2,q3,q4⟩:=bC5 HF.out.2.2;refine bodyPost_ret (v:= .agg #[.int .i64 k,.string s,.float .f64 x,.int .i64 j1,.int .i64 j2]) (by simp[results,Tryz.results35,go_sem,q0,q1,q2,q3,q4]) rfl ?_;exact⟨_,_,_,_,_,_,_,_,rfl,HP.out.1,HP.out.2.1,HP.out.2.2.1,HP.out.2.2.2.1,HP.out.2.2.2.2.1,HP.out.2.2.2.2.2,HF.out.1,HF.out.2.1⟩
 |false=>
  go_upto_region 4 with fail
  go_cut [11] from 12 to 22 (fun v wc=>∃b:Bool,v = .bool b/\Aside0 (b=true->isDig ch=true\/ch=46)/\Aside0 (Tw w0 w wc g t a l c n0 n0 #[.int .i64 0,.string ⟨#[]⟩,.float .f64 0,.int .i64 0,.int .i64 0]))
  case first=>
   go_wp2_with fail;refine(digit_q _ _).mono ?_;rintro e w4 ⟨rfl,hd⟩;have H4:=aM (H3.out.drawn hd);clear hd;obtain⟨b2,hb2⟩:∃b:Bool,isDig ch=b:=⟨_,rfl⟩;rw[hb2];have HB2:=aM hb2;clear hb2
   cases b2 with
   |true=>
    go_wp2_with fail;go_meet
    case rel=>exact⟨_,rfl,⟨fun _=> .inl HB2.out⟩,H4⟩
   |false=>
    by_cases hc:ch=46
    ·have hcb:(ch==46)=true:=beq_iff_eq.2 hc
     have HC46:=aM hc;clear hc;go_wp2_with fail;refine(byteAt1_q H4.out.s (by omega)).mono ?_;rintro e w5 ⟨rfl,hd⟩;have H5:=aM (H4.out.drawn hd);clear hd;go_wp2_with fail;refine(digit_q _ _).mono ?_;rintro e w6 ⟨rfl,hd⟩;have H6:=aM (H5.out.drawn hd);clear hd;generalize isDig (bt t ((a:Int)+1))=b3;go_wp2_with fail;go_meet
     case rel=>exact⟨_,rfl,⟨fun _=> .inr HC46.out⟩,H6⟩
    ·have hcb:(ch==46)=false:=beq_eq_false_iff_ne.2 hc
     clear hc;go_wp2_with fail;go_meet
     case rel=>exact⟨_,rfl,⟨fun h=>by cases h⟩,H4⟩
  clear H3;obtain⟨b11,rfl,HD,H4⟩:=hcut
  cases b11 with
  |true=>
   go_wp2_with fail;refine(number_any H4.out.s H4.out.k.b hg ha hn (by rw[HCH.out];first|exact HD.out rfl|exact HD.out trivial)).mono ?_;rintro e w9 ⟨k,s,x,j1,j2,a9,l9,c9,rfl,p1,p2,p3,p4,p5,p6,hs,hk⟩;have H9:=aM (H4.out.step hs hk);have HP:=aM (And.intro p1 (And.intro p2 (And.intro p3 (And.intro p4 (And.intro p5 p6)))));clear hs hk p1 p2 p3 p4 p5 p6;obtain⟨y0,y1,y2,y3,y4⟩:=bC5 H9.out.r;obtain⟨f0,f1,f2,f3,f4⟩:=bF5 H9.out.r;go_wp2_with fail;have HF:=aM (H9.out.fin HN0.out HB0.out (.int .i64 k) (.string s) (.float .f64 x) (.int .i64 j1) (.int .i64 j2));generalize (((((w9.setCell ⟨n0,0,none⟩ (.int .i64 k)).setCell ⟨n0,1,none⟩ (.string s)).setCell ⟨n0,2,none⟩ (.float .f64 x)).setCell ⟨n0,3,none⟩ (.int .i64 j1)).setCell ⟨n0,4,none⟩ (.int .i64 j2))=W at HF|-;obtain⟨q0,q1,q2,q3,q4⟩:=bC5 HF.out.2.2;refine bodyPost_ret (v:= .agg #[.int .i64 k,.string s,.float .f64 x,.int .i64 j1,.int .i64 j2]) (by simp[results,Tryz.results35,go_sem,q0,q1,q2,q3,q4]) rfl ?_;exact⟨_,_,_,_,_,_,_,_,rfl,HP.out.1,HP.out.2.1,HP.out.2.2.1,HP.out.2.2.2.1,HP.out.2.2.2.2.1,HP.out.2.2.2.2.2,HF.out.1,HF.out.2.1⟩
  |false=>
   go_upto_region 6 with fail
   go_cut [25] from 26 to 40 (fun v wc=>∃b:Bool,v = .bool b/\Aside0 (Tw w0 w wc g t a l c n0 n0 #[.int .i64 0,.string ⟨#[]⟩,.float .f64 0,.int .i64 0,.int .i64 0]))
   case first=>
    by_cases h34:ch=34
    ·have hcb:(ch==34)=true:=beq_iff_eq.2 h34
     clear h34;go_wp2_with fail;go_meet
     case rel=>exact⟨_,rfl,H4⟩
    ·have hcb:(ch==34)=false:=beq_eq_false_iff_ne.2 h34
     clear h34
     by_cases h39:ch=39
     ·have hcb2:(ch==39)=true:=beq_iff_eq.2 h39
      clear h39;go_wp2_with fail;go_meet
      case rel=>exact⟨_,rfl,H4⟩
     ·have hcb2:(ch==39)=false:=beq_eq_false_iff_ne.2 h39
      clear h39
      by_cases h91:ch=91
      ·have hcb3:(ch==91)=true:=beq_iff_eq.2 h91
       clear h91;go_wp2_with fail;refine(bracket_any H4.out.s H4.out.k.b hg (by omega) hn 91 (by decide)).mono ?_;rintro e w5 ⟨⟨r,rfl,hr⟩,hs,hk⟩;have H5:=aM (H4.out.step hs hk);clear hs hk hr;obtain⟨b5,hb5⟩:∃b:Bool,decide (0<=r)=b:=⟨_,rfl⟩;go_wp2_with fail;go_meet
       case rel=>exact⟨b5,rfl,H5⟩
      ·have hcb3:(ch==91)=false:=beq_eq_false_iff_ne.2 h91
       clear h91;go_wp2_with fail;go_meet
       case rel=>exact⟨_,rfl,H4⟩
   clear H4;obtain⟨b25,rfl,H5⟩:=hcut
   cases b25 with
   |true=>
    go_wp2_with fail;refine(str_any H5.out.s H5.out.k.b hg ha hn).mono ?_;rintro e w9 ⟨k,s,x,j1,j2,a9,l9,c9,rfl,p1,p2,p3,p4,p5,p6,hs,hk⟩;have H9:=aM (H5.out.step hs hk);have HP:=aM (And.intro p1 (And.intro p2 (And.intro p3 (And.intro p4 (And.intro p5 p6)))));clear hs hk p1 p2 p3 p4 p5 p6;obtain⟨y0,y1,y2,y3,y4⟩:=bC5 H9.out.r;obtain⟨f0,f1,f2,f3,f4⟩:=bF5 H9.out.r;go_wp2_with fail;have HF:=aM (H9.out.fin HN0.out HB0.out (.int .i64 k) (.string s) (.float .f64 x) (.int .i64 j1) (.int .i64 j2));generalize (((((w9.setCell ⟨n0,0,none⟩ (.int .i64 k)).setCell ⟨n0,1,none⟩ (.string s)).setCell ⟨n0,2,none⟩ (.float .f64 x)).setCell ⟨n0,3,none⟩ (.int .i64 j1)).setCell ⟨n0,4,none⟩ (.int .i64 j2))=W at HF|-;obtain⟨q0,q1,q2,q3,q4⟩:=bC5 HF.out.2.2;refine bodyPost_ret (v:= .agg #[.int .i64 k,.string s,.float .f64 x,.int .i64 j1,.int .i64 j2]) (by simp[results,Tryz.results35,go_sem,q0,q1,q2,q3,q4]) rfl ?_;exact⟨_,_,_,_,_,_,_,_,rfl,HP.out.1,HP.out.2.1,HP.out.2.2.1,HP.out.2.2.2.1,HP.out.2.2.2.2.1,HP.out.2.2.2.2.2,HF.out.1,HF.out.2.1⟩
   |false=>
    go_wp2_with fail;refine(sign_any H5.out.s H5.out.k.b hg ha hn).mono ?_;rintro e w9 ⟨k,s,x,j1,j2,a9,l9,c9,rfl,p1,p2,p3,p4,p5,p6,hs,hk⟩;have H9:=aM (H5.out.step hs hk);have HP:=aM (And.intro p1 (And.intro p2 (And.intro p3 (And.intro p4 (And.intro p5 p6)))));clear hs hk p1 p2 p3 p4 p5 p6;obtain⟨y0,y1,y2,y3,y4⟩:=bC5 H9.out.r;obtain⟨f0,f1,f2,f3,f4⟩:=bF5 H9.out.r;go_wp2_with fail;have HF:=aM (H9.out.fin HN0.out HB0.out (.int .i64 k) (.string s) (.float .f64 x) (.int .i64 j1) (.int .i64 j2));generalize (((((w9.setCell ⟨n0,0,none⟩ (.int .i64 k)).setCell ⟨n0,1,none⟩ (.string s)).setCell ⟨n0,2,none⟩ (.float .f64 x)).setCell ⟨n0,3,none⟩ (.int .i64 j1)).setCell ⟨n0,4,none⟩ (.int .i64 j2))=W at HF|-;obtain⟨q0,q1,q2,q3,q4⟩:=bC5 HF.out.2.2;refine bodyPost_ret (v:= .agg #[.int .i64 k,.string s,.float .f64 x,.int .i64 j1,.int .i64 j2]) (by simp[results,Tryz.results35,go_sem,q0,q1,q2,q3,q4]) rfl ?_;exact⟨_,_,_,_,_,_,_,_,rfl,HP.out.1,HP.out.2.1,HP.out.2.2.1,HP.out.2.2.2.1,HP.out.2.2.2.2.1,HP.out.2.2.2.2.2,HF.out.1,HF.out.2.1⟩
end
end Go.Proofs.YtoimaaonloibfaaGreatDoor.Lx
