/- FnTokensSpaced (part 5): joined texts of this seat: Lxo, Lxp, Vb, Lxq, Nd, Pa, Pb, Pc, Pd, Pe, Pf, Qd, Leaf5, Ra. -/
import Derived.Test.YtoimaaonloibfaaGreatDoorG04
import Derived.Test.YtoimaaonloibfaaGreatDoorG03
import Derived.Test.YtoimaaonloibfaaGreatDoorG01
import Derived.Test.YtoimaaonloibfaaGreatDoorG02
set_option linter.unusedVariables false
set_option linter.unusedSimpArgs false
set_option linter.constructorNameAsVariable false
set_option linter.unnecessarySimpa false
namespace Go.Proofs.YtoimaaonloibfaaGreatDoor.Lx
open Go.RowKit W1 W2 PF Wf
theorem strange_f(x:Int):∃b,spec_lxIsStrange.f x=some b:=by
 unfold spec_lxIsStrange.f
 repeat' split
 all_goals exact⟨_,rfl⟩
theorem open_l0{t:ByteArray}(hn:t.size<=2000):∀(d i:Nat),i+d=t.size->∃b,spec_lxIsOpen.l0 (d+1) t (i:Int)=some b:=by
 intro d
 induction d with
 |zero=>
  intro i hi;rw[spec_lxIsOpen.l0];rw[if_neg (by omega)];exact⟨_,rfl⟩
 |succ d ih=>
  intro i hi;rw[spec_lxIsOpen.l0];obtain⟨b,hb⟩:=strange_f (bt t (i:Int));rw[if_pos (by omega),if_pos (by omega),hb];simp only[Option.bind_some]
  cases b with
  |true=>exact⟨_,by rw[if_pos rfl]⟩
  |false=>
   rw[if_neg (by decide),IntWalk.wrap64_in _ (by omega)];have:=ih (i+1) (by omega);rw[Int.natCast_add,Int.natCast_one] at this;exact this
theorem open_q(t:ByteArray)(w:World):∃b,(b=false->t.size<=2000)/\Calls Tryz.prog 29 #[.string t] w fun e w'=>e = .returned (.bool b)/\Drawn0 w w':=by
 by_cases hn:t.size<=2000
 ·have key:∃k b,spec_lxIsOpen.f k t=some b:=by
   have hj:∀b0,∃b,spec_lxIsOpen.j0 (t.size+1+1) t b0=some b:=by
    intro b0;rw[spec_lxIsOpen.j0]
    cases b0 with
    |true=>exact⟨_,by rw[if_pos rfl]⟩
    |false=>
     rw[if_neg (by decide)];obtain⟨b,hb⟩:=open_l0 hn t.size 0 (by omega);exact⟨b,hb⟩
   refine⟨t.size+1+1,?_⟩;unfold spec_lxIsOpen.f;rw[if_neg (by omega)]
   by_cases h0:(t.size:Int)>0
   ·rw[if_pos h0,if_pos (by omega)]
    exact hj _
   ·rw[if_neg h0]
    exact hj _
  obtain⟨k,b,hk⟩:=key;exact⟨b,fun _=>hn,spec_lxIsOpen.calls k t b w hk⟩
 ·refine⟨true,(fun h=>by cases h),spec_lxIsOpen.calls 1 t true w ?_⟩
  unfold spec_lxIsOpen.f;rw[if_pos (by omega),spec_lxIsOpen.j0];rw[if_pos rfl]
structure Tk where
 k:Int
 s:ByteArray
 x:Nat
 f1:Int
 f2:Int
def Tk.cells(t:Tk):List Value:=[.int .i64 t.k,.string t.s,.float .f64 t.x,.int .i64 t.f1,.int .i64 t.f2]
def tokK:Kd Tk where
 sz:=5
 E:=[]
 K:=fun _ x cs=>cs=x.cells
 M:=fun _ _ _ x cs=>cs=x.cells
 K_len:=fun h=>by rw[h];rfl
 K_one:=fun h u hu=>by
  rw[h] at hu;simp only[Tk.cells,List.mem_cons,List.not_mem_nil,or_false] at hu;rcases hu with rfl|rfl|rfl|rfl|rfl<;>rfl
 K_below:=fun _ h=>h
 K_of_M:=fun h=>h
 M_mono:=fun _ h=>h
 M_bound:=fun h=>h
 M_move:=fun _ h=>h
 M_lower:=fun _ h=>h
theorem info49:(Tryz.prog.info? 49).map (fun i=>(i.zero,i.size,i.bytes))=some (some (.agg #[.int .i64 0,.string ⟨#[]⟩,.float .f64 0,.int .i64 0,.int .i64 0]),5,48):=by kernel_rfl
def TksOk(c:Int)(ts:List Tk):Prop:=(∀x∈ts,x.k≠6/\x.s.size<=2000)/\(c=0->∀x∈ts,WT x.k (bytesOf x.s))
structure Lt(w wr:World)(g:Nat)(t:ByteArray)(a:Nat)(l c:Int)(v:Value)(ts:List Tk):Prop where
 s:Sb wr g t a l c
 b:Below w.heap.size w wr
 r:tokK.R 49 wr w.heap.size (fun _=>True) v ts
section
variable {w wr w1 w2:World} {g a:Nat} {t:ByteArray} {l c:Int} {v:Value} {ts:List Tk}
variable {ops:Array Oper} {rest:List Oper} {o:Oper} {act:Act} {Q:Exit->Act->World->Prop}
theorem Lt.drawn(h:Lt w wr g t a l c v ts)(k:Drawn0 wr w1):Lt w w1 g t a l c v ts:=by
 obtain⟨n,rfl⟩:=k;exact⟨h.s,pD h.b n,Kd.R_drewN h.r n⟩
theorem Lt.step(h:Lt w wr g t a l c v ts){a':Nat}{l' c':Int}(hs:Sb w1 g t a' l' c')(hk:Kp w wr w1 g):Lt w w1 g t a' l' c' v ts:=
 ⟨hs,hk.b,Kd.R_mono (Kd.R_keep (Kd.R_types h.r h.s (by decide)) hk.k (fun k hk=>hk.2)) (fun _ hk=>hk.1)⟩
theorem Lt.after(h:Lt w wr g t a l c v ts){v1:Value}{ts1:List Tk}(hR:tokK.R 49 w1 w.heap.size (fun _=>True) v1 ts1)(hb:Below w.heap.size w w1)(hg:wr.grownBy w1 v.ownBlock):Lt w w1 g t a l c v1 ts1:=
 ⟨blk_grown h.s hg (Kd.R_ne h.r h.s (by decide)),hb,hR⟩
theorem Lt.push(hgd:o.guard=none)(s x:Operand)(ho:o.op = .call {callee:= .builtin .append,args:= #[s,x],argTypes:= #[45,45]})
  (hs:act.eval s=v) (hx:act.eval x = .slice (some ⟨wr.heap.size,0,none⟩) 1 1) (h:Lt w wr g t a l c v ts) (k:Int) (b:ByteArray) (y:Nat) (f1 f2:Int) (hl:ts.length<=100000)
  (hK:∀v1 w1,Lt w w1 g t a l c v1 (ts++[⟨k,b,y,f1,f2⟩])->wpList Tryz.prog ops Q rest (act.put o.dst v1) w1):
  wpList Tryz.prog ops Q (o::rest) act (wr.alloc (.cells #[.int .i64 k,.string b,.float .f64 y,.int .i64 f1,.int .i64 f2] 49)):=by
 refine Kd.R_append (P:=Tryz.prog) tokK (w0:=w) w.heap.size hgd s x 45 49 (.agg #[.int .i64 0,.string ⟨#[]⟩,.float .f64 0,.int .i64 0,.int .i64 0]) 48 ho Tryz.underlying45 info49 rfl (by decide) (by decide) v ts ⟨k,b,y,f1,f2⟩ [.int .i64 k,.string b,.float .f64 y,.int .i64 f1,.int .i64 f2] (fun _=>True) (fun _=>False) hs hx
  rfl (fun k hk=>hk.elim) (fun k hk=>trivial) h.r h.b h.b.size (by omega) ?_
 intro v1 w1 hR hb hg _;exact hK v1 w1 (h.after hR hb hg)
theorem Lt.push_step{K:Act->World->Prop}(hw:Region.wanted o (yielded ops act.tmps)=true)(s x:Operand)(ho:o.op = .call {callee:= .builtin .append,args:= #[s,x],argTypes:= #[45,45]})
  (hs:act.eval s=v) (hx:act.eval x = .slice (some ⟨wr.heap.size,0,none⟩) 1 1) (h:Lt w wr g t a l c v ts) (k:Int) (b:ByteArray) (y:Nat) (f1 f2:Int) (hl:ts.length<=100000)
  (hK:∀v1 w1,Lt w w1 g t a l c v1 (ts++[⟨k,b,y,f1,f2⟩])->K (act.put o.dst v1) w1):
  if Region.wanted o (yielded ops act.tmps)=true then Oper.wp Tryz.prog o act (wr.alloc (.cells #[.int .i64 k,.string b,.float .f64 y,.int .i64 f1,.int .i64 f2] 49)) K Q else K (act.put o.dst undef) (wr.alloc (.cells #[.int .i64 k,.string b,.float .f64 y,.int .i64 f1,.int .i64 f2] 49)):=by
 refine Kd.R_append_step (P:=Tryz.prog) tokK (w0:=w) w.heap.size hw s x 45 49 (.agg #[.int .i64 0,.string ⟨#[]⟩,.float .f64 0,.int .i64 0,.int .i64 0]) 48 ho Tryz.underlying45 info49 rfl (by decide) (by decide) v ts ⟨k,b,y,f1,f2⟩ [.int .i64 k,.string b,.float .f64 y,.int .i64 f1,.int .i64 f2] (fun _=>True) (fun _=>False) hs hx
  rfl (fun k hk=>hk.elim) (fun k hk=>trivial) h.r h.b h.b.size (by omega) ?_
 intro v1 w1 hR hb hg _;exact hK v1 w1 (h.after hR hb hg)
theorem Lt.push_stepd{K:Act->World->Prop}(W:World)(hw:Region.wanted o (yielded ops act.tmps)=true)(s x:Operand)(ho:o.op = .call {callee:= .builtin .append,args:= #[s,x],argTypes:= #[45,45]})
  (hs:act.eval s=v) (h:Lt w wr g t a l c v ts) (hx:act.eval x = .slice (some ⟨wr.heap.size,0,none⟩) 1 1) (k:Int) (b:ByteArray) (y:Nat) (f1 f2:Int) (hW:W=wr.alloc (.cells #[.int .i64 k,.string b,.float .f64 y,.int .i64 f1,.int .i64 f2] 49)) (hl:ts.length<=100000)
  (hK:∀v1 w1,Lt w w1 g t a l c v1 (ts++[⟨k,b,y,f1,f2⟩])->K (act.put o.dst v1) w1):
  if Region.wanted o (yielded ops act.tmps)=true then Oper.wp Tryz.prog o act W K Q else K (act.put o.dst undef) W:=by
 subst hW;exact Lt.push_step hw s x ho hs hx h k b y f1 f2 hl hK
theorem TksOk.snoc(h:TksOk c ts){c':Int}{x:Tk}(hc:c'=0->c=0)(h1:x.k≠6)(h2:x.s.size<=2000)(h3:c'=0->WT x.k (bytesOf x.s)):TksOk c' (ts++[x]):=by
 refine⟨fun y hy=> ?_,fun h0 y hy=> ?_⟩
 ·rcases List.mem_append.1 hy with hy|hy
  ·exact h.1 y hy
  ·simp at hy
   subst hy;exact⟨h1,h2⟩
 ·rcases List.mem_append.1 hy with hy|hy
  ·exact h.2 (hc h0) y hy
  ·simp at hy
   subst hy;exact h3 h0
theorem TksOk.weak(h:TksOk c ts){c':Int}(hc:c'=0->c=0):TksOk c' ts:=⟨h.1,fun h0=>h.2 (hc h0)⟩
end
def LexR(w:World)(t:ByteArray)(e:Ending)(w':World):Prop:=
 ∃(v:Value) (c:Int),e = .returned (.tuple #[v,.int .i64 c])/\Below w.heap.size w w'/\
  (c=0->t.size<=2000/\∃(ts:List Tk) (x:Tk),x.k=6/\x.s.size<=2000/\ts.length<=2000/\TksOk 0 ts/\tokK.R 49 w' w.heap.size (fun _=>True) v (ts++[x]))
theorem R_litd{α:Type}(d:Kd α)(W:World)(base e:Nat){xs:List α}{inner:List Value}{ok okp:Nat->Prop}
  (hrep:Reps (d.M W base okp) d.sz xs inner) (hok:∀k,okp k->ok k) (hfresh:ok W.heap.size) (hbase:base<=W.heap.size) (hm:xs.length<=9223372036854775807):
  d.R e (W.alloc (.cells inner.toArray e)) base ok (.slice (some ⟨W.heap.size,0,none⟩) xs.length xs.length) xs:=by
 refine⟨fun k hk=> ?_,inner,?_,?_⟩
 ·have:W.heap.size=k:=by simpa[Value.ownBlock] using hk
  subst this;exact hfresh
 ·have h2:=World.ownsRow_lit (base:=base) (e:=e) (size:=d.sz) W inner.toArray xs.length hbase (by simpa[maxLen] using hm) (by simpa using hrep.1)
  simpa using h2
 ·refine hrep.imp_ (fun p c hp=>d.M_mono (fun k hk=>⟨hok k hk.1,fun he=> ?_⟩) (Kd.M_below (d.M_bound hp) (bA (bR _ _) _)))
  have h3:k=W.heap.size:=by simpa[Value.ownBlock] using he
  have:=hk.2.2.1;omega
theorem R_nild{α:Type}(d:Kd α)(W:World)(base e:Nat){ok:Nat->Prop}(hfresh:ok W.heap.size)(hbase:base<=W.heap.size):
  d.R e (W.alloc (.cells #[] e)) base ok (.slice (some ⟨W.heap.size,0,none⟩) 0 0) []:=
 R_litd d W base e (xs:=[]) (inner:=[]) (okp:=fun _=>False) (Reps.none _ _) (fun _ h=>h.elim) hfresh hbase (by simp)
section
variable {w wr w1 w2:World} {g a:Nat} {t:ByteArray} {l c:Int} {v:Value} {ts:List Tk}
theorem Lt.start(w:World)(n:Nat)(t:ByteArray):Lt w (((w.drewN n).alloc (.cells #[.string t,.int .i64 0,.int .i64 1,.int .i64 0] 81)).alloc (.cells #[] 49)) w.heap.size t 0 1 0 (.slice (some ⟨w.heap.size+1,0,none⟩) 0 0) []:=by
 refine⟨?_,?_,?_⟩
 ·exact blk_alloc (blk_new _ _) _
 ·exact bA (bA (pD (bR _ _) n) _) _
 ·have hs:((w.drewN n).alloc (.cells #[.string t,.int .i64 0,.int .i64 1,.int .i64 0] 81)).heap.size=w.heap.size+1:=by simp
  have:=R_nild tokK ((w.drewN n).alloc (.cells #[.string t,.int .i64 0,.int .i64 1,.int .i64 0] 81)) w.heap.size 49 (ok:=fun _=>True) trivial (by omega);rw[hs] at this;exact this
set_option maxRecDepth 8000 in
set_option maxHeartbeats 4000000 in
theorem lexTokens_any(t:ByteArray)(w:World):Calls Tryz.prog 15 #[.string t] w fun e w'=>LexR w t e w':=by
 obtain⟨b,hb,hcall⟩:=open_q t w;have HB:=aM hb;have HCALL:=aM hcall;clear hb hcall;go_enter Tryz.func15,Tryz.ntmps15
 go_wp2_with fail;refine HCALL.out.mono ?_;rintro e w' ⟨rfl,n,rfl⟩;clear HCALL
 cases b with
 |true=>
  go_wp2_with fail;refine ret2 (v1:= .slice none 0 0) (v2:= .int .i64 2) Tryz.results15 rfl rfl ?_;exact⟨_,_,rfl,pD (bR _ _) n,fun h=>by cases h⟩
 |false=>
  have hn:=HB.out rfl;clear HB;have HT:=aM (Lt.start w n t);go_wp2_with fail;go_loopg [5] t.size (fun k v wr=>∃(a:Nat) (l c:Int) (ts:List Tk),k=t.size-a/\a<=t.size/\ts.length<=a/\Aside0 (TksOk c ts)/\Aside0 (Lt w wr w.heap.size t a l c v ts))
  case atStart=>exact⟨0,1,0,[],rfl,by omega,by simp,⟨⟨fun x hx=>by simp at hx,fun _ x hx=>by simp at hx⟩⟩,HT⟩
  case round=>
   clear HT;obtain⟨a,l,c,ts,hk,ha,hl,HOK,H⟩:=hrel;have c3:=H.out.s.c3;obtain⟨b,hb⟩:∃b:Bool,(c==0)=b:=⟨_,rfl⟩;go_upto_region 5 with fail
   go_cut [21] from 12 to 22 (fun v wc=>∃b:Bool,v = .bool b/\Aside0 (b=true->c=0/\a<t.size)/\Aside0 (Lt w wc w.heap.size t a l c _ ts))
   case first=>
    cases b with
    |false=>
     go_wp2_with fail;go_meet
     case rel=>exact⟨false,rfl,⟨fun h=>by cases h⟩,H⟩
    |true=>
     go_wp2_with fail;refine(isDone_q H.out.s).mono ?_;rintro e w3 ⟨rfl,hd⟩;have H2:=aM (H.out.drawn hd);clear hd;obtain⟨b2,hb2⟩:∃b:Bool,decide (t.size<=a)=b:=⟨_,rfl⟩;rw[hb2]
     cases b2 with
     |true=>
      go_wp2_with fail;go_meet
      case rel=>exact⟨false,rfl,⟨fun h=>by cases h⟩,H2⟩
     |false=>
      go_wp2_with fail;go_meet
      case rel=>exact⟨true,rfl,⟨fun _=>⟨eq_of_beq hb,by have:=of_decide_eq_false hb2;omega⟩⟩,H2⟩
   clear H c3 hb;obtain⟨b21,rfl,HG,H⟩:=hcut
   cases b21 with
   |false=>
    clear HG;have e2:=H.out.s.c2;have e3:=H.out.s.c3;go_upto_region 11 with fail
    go_region_held3 (fun w'=>w'.cell? ⟨w.heap.size,2,none⟩=some (.int .i64 l)/\w'.cell? ⟨w.heap.size,3,none⟩=some (.int .i64 c)) (first|exact⟨e2,e3⟩|exact⟨HP.out.s.c2,HP.out.s.c3⟩|(refine⟨?_,?_⟩<;>go_keep)) ((refine Lt.push_stepd _ (by rfl) (.tmp 48) (.tmp 58) (by rfl) (by rfl) (H.out.drawn ((Drawn0.refl _).step 1)) (by rfl) 6 ⟨#[]⟩ 0 l l (by rfl) (by omega) ?_;intro v1 w1 h1;have HP:=aM h1;clear h1))
    go_wp2_with fail;refine ret2 (v1:=v1) (v2:= .int .i64 c) Tryz.results15 rfl rfl ?_;exact⟨_,_,rfl,HP.out.b,fun h0=>⟨hn,ts,⟨6,⟨#[]⟩,0,l,l⟩,rfl,Nat.zero_le _,by omega,h0▸HOK.out,HP.out.r⟩⟩
   |true=>
    obtain⟨rfl,hlt⟩:c=0/\a<t.size:=by first|exact HG.out rfl|exact HG.out trivial
    clear HG;go_upto_region 7 with fail
    go_cut [27] from 27 to 41 (fun v wc=>∃b:Bool,v = .bool b/\Aside0 (Lt w wc w.heap.size t a l 0 _ ts))
    case first=>
     go_wp2_with fail;refine(byteAt0_q H.out.s (by omega)).mono ?_;rintro e w3 ⟨rfl,hd⟩;have H2:=aM (H.out.drawn hd);clear hd;obtain⟨b1,hb1⟩:∃b:Bool,(bt t (a:Int)==32)=b:=⟨_,rfl⟩
     cases b1 with
     |true=>
      go_wp2_with fail;go_meet
      case rel=>exact⟨_,rfl,H2⟩
     |false=>
      go_wp2_with fail;refine(byteAt0_q H2.out.s (by omega)).mono ?_;rintro e w4 ⟨rfl,hd⟩;have H3:=aM (H2.out.drawn hd);clear hd;obtain⟨b2,hb2⟩:∃b:Bool,(bt t (a:Int)==9)=b:=⟨_,rfl⟩
      cases b2 with
      |true=>
       go_wp2_with fail;go_meet
       case rel=>exact⟨_,rfl,H3⟩
      |false=>
       go_wp2_with fail;refine(byteAt0_q H3.out.s (by omega)).mono ?_;rintro e w5 ⟨rfl,hd⟩;have H4:=aM (H3.out.drawn hd);clear hd;obtain⟨b3,hb3⟩:∃b:Bool,(bt t (a:Int)==10)=b:=⟨_,rfl⟩;go_wp2_with fail;go_meet
       case rel=>exact⟨b3,rfl,H4⟩
    clear H;obtain⟨b27,rfl,H⟩:=hcut
    cases b27 with
    |true=>
     go_wp2_with fail;refine(step_any H.out.s H.out.b (Nat.le_refl _) hlt hn).mono ?_;rintro e w3 ⟨rfl,⟨lH2,hs⟩,hk⟩;have H2:=aM (H.out.step hs hk);clear hs hk;go_wp2_with fail;go_roundg (t.size-(a+1))
     case measure=>omega
     case rel=>exact⟨_,_,_,_,rfl,by omega,by omega,HOK,H2⟩
    |false=>
     go_wp2_with fail;refine(starts_q H.out.s H.out.b (Nat.le_refl _) (by omega) _ (by decide)).mono ?_;rintro e w3 ⟨rfl,hs,hk⟩;have H2:=aM (H.out.step hs hk);clear hs hk;obtain⟨b43,hb43⟩:∃b:Bool,sw t a ⟨#[45,45]⟩=b:=⟨_,rfl⟩;rw[hb43];have HB:=aM hb43;clear hb43
     cases b43 with
     |true=>
      have hle:a+2<=t.size:=by
       have:=HB.out;unfold sw at this;rw[Bool.and_eq_true] at this;exact of_decide_eq_true this.1
      go_wp2_with fail;refine(comment_any H2.out.s H2.out.b (Nat.le_refl _) hle hn).mono ?_;rintro e w4 ⟨rfl,a',l',c',h1,h2,hc,hs,hk⟩;have H3:=aM (H2.out.step hs hk);have HC:=aM hc;clear hs hk hc;go_wp2_with fail;go_roundg (t.size-a')
      case measure=>omega
      case rel=>exact⟨_,_,_,_,rfl,by omega,by omega,⟨HOK.out.weak (fun _=>rfl)⟩,H3⟩
     |false=>
      go_wp2_with fail;refine(next_any H2.out.s H2.out.b (Nat.le_refl _) hlt hn).mono ?_;rintro e w4 ⟨k,s,x,j1,j2,a',l',c',rfl,p1,p2,p3,h1,h2,hc,hs,hk⟩;have H3:=aM (H2.out.step hs hk);have HK:=aM (HOK.out.snoc (x:=⟨k,s,x,j1,j2⟩) hc p2 p1 p3);clear hs hk hc p1 p2 p3;go_wp2_with (refine Lt.push rfl (.tmp 22) (.tmp 25) rfl rfl rfl H3.out _ _ _ _ _ (by omega) ?_;intro v1 w5 h5;have H4:=aM h5;clear h5)
      go_roundg (t.size-a')
      case measure=>omega
      case rel=>exact⟨_,_,_,_,rfl,by omega,by(rw[List.length_append,List.length_singleton];omega),HK,H4⟩
end
end Go.Proofs.YtoimaaonloibfaaGreatDoor.Lx
namespace Go.Proofs.YtoimaaonloibfaaGreatDoor.Tk
open Go.RowKit W1 W2 PF Wf
inductive Lexd(res:ByteArray->Option Int):List Int->List (Int×ByteArray)->Prop
 |nil:Lexd res [] []
 |cons {g l r:List Int} {ty:Int} {s:ByteArray} {ts:List (Int×ByteArray)}:Gap g->TokAt res l ty s r->ty≠-1->l.length≠0->r.length<l.length->Lexd res r ts->Lexd res (g++l) ((ty,s)::ts)
theorem Lexd.len{res:ByteArray->Option Int}{l:List Int}{ts:List (Int×ByteArray)}(h:Lexd res l ts):ts.length<=l.length:=by
 induction h with
 |nil=>simp
 |cons _ _ _ _ h5 _ ih=>simp only[List.length_append,List.length_cons];omega
theorem info51b:(Tryz.prog.info? 51).map (fun i=>(i.zero,i.size,i.bytes))=some (some (.agg #[.int .i64 0,.string ⟨#[]⟩,.int .i64 0]),3,32):=by kernel_rfl
section
variable {w wr w1 w2:World} {k:Sk} {x:Nat} {l m:List Int} {res:ByteArray->Option Int} {v:Value} {ys:List S51}
variable {ops:Array Oper} {rest:List Oper} {o:Oper} {act:Act} {Q:Exit->Act->World->Prop}
structure Tu(w wr:World)(k:Sk)(x:Nat)(v:Value)(ys:List S51)(l:List Int):Prop where
 s:RS wr k l
 lx:Lx wr x
 b:Below w.heap.size w wr
 r:k51.R 51 wr w.heap.size (fun q=>¬k.S q/\q≠x) v ys
theorem RS.same(h:RS w k l)(hk:∀q,k.S q->w1.heap[q]? = w.heap[q]?)(hb:Below k.B w w1):RS w1 k l:=by
 obtain⟨i,r,n,lb,lr,hf,hm⟩:=h.b;have hd:=hk k.d (Sk.DS k.Sd);have hr:=hk k.row (Sk.DS k.Sr);have hss:=hk k.sr (Sk.DS k.Ss);have hg:=hk k.g k.Sg;refine⟨h.E.on hb,?_,⟨i,r,n,lb,lr,⟨hd.trans hf.d,?_,?_⟩,hm⟩,h.c⟩
 ·obtain⟨s,ln,co,h1⟩:=h.g
  exact⟨s,ln,co,hg.trans h1⟩
 ·obtain⟨A,h1,h2⟩:=hf.r
  exact⟨A,hr.trans h1,h2⟩
 ·obtain⟨p,h1⟩:=hf.s
  exact⟨p,hss.trans h1⟩
theorem Tu.below(h:Tu w wr k x v ys l)(hb:Below wr.heap.size wr w1)(hB:k.B=w.heap.size):Tu w w1 k x v ys l:=by
 obtain⟨b,hx⟩:=h.lx;exact⟨h.s.low hb h.s.slt h.s.E.lt,⟨b,(hb.block x (blk_lt hx)).trans hx⟩,h.b.trans (hb.mono h.b.size),Kd.R_below h.r hb⟩
theorem Tu.scan(h:Tu w wr k x v ys l)(hs:RS w1 k m)(hx:Lx w1 x)(hk:Ks wr w1 k x)(hB:k.B=w.heap.size):Tu w w1 k x v ys m:=
 ⟨hs,hx,h.b.trans (hB▸hk.b),Kd.R_kept h.r hk.k (fun q hq e=>e.elim hq.1 hq.2)⟩
theorem Tu.push(hgd:o.guard=none)(s y0:Operand)(ho:o.op = .call {callee:= .builtin .append,args:= #[s,y0],argTypes:= #[33,33]})
  (hs:act.eval s=v) {N:Nat} (hx:act.eval y0 = .slice (some ⟨N,0,none⟩) 1 1) (h:Tu w wr k x v ys l) (hN:wr.heap.size=N) (hB:k.B=w.heap.size) (y:S51) (hl:ys.length<=100000)
  (hK:∀v1 w1,Tu w w1 k x v1 (ys++[y]) l->wpList Tryz.prog ops Q rest (act.put o.dst v1) w1):
  wpList Tryz.prog ops Q (o::rest) act (wr.alloc (.cells #[.int .i64 y.f0,.string y.f1,.int .i64 y.f2] 51)):=by
 subst hN;have hxlt:x<wr.heap.size:=by obtain⟨b,hb⟩:=h.lx;exact blk_lt hb
 refine Kd.R_append (P:=Tryz.prog) k51 (w0:=w) w.heap.size hgd s y0 33 51 (.agg #[.int .i64 0,.string ⟨#[]⟩,.int .i64 0]) 32 ho Tryz.underlying33 info51b rfl (by decide) (by decide) v ys y [.int .i64 y.f0,.string y.f1,.int .i64 y.f2] (fun q=>¬k.S q/\q≠x) (fun _=>False) hs hx
  (k51_mkM _ _ _ _) (fun k hk=>hk.elim) (fun q hq=>⟨fun e=>by have:=h.s.slt q e;omega,by omega⟩) h.r h.b h.b.size (by omega) ?_
 intro v1 w1 hR hb hg _;have hown:∀q,v.ownBlock=some q->¬k.S q/\q≠x:=h.r.1;obtain⟨b,hxb⟩:=h.lx;refine hK v1 w1 ⟨h.s.same (fun q hq=>hg.block q (h.s.slt q hq) (fun e=>(hown q e.symm).1 hq)) ?_,⟨b,(hg.block x hxlt (fun e=>(hown x e.symm).2 rfl)).trans hxb⟩,hb,hR⟩;have hb2:Below w.heap.size wr w1:=(bR _ wr).grown hg h.b.size (fun q hq=>Kd.R_base h.r q hq);rw[hB];exact hb2
def TokR(w:World)(ts:List (Int×ByteArray))(e:Ending)(w':World):Prop:=∃(u:Value) (ys:List S51),e = .returned (.tuple #[u,.bool true])/\k51.R 51 w' w.heap.size (fun _=>True) u ys/\ys.map (fun y=>(y.f0,y.f1))=ts.map (fun p=>tkF p.1 p.2)/\Below w.heap.size w w'
set_option maxRecDepth 100000 in
set_option maxHeartbeats 8000000 in
theorem tokens_q(t:ByteArray)(ts:List (Int×ByteArray))(pe:Addr)(hn:t.size<=2000)(hc:∀y∈bytesOf t,y≠13)(hl:Lexd res (bytesOf t) ts)(h12:12<w.heap.size)(hE:w.cell? ⟨2,0,none⟩=some (.iface 181 (.pointer (some pe))))
  (hO:∀k:Sk,k.B=w.heap.size->Out w k res):Calls Tryz.prog 9 #[.string t] w fun e w'=>TokR w ts e w':=by
 have HN:=aM hn;have HC:=aM hc;have HL:=aM hl;have H12:=aM h12;have HE:=aM hE;have HO:=aM hO;clear hn hc hl h12 hE hO;go_enter Tryz.func9,Tryz.ntmps9
 go_wp2_with fail;refine(strings_NewReader.calls t t 0 (-1) w w (bR _ w) rfl).mono ?_;rintro e w5 ⟨sr,rfl,hs,hb,-⟩;have HS:=aM hs;have HB1:=aM hb;clear hs hb;go_wp2_with fail;refine(newScanner_q (sr:=sr) ⟨#[116,101,120,116]⟩).mono ?_;rintro e w6 ⟨g,d,row,A,rfl,hn,hg,hgl⟩;have HNR:=aM hn;have HG:=aM hg;have HGL:=aM hgl;clear hn hg hgl;go_wp2_with fail;have HN2:=aM (show bytesOf t=bytesOf t/\(bytesOf t).length=t.size from⟨rfl,by simp[bytesOf]⟩);have hlen:ts.length<=t.size:=by have:=HL.out.len;rw[HN2.out.2] at this;exact this
 have hwr:wrap64 ((t.size:Int)+1)=(t.size:Int)+1:=IntWalk.wrap64_in _ (by have:=HN.out;omega);rw[hwr];clear hwr;have hN:=HN.out;have hs5:w.heap.size<=w5.heap.size:=HB1.out.size;obtain⟨n1,n2,n3,n4,n5,n6⟩:=HNR.out;have hs6:w5.heap.size<=w6.heap.size:=n4.size;have hgl:=HGL.out;have hsr:w6.heap[sr]? = some (.cells #[.string t,.int .i64 0,.int .i64 (-1)] 91 (0,0)):=(n4.block sr (blk_lt HS.out.1)).trans HS.out.1;have hb6:Below w.heap.size w w6:=HB1.out.trans (n4.mono hs5);have lt1:g<w6.heap.size:=blk_lt HG.out;have lt2:d<w6.heap.size:=blk_lt n1;have lt3:row<w6.heap.size:=blk_lt n2;have lt4:sr<w6.heap.size:=blk_lt hsr;have hsr0:w.heap.size<=sr:=HS.out.2;obtain⟨k,hk⟩:∃k:Sk,k=⟨w.heap.size,g,d,row,sr,t,pe⟩:=⟨_,rfl⟩;have hkB:k.B=w.heap.size:=by rw[hk]
 have hkg:k.g=g:=by rw[hk]
 have hkS:∀q,k.S q->w.heap.size<=q/\q<w6.heap.size:=by
  rw[hk];rintro q (rfl|rfl|rfl|rfl)
  ·exact⟨by omega,lt1⟩
  ·exact⟨by omega,lt2⟩
  ·exact⟨by omega,lt3⟩
  ·exact⟨hsr0,lt4⟩
 have hEnv:Env w k:=⟨by rw[hk];exact hN,fun q hq=>by rw[hkB];exact(hkS q hq).1,by rw[hkB];exact H12.out,by rw[hk];exact HE.out,by rw[hkB];exact Nat.le_refl _⟩;have hRS:RS w6 k (bytesOf t):=by
  refine⟨hEnv.on (hkB▸hb6),⟨⟨#[116,101,120,116]⟩,1,0,?_⟩,⟨0,0,0,-1,-1,⟨?_,⟨A,?_,n3,fun j hj=>absurd hj (by omega)⟩,⟨-1,?_⟩⟩,.inl ⟨rfl,rfl,rfl,by rw[hk]⟩⟩,HC.out⟩
  ·rw[hk];exact HG.out
  ·rw[hk];exact n1
  ·rw[hk];exact n2
  ·rw[hk];exact hsr
 have hTu:Tu w ((w6.alloc (.cells #[.pointer none,.slice none 0 0,.bool false,.int .i64 0,.string ⟨#[]⟩,.string ⟨#[]⟩,.string ⟨#[]⟩,.int .i64 0,.int .i64 0,.int .i64 0] 63)).alloc (.cells #[] 51)) k w6.heap.size (.slice (some ⟨w6.heap.size+1,0,none⟩) 0 0) [] (bytesOf t):=by
  have hbb:Below w6.heap.size w6 ((w6.alloc (.cells #[.pointer none,.slice none 0 0,.bool false,.int .i64 0,.string ⟨#[]⟩,.string ⟨#[]⟩,.string ⟨#[]⟩,.int .i64 0,.int .i64 0,.int .i64 0] 63)).alloc (.cells #[] 51)):=bA (bA (bR _ _) _) _;refine⟨hRS.low hbb (fun q hq=>(hkS q hq).2) (by rw[hkB];omega),⟨false,blk_alloc (blk_new _ _) _⟩,hb6.trans (hbb.mono (by omega)),?_⟩;have:=Go.Proofs.YtoimaaonloibfaaGreatDoor.Lx.R_nild k51 (w6.alloc (.cells #[.pointer none,.slice none 0 0,.bool false,.int .i64 0,.string ⟨#[]⟩,.string ⟨#[]⟩,.string ⟨#[]⟩,.int .i64 0,.int .i64 0,.int .i64 0] 63)) w.heap.size 51 (ok:=fun q=>¬k.S q/\q≠w6.heap.size) ⟨fun e=>by have:=(hkS _ e).2;rw[World.size_alloc] at this;omega,by rw[World.size_alloc];omega⟩ (by rw[World.size_alloc];omega);rw[World.size_alloc] at this;exact this
 have HTU:=aM hTu;have HKB:=aM hkB;have HKS:=aM hkS;have HO2:=aM (HO.out k hkB);have HLEN:=aM hlen;have HX0:=aM (show w.heap.size<=w6.heap.size by omega);rw[<-hkg];clear hTu hRS hEnv hkS hk hkB hkg lt1 lt2 lt3 lt4 hsr hsr0 hb6 hgl hs6 n1 n2 n3 n4 n5 n6 hs5 HO HS HB1 HNR HG HGL HN2 hlen;generalize w6.heap.size=x at HTU HX0|-;go_loopg [6,20] ts.length (fun gk v6 v20 wr=>∃(i:Nat) (ys:List S51) (l:List Int) (rs:List (Int×ByteArray)),v20 = .int .i64 (i:Int)/\gk=ts.length-i/\i+rs.length=ts.length/\ys.length=i/\Aside0 (Lexd res l rs)/\Aside0 (ys.map (fun y=>(y.f0,y.f1))++rs.map (fun p=>tkF p.1 p.2)=ts.map (fun p=>tkF p.1 p.2))/\Aside0 (Tu w wr k x v6 ys l))
 case atStart=>exact⟨0,[],bytesOf t,ts,rfl,rfl,by omega,rfl,HL,⟨by simp⟩,HTU⟩
 case round=>
  clear HTU HL HC;obtain⟨i,ys,l,rs,rfl,hk,hi,hys,HL,HM,HU⟩:=hrel;have hlt:(i:Int)<(t.size:Int)+1:=by have:=HLEN.out;omega
  have HSC:=aM (fun(gl l2 r2:List Int) (ty:Int) (sy:ByteArray) (w1:World) (hg:Gap gl) (ht:TokAt res l2 ty sy r2) (h:RS w1 k (gl++l2)) (hx:Lx w1 x) (hb:Below w.heap.size w w1)=>scan_q hg ht h hx (by rw[HKB.out];exact HX0.out) (HO2.out.on (by rw[HKB.out];exact hb) (by rw[HKB.out];exact H12.out)))
  match rs,hi,HL,HM with
  |[],hi,HL,HM=>
   have hl:l=[]:=by cases HL.out;rfl
   subst hl;go_wp2_with fail;refine(HSC.out [] [] [] _ _ wr .nil .eof HU.out.s HU.out.lx HU.out.b).mono ?_;rintro e w7 ⟨⟨nm,p,i1,c1,rfl⟩,hs,hx,hks⟩;have HU2:=aM (HU.out.scan hs hx hks HKB.out);clear hs hx hks;go_wp2_with fail;refine Go.Proofs.YtoimaaonloibfaaGreatDoor.Lx.ret2 (v1:=u6) (v2:= .bool true) Tryz.results9 rfl rfl ?_;exact⟨u6,ys,rfl,Kd.R_below (Kd.R_flat (fun h=>by rw[k51_openM h];exact k51_mkM _ _ _ _) HU2.out.r (fun _ _ _=>trivial)) (bA (bR _ _) _),by have:=HM.out;simpa using this,bA HU2.out.b _⟩
  |(ty,sy)::rs,hi,HL,HM=>
   obtain⟨gl,l2,r2,hg,ht,hne,rfl,hL2⟩:∃gl l2 r2,Gap gl/\TokAt res l2 ty sy r2/\ty≠-1/\l=gl++l2/\Lexd res r2 rs:=by
    cases HL.out with
    |cons h1 h2 h3 _ _ h6=>exact⟨_,_,_,h1,h2,h3,rfl,h6⟩
   have hne2:¬ty = -1:=hne;have HT:=aM ht;have HL2:=aM hL2;have HG:=aM hg;clear hL2 hg hne ht HL;have htl:=HT.out.ty_le HO2.out.b;have HTK:=aM (fun(w1:World)=>token_q (w:=w1) ty sy htl.1 htl.2);clear htl;go_wp2_with fail;refine(HSC.out gl l2 r2 _ _ wr HG.out HT.out HU.out.s HU.out.lx HU.out.b).mono ?_;rintro e w7 ⟨⟨nm,p,i1,c1,rfl⟩,hs,hx,hks⟩;have HU2:=aM (HU.out.scan hs hx hks HKB.out);clear hs hx hks HU;have hb7:Below w7.heap.size w7 (w7.alloc (.cells #[.int .i64 ty,.string nm,.string sy,.string p,.int .i64 i1,.int .i64 c1] 61)):=bA (bR _ _) _;have HU3:=aM (HU2.out.below hb7 HKB.out);have HT7:=aM (blk_new w7 (.cells #[.int .i64 ty,.string nm,.string sy,.string p,.int .i64 i1,.int .i64 c1] 61));clear hb7 HU2;go_wp2_with fail;refine(HTK.out _).mono ?_;rintro e w8 ⟨rfl,hb⟩;have HU4:=aM (HU3.out.below hb HKB.out);have hT8:w8.heap[w7.heap.size]? = some (.cells #[.int .i64 ty,.string nm,.string sy,.string p,.int .i64 i1,.int .i64 c1] 61 (0,0)):=(hb.block _ (blk_lt HT7.out)).trans HT7.out;clear hb HU3 HTK HT7 HSC HT;have hlt7:¬w8.heap.size=w7.heap.size:=by have:=blk_lt hT8;omega
   generalize w7.heap.size=T at hT8 hlt7|-;have t4:(w8.alloc (.cells #[.int .i64 (tkF ty sy).1,.string (tkF ty sy).2,.int .i64 0] 51)).cell? ⟨T,4,none⟩=some (.int .i64 i1):=bC (blk_alloc hT8 _) 4;have HU5:=aM (HU4.out.below (bA (bR _ w8) (.cells #[.int .i64 (tkF ty sy).1,.string (tkF ty sy).2,.int .i64 i1] 51)) HKB.out);clear hT8;have hysz:ys.length<=100000:=by have:=HLEN.out;omega
   go_wp2_with (at_builtin;refine Tu.push rfl (.tmp 43) (.tmp 45) (by rfl) (by rfl) (by rfl) HU5.out (by simp) HKB.out ⟨(tkF ty sy).1,(tkF ty sy).2,i1⟩ hysz ?_;intro v1 w9 h9;have HU6:=aM h9;clear h9)
   go_roundg (ts.length-(i+1))
   case measure=>simp only[List.length_cons] at hi;omega
   case rel=>exact⟨i+1,_,r2,rs,rfl,rfl,by simp only[List.length_cons] at hi;omega,by rw[List.length_append,List.length_singleton,hys],HL2,⟨by have:=HM.out;simpa using this⟩,HU6⟩
end
end Go.Proofs.YtoimaaonloibfaaGreatDoor.Tk
namespace Go.Proofs.YtoimaaonloibfaaGreatDoor.Lx
open Go.RowKit W1 W2 PF Wf
attribute [local go_sem] run_store_float
def zTk:Tk:=⟨0,⟨#[]⟩,0,0,0⟩
def rdTk(xs:List Tk)(i:Int):Tk:=xs.getD i.toNat zTk
theorem at_tok{w:World}{A:Option Addr}{n:Nat}{xs:List Tk}(h:Kd.C tokK w A n xs)(i:Int)(h0:0<=i)(h1:i<n):∃ad,A=some ad/\w.cell? (ad.add (i.toNat*5))=some (.int .i64 (rdTk xs i).k)/\w.cell? ⟨(ad.add (i.toNat*5)).block,(ad.add (i.toNat*5)).off+1,none⟩=some (.string (rdTk xs i).s)/\w.cell? ⟨(ad.add (i.toNat*5)).block,(ad.add (i.toNat*5)).off+2,none⟩=some (.float .f64 (rdTk xs i).x)/\w.cell? ⟨(ad.add (i.toNat*5)).block,(ad.add (i.toNat*5)).off+3,none⟩=some (.int .i64 (rdTk xs i).f1)/\w.cell? ⟨(ad.add (i.toNat*5)).block,(ad.add (i.toNat*5)).off+4,none⟩=some (.int .i64 (rdTk xs i).f2):=by
 obtain⟨ad,c,e,_,hK,hc0⟩:=Kd.C_get h zTk i h0 h1;have hc:∀j u,c[j]? = some u->w.cell? (ad.add (i.toNat*5+j))=some u:=hc0;have hK2:c=(rdTk xs i).cells:=hK;subst hK2;exact⟨ad,e,hc 0 _ rfl,by rw[<-add_field _ _ 1 (by omega)];exact hc 1 _ rfl,by rw[<-add_field _ _ 2 (by omega)];exact hc 2 _ rfl,by rw[<-add_field _ _ 3 (by omega)];exact hc 3 _ rfl,by rw[<-add_field _ _ 4 (by omega)];exact hc 4 _ rfl⟩
theorem info51:(Tryz.prog.info? 51).map (fun i=>(i.zero,i.size,i.bytes))=some (some (.agg #[.int .i64 0,.string ⟨#[]⟩,.int .i64 0]),3,32):=by kernel_rfl
structure Lm(w wr:World)(v:Value)(ys:List S51):Prop where
 b:Below w.heap.size w wr
 r:k51.R 51 wr w.heap.size (fun _=>True) v ys
section
variable {w wr w1 w2:World} {v:Value} {ys:List S51}
variable {ops:Array Oper} {rest:List Oper} {o:Oper} {act:Act} {Q:Exit->Act->World->Prop}
theorem Lm.alloc(h:Lm w wr v ys)(o:Obj):Lm w (wr.alloc o) v ys:=⟨bA h.b o,Kd.R_below h.r (bA (bR _ _) o)⟩
theorem Lm.push(hgd:o.guard=none)(s x:Operand)(ho:o.op = .call {callee:= .builtin .append,args:= #[s,x],argTypes:= #[33,33]})
  (hs:act.eval s=v) {N:Nat} (hx:act.eval x = .slice (some ⟨N,0,none⟩) 1 1) (h:Lm w wr v ys) (hN:wr.heap.size=N) (y:S51) (hl:ys.length<=100000)
  (hK:∀v1 w1,Lm w w1 v1 (ys++[y])->wpList Tryz.prog ops Q rest (act.put o.dst v1) w1):
  wpList Tryz.prog ops Q (o::rest) act (wr.alloc (.cells #[.int .i64 y.f0,.string y.f1,.int .i64 y.f2] 51)):=by
 subst hN;refine Kd.R_append (P:=Tryz.prog) k51 (w0:=w) w.heap.size hgd s x 33 51 (.agg #[.int .i64 0,.string ⟨#[]⟩,.int .i64 0]) 32 ho Tryz.underlying33 info51 rfl (by decide) (by decide) v ys y [.int .i64 y.f0,.string y.f1,.int .i64 y.f2] (fun _=>True) (fun _=>False) hs hx
  (k51_mkM _ _ _ _) (fun k hk=>hk.elim) (fun k hk=>trivial) h.r h.b h.b.size (by omega) ?_
 intro v1 w1 hR hb hg _;exact hK v1 w1 ⟨hb,hR⟩
set_option maxRecDepth 8000 in
set_option maxHeartbeats 4000000 in
theorem lexemes_any(t:ByteArray)(w:World):Calls Tryz.prog 8 #[.string t] w fun e w'=>∃(v:Value) (c:Int),e = .returned (.tuple #[v,.int .i64 c])/\Below w.heap.size w w'/\(c=0->t.size<=2000):=by
 go_enter Tryz.func8,Tryz.ntmps8
 go_wp2_with fail;refine(lexTokens_any t w).mono ?_;rintro e w1 ⟨v,c,rfl,hb,hc⟩;have HB:=aM hb;clear hb
 by_cases h0:c=0
 ·subst h0
  obtain⟨hn,ts,x,hx6,_,hl,hok,hR⟩:=hc rfl;have hlen:(ts++[x]).length=ts.length+1:=by simp
  obtain⟨A,cp,rfl⟩:=Kd.R_slice hR;have HC:=aM (Kd.R_reads' hR).2.2;have hcap:=(Kd.R_reads' hR).2.1;rw[hlen] at hcap HC|-;obtain⟨ad,rfl,_⟩:=at_tok HC.out 0 (by omega) (by omega)
  have q:IntKind.i64.wrap (((ts.length+1:Nat):Int)-1)=(ts.length:Int):=by rw[IntWalk.i64_in _ (by omega)];omega
  have hcI:(ts.length:Int)<=(cp:Int):=by omega
  have hcI2:¬(cp:Int)<(ts.length:Int):=by omega
  have hcN:ts.length<=cp:=by omega
  have hcp0:¬cp=0:=by omega
  have hl0:(0:Int)<=(ts.length:Int):=by omega
  clear hc hok hx6;go_wp2_with fail;have HL:=aM (show Lm w1 (w1.alloc (.cells #[] 51)) (.slice (some ⟨w1.heap.size,0,none⟩) 0 0) [] from⟨bA (bR _ _) _,R_nild k51 w1 w1.heap.size 51 trivial (Nat.le_refl _)⟩);go_loopg [6,24] ts.length (fun k v6 v24 wr=>∃(i:Nat) (ys:List S51),v24 = .int .i64 (i:Int)/\k=ts.length-i/\i<=ts.length/\ys.length=i/\Aside0 (Lm w1 wr v6 ys))
  case atStart=>exact⟨0,[],rfl,rfl,by omega,rfl,HL⟩
  case round=>
   clear HL;obtain⟨i,ys,rfl,hk,hi,hys,H⟩:=hrel
   by_cases hlt:i<ts.length
   ·have hltI:(i:Int)<(ts.length:Int):=by omega
    have h0I:(0:Int)<=(i:Int):=by omega
    have qi:IntKind.i64.wrap ((i:Int)+1)=((i+1:Nat):Int):=by rw[IntWalk.i64_in _ (by omega)];omega
    obtain⟨ad',he,x0,x1,x2,x3,x4⟩:=at_tok (Kd.C_below HC.out H.out.b) (i:Int) (by omega) (by omega)
    cases he
    have hitn:(i:Int).toNat=i:=by omega
    rw[hitn] at x0 x1 x2 x3 x4;generalize rdTk (ts++[x]) (i:Int)=tk at x0 x1 x2 x3 x4;go_wp2_with (at_builtin;refine Lm.push rfl (.tmp 28) (.tmp 36) (by rfl) (by rfl) (by rfl) (H.out.alloc _) (by simp) ⟨tk.k,tk.s,tk.f1⟩ (by omega) ?_;intro v1 w5 h5;have H4:=aM h5;clear h5)
    go_roundg (ts.length-(i+1))
    case measure=>omega
    case rel=>exact⟨i+1,_,rfl,rfl,by omega,by(rw[List.length_append,List.length_singleton];omega),H4⟩
   ·have hltI:¬(i:Int)<(ts.length:Int):=by omega
    go_wp2_with fail;refine ret2 (v1:=u6) (v2:= .int .i64 0) Tryz.results8 rfl rfl ?_;exact⟨⟨_,_,rfl⟩,HB.out.trans (H.out.b.mono HB.out.size)⟩
 ·have h0b:(c==0)=false:=beq_eq_false_iff_ne.2 h0
  have h0c:(c != 0)=true:=bne_iff_ne.2 h0;clear hc;go_wp2_with fail;refine ret2 (v1:= .slice none 0 0) (v2:= .int .i64 c) Tryz.results8 rfl rfl ?_;exact⟨_,_,rfl,bA HB.out _,fun h=>absurd h h0⟩
end
end Go.Proofs.YtoimaaonloibfaaGreatDoor.Lx
namespace Go.Proofs.YtoimaaonloibfaaGreatDoor.Pa
open Go.RowKit W1 W2 PF Wf Lx
structure Nd where
 k:Int
 s:ByteArray
 x:Nat
 n:Int
 b:Bool
 names:List ByteArray
 kids:List Nd
def zNd:Nd:=⟨0,⟨#[]⟩,0,0,false,[],[]⟩
mutual
/-- How many nodes and names a tree has. -/
def Nd.wt:Nd->Nat
 |⟨_,_,_,_,_,ns,ks⟩=>1+ns.length+wts ks
def wts:List Nd->Nat
 |[]=>0
 |x::r=>x.wt+wts r
end
theorem wt_eq(x:Nd):x.wt=1+x.names.length+wts x.kids:=by
 cases x
 simp only[Nd.wt]
theorem wts_append(xs ys:List Nd):wts (xs++ys)=wts xs+wts ys:=by
 induction xs with
 |nil=>simp[wts]
 |cons x r ih=>simp[wts,ih,Nat.add_assoc]
theorem wts_mem{x:Nd}{xs:List Nd}(h:x∈xs):x.wt<=wts xs:=by
 induction xs with
 |nil=>simp at h
 |cons y r ih=>
  simp only[wts];rcases List.mem_cons.1 h with rfl|h
  ·omega
  ·have:=ih h;omega
theorem wts_len(xs:List Nd):xs.length<=wts xs:=by
 induction xs with
 |nil=>simp[wts]
 |cons y r ih=>
  simp only[wts,List.length_cons];have:=wt_eq y;omega
def flt:Kd Nat:=Kd.scalar (fun x=> .float .f64 x) (fun _=>rfl)
def nodeF(d:Kd Nd):Kd Nd:=Kd.iso (Kd.pair (Kd.int .i64) (Kd.pair Kd.string (Kd.pair flt (Kd.pair (Kd.int .i64) (Kd.pair Kd.bool (Kd.pair (Kd.slice 9 Kd.string) (Kd.slice 27 d))))))) (fun x:Nd=>(x.k,x.s,x.x,x.n,x.b,x.names,x.kids))
theorem nodeF_mono:Kd.Mono nodeF:=Kd.mono_iso _ (Kd.mono_pair (Kd.mono_const _) (Kd.mono_pair (Kd.mono_const _) (Kd.mono_pair (Kd.mono_const _) (Kd.mono_pair (Kd.mono_const _) (Kd.mono_pair (Kd.mono_const _) (Kd.mono_pair (Kd.mono_const _) (Kd.mono_slice 27 Kd.mono_id)))))))
theorem nodeF_sz(d:Kd Nd):(nodeF d).sz=7:=rfl
theorem nodeF_sub:Kd.Sub nodeF [9,27]:=by
 intro d h q hq;have hq2:q∈([9]:List Nat)\/q∈(27::d.E):=by
  have:q∈([]++([]++([]++([]++([]++([9]++27::d.E)))))):=hq
  simpa using this
 rcases hq2 with hq|hq
 ·simp at hq
  simp[hq]
 ·rcases List.mem_cons.1 hq with rfl|hq
  ·simp
  ·exact h q hq
theorem node_hs:∀n,(Kd.upto nodeF 7 [9,27] n).sz=7:=Kd.upto_sz nodeF_sz
theorem node_hE:∀n q,q∈(Kd.upto nodeF 7 [9,27] n).E->q∈[9,27]:=Kd.upto_E nodeF_sub
def nodeK:Kd Nd:=Kd.fix nodeF 7 [9,27] node_hs node_hE
theorem nodeK_sz:nodeK.sz=7:=rfl
theorem nodeK_E:nodeK.E=[9,27]:=rfl
section
variable {w:World} {base:Nat} {ok:Nat->Prop} {x:Nd} {cs:List Value}
theorem node_openM(h:nodeK.M w base ok x cs):∃vn vk,cs=[.int .i64 x.k,.string x.s,.float .f64 x.x,.int .i64 x.n,.bool x.b,vn,vk]/\Kd.string.R 9 w base ok vn x.names/\nodeK.R 27 w base ok vk x.kids:=by
 obtain⟨n,h⟩:=h
 cases n with
 |zero=>exact h.elim
 |succ n=>
  obtain⟨_,_,rfl,rfl,⟨_,_,rfl,rfl,⟨_,_,rfl,rfl,⟨_,_,rfl,rfl,⟨_,_,rfl,rfl,⟨_,_,rfl,⟨vn,rfl,hn⟩,⟨vk,rfl,hk⟩⟩⟩⟩⟩⟩⟩:=h;exact⟨vn,vk,rfl,hn,Kd.fix_R hk⟩
theorem node_mkM{vn vk:Value}(hn:Kd.string.R 9 w base ok vn x.names)(hk:nodeK.R 27 w base ok vk x.kids):nodeK.M w base ok x [.int .i64 x.k,.string x.s,.float .f64 x.x,.int .i64 x.n,.bool x.b,vn,vk]:=by
 obtain⟨n,hk⟩:=Kd.fix_R_back nodeF_mono hk;exact⟨n+1,[_],_,rfl,rfl,[_],_,rfl,rfl,[_],_,rfl,rfl,[_],_,rfl,rfl,[_],_,rfl,rfl,[_],[_],rfl,⟨vn,rfl,hn⟩,⟨vk,rfl,hk⟩⟩
theorem node_openK(h:nodeK.K w x cs):∃An cn Ak ck,cs=[.int .i64 x.k,.string x.s,.float .f64 x.x,.int .i64 x.n,.bool x.b,.slice An x.names.length cn,.slice Ak x.kids.length ck]/\x.names.length<=cn/\Kd.string.C w An x.names.length x.names/\x.kids.length<=ck/\nodeK.C w Ak x.kids.length x.kids:=by
 obtain⟨n,h⟩:=h
 cases n with
 |zero=>exact h.elim
 |succ n=>
  obtain⟨_,_,rfl,rfl,⟨_,_,rfl,rfl,⟨_,_,rfl,rfl,⟨_,_,rfl,rfl,⟨_,_,rfl,rfl,⟨_,_,rfl,⟨An,cn,rfl,hl,hn⟩,⟨Ak,ck,rfl,hl2,hk⟩⟩⟩⟩⟩⟩⟩:=h;exact⟨An,cn,Ak,ck,rfl,hl,hn,hl2,Kd.fix_C hk⟩
theorem node_mkK{An Ak:Option Addr}{cn ck:Nat}(hl:x.names.length<=cn)(hn:Kd.string.C w An x.names.length x.names)(hl2:x.kids.length<=ck)(hk:nodeK.C w Ak x.kids.length x.kids):nodeK.K w x [.int .i64 x.k,.string x.s,.float .f64 x.x,.int .i64 x.n,.bool x.b,.slice An x.names.length cn,.slice Ak x.kids.length ck]:=by
 obtain⟨n,hk⟩:=Kd.fix_C_back nodeF_mono hk;exact⟨n+1,[_],_,rfl,rfl,[_],_,rfl,rfl,[_],_,rfl,rfl,[_],_,rfl,rfl,[_],_,rfl,rfl,[_],[_],rfl,⟨An,cn,rfl,hl,hn⟩,⟨Ak,ck,rfl,hl2,hk⟩⟩
end
inductive Srt where
 |e|f|s|b
def NameT(s:ByteArray):Prop:=Ident (bytesOf s)/\bytesOf s∉wordsL/\bytesOf s≠gotoL
def Tx(x:Nd):Prop:=x.s.size<=2000/\(x.k=23->NumT (bytesOf x.s))/\(x.k=27\/x.k=30->NameT x.s)/\(x.k=31\/x.k=32->bytesOf x.s∈wordsL\/bytesOf x.s∈signsL)/\∀nm∈x.names,NameT nm/\nm.size<=2000
inductive Ok(g:Prop):Srt->Nd->Prop
 |block {x:Nd}:x.k=1->(g->Tx x)->(∀y∈x.kids,Ok g .s y)->Ok g .b x
 |loc {x:Nd}:x.k=2->(g->Tx x)->(∀y∈x.kids,Ok g .e y)->Ok g .s x
 |asg {x:Nd} (m:Nat):x.k=3->(g->Tx x)->(∀y∈x.kids,Ok g .e y)->x.n=(m:Int)->m<=x.kids.length->Ok g .s x
 |cst {x:Nd} {y:Nd}:x.k=4->(g->Tx x)->x.kids=[y]->Ok g .e y->Ok g .s x
 |doo {x:Nd} {y:Nd}:x.k=5->(g->Tx x)->x.kids=[y]->Ok g .b y->Ok g .s x
 |whil {x:Nd} {y z:Nd}:x.k=6->(g->Tx x)->x.kids=[y,z]->Ok g .e y->Ok g .b z->Ok g .s x
 |rep {x:Nd} {y z:Nd}:x.k=7->(g->Tx x)->x.kids=[y,z]->Ok g .b y->Ok g .e z->Ok g .s x
 |iff {x:Nd}:x.k=8->(g->Tx x)->(∀i y,x.kids[i]? = some y->Ok g (if i%2=0/\i+1<x.kids.length then .e else .b) y)->Ok g .s x
 |forn {x:Nd} {ys:List Nd} {z:Nd}:x.k=9->(g->Tx x)->x.names≠[]->x.kids=ys++[z]->x.n=(ys.length:Int)->(∀y∈ys,Ok g .e y)->Ok g .b z->Ok g .s x
 |fori {x:Nd} {ys:List Nd} {z:Nd}:x.k=10->(g->Tx x)->x.kids=ys++[z]->x.n=(ys.length:Int)->(∀y∈ys,Ok g .e y)->Ok g .b z->Ok g .s x
 |lfn {x:Nd} {y:Nd}:x.k=11->(g->Tx x)->x.names≠[]->x.kids=[y]->y.k=26->Ok g .e y->Ok g .s x
 |ret {x:Nd}:x.k=12->(g->Tx x)->(∀y∈x.kids,Ok g .e y)->Ok g .s x
 |brk {x:Nd}:x.k=13->(g->Tx x)->Ok g .s x
 |atom {x:Nd}:x.k=20\/x.k=21\/x.k=22\/x.k=23\/x.k=24\/x.k=25\/x.k=27->(g->Tx x)->Ok g .e x
 |fn {x:Nd} {y:Nd}:x.k=26->(g->Tx x)->x.kids=[y]->Ok g .b y->Ok g .e x
 |ix {x:Nd} {y z:Nd}:x.k=28->(g->Tx x)->x.kids=[y,z]->Ok g .e y->Ok g .e z->Ok g .e x
 |call {x:Nd} {y:Nd} {zs:List Nd}:x.k=29\/x.k=30->(g->Tx x)->x.kids=y::zs->Ok g .e y->(∀z∈zs,Ok g .e z)->Ok g .e x
 |bin {x:Nd} {y z:Nd}:x.k=31->(g->Tx x)->x.kids=[y,z]->Ok g .e y->Ok g .e z->Ok g .e x
 |un {x:Nd} {y:Nd}:x.k=32\/x.k=33->(g->Tx x)->x.kids=[y]->Ok g .e y->Ok g .e x
 |tab {x:Nd}:x.k=34->(g->Tx x)->(∀y∈x.kids,Ok g .f y)->Ok g .e x
 |item {x:Nd} {y:Nd}:x.k=35->(g->Tx x)->x.kids=[y]->Ok g .e y->Ok g .f x
 |par {x:Nd} {y z:Nd}:x.k=36->(g->Tx x)->x.kids=[y,z]->Ok g .e y->Ok g .e z->Ok g .f x
theorem Ok.mono{g g':Prop}(hg:g'->g){s:Srt}{x:Nd}(h:Ok g s x):Ok g' s x:=by
 induction h with
 |block h1 h2 _ ih=>exact .block h1 (fun h=>h2 (hg h)) ih
 |loc h1 h2 _ ih=>exact .loc h1 (fun h=>h2 (hg h)) ih
 |asg m h1 h2 _ h4 h5 ih=>exact .asg m h1 (fun h=>h2 (hg h)) ih h4 h5
 |cst h1 h2 h3 _ ih=>exact .cst h1 (fun h=>h2 (hg h)) h3 ih
 |doo h1 h2 h3 _ ih=>exact .doo h1 (fun h=>h2 (hg h)) h3 ih
 |whil h1 h2 h3 _ _ ih ih2=>exact .whil h1 (fun h=>h2 (hg h)) h3 ih ih2
 |rep h1 h2 h3 _ _ ih ih2=>exact .rep h1 (fun h=>h2 (hg h)) h3 ih ih2
 |iff h1 h2 _ ih=>exact .iff h1 (fun h=>h2 (hg h)) ih
 |forn h1 h2 h3 h4 h5 _ _ ih ih2=>exact .forn h1 (fun h=>h2 (hg h)) h3 h4 h5 ih ih2
 |fori h1 h2 h4 h5 _ _ ih ih2=>exact .fori h1 (fun h=>h2 (hg h)) h4 h5 ih ih2
 |lfn h1 h2 h3 h4 h5 _ ih=>exact .lfn h1 (fun h=>h2 (hg h)) h3 h4 h5 ih
 |ret h1 h2 _ ih=>exact .ret h1 (fun h=>h2 (hg h)) ih
 |brk h1 h2=>exact .brk h1 (fun h=>h2 (hg h))
 |atom h1 h2=>exact .atom h1 (fun h=>h2 (hg h))
 |fn h1 h2 h3 _ ih=>exact .fn h1 (fun h=>h2 (hg h)) h3 ih
 |ix h1 h2 h3 _ _ ih ih2=>exact .ix h1 (fun h=>h2 (hg h)) h3 ih ih2
 |call h1 h2 h3 _ _ ih ih2=>exact .call h1 (fun h=>h2 (hg h)) h3 ih ih2
 |bin h1 h2 h3 _ _ ih ih2=>exact .bin h1 (fun h=>h2 (hg h)) h3 ih ih2
 |un h1 h2 h3 _ ih=>exact .un h1 (fun h=>h2 (hg h)) h3 ih
 |tab h1 h2 _ ih=>exact .tab h1 (fun h=>h2 (hg h)) ih
 |item h1 h2 h3 _ ih=>exact .item h1 (fun h=>h2 (hg h)) h3 ih
 |par h1 h2 h3 _ _ ih ih2=>exact .par h1 (fun h=>h2 (hg h)) h3 ih ih2
theorem info27:(Tryz.prog.info? 27).map (fun i=>(i.zero,i.size,i.bytes))=some (some (.agg #[.int .i64 0,.string ⟨#[]⟩,.float .f64 0,.int .i64 0,.bool false,.slice none 0 0,.slice none 0 0]),7,96):=by kernel_rfl
theorem fld49_0(a b c d e:Value)(w:World):(Instr.field 49 (.agg #[a,b,c,d,e]) 0).run Tryz.prog w = .ok a w:=by simp[Instr.field,asAgg,go_sem]
theorem fld49_1(a b c d e:Value)(w:World):(Instr.field 49 (.agg #[a,b,c,d,e]) 1).run Tryz.prog w = .ok b w:=by simp[Instr.field,asAgg,go_sem]
theorem fld49_3(a b c d e:Value)(w:World):(Instr.field 49 (.agg #[a,b,c,d,e]) 3).run Tryz.prog w = .ok d w:=by simp[Instr.field,asAgg,go_sem]
attribute [local go_sem] run_store_float fld49_0 fld49_1 fld49_3
structure Env where
 w0:World
 g:Nat
 tb:Nat
 TB:Obj
 ad:Addr
 cp:Nat
 toks:List Tk
def Env.n(E:Env):Nat:=E.toks.length
def Env.tk(E:Env)(i:Nat):Tk:=rdTk E.toks (i:Int)
structure Env.Fine(E:Env):Prop where
 ne:E.tb≠E.g
 hg:E.w0.heap.size<=E.g
 cap:E.n<=E.cp
 ok:∀w:World,w.heap[E.tb]? = some E.TB->Kd.C tokK w (some E.ad) E.n E.toks
 pos:0<E.n
 len:E.n<=2001
 last:(E.tk (E.n-1)).k=6
 mid:∀i:Nat,i+1<E.n->(E.tk i).k≠6
 size:∀i:Nat,(E.tk i).s.size<=2000
 wt:∀i:Nat,i+1<E.n->WT (E.tk i).k (bytesOf (E.tk i).s)
def Ps(E:Env)(w:World)(a:Nat)(c:Int):Prop:=∃(va:Bool) (lo:Int),w.heap[E.g]? = some (.cells #[.slice (some E.ad) E.n E.cp,.int .i64 (a:Int),.int .i64 c,.bool va,.int .i64 lo,.bool true] 71 (0,0))/\w.heap[E.tb]? = some E.TB
section
variable {E:Env} {w0 w wr w1 w2:World} {a b:Nat} {c:Int}
theorem Ps.below(h:Ps E w a c)(k:Below w.heap.size w w1):Ps E w1 a c:=by
 obtain⟨va,lo,h1,h2⟩:=h;refine⟨va,lo,blk_below h1 k,?_⟩;rw[k.block _ (Array.getElem?_eq_some_iff.1 h2).1];exact h2
theorem Ps.alloc(h:Ps E w a c)(o:Obj):Ps E (w.alloc o) a c:=h.below (bA (bR _ _) o)
theorem Ps.typed(h:Ps E w a c):∃cs,w.heap[E.g]? = some (.cells cs 71 (0,0)):=by
 obtain⟨va,lo,h1,h2⟩:=h;exact⟨_,h1⟩
theorem Ps.lt(h:Ps E w a c):E.g<w.heap.size:=by
 obtain⟨cs,h⟩:=h.typed;exact blk_lt h
theorem Ps.tok(hE:E.Fine)(h:Ps E w a c)(hi:b<E.n):∃ad,E.ad=ad/\w.cell? (ad.add (b*5))=some (.int .i64 (E.tk b).k)/\w.cell? ⟨(ad.add (b*5)).block,(ad.add (b*5)).off+1,none⟩=some (.string (E.tk b).s)/\w.cell? ⟨(ad.add (b*5)).block,(ad.add (b*5)).off+2,none⟩=some (.float .f64 (E.tk b).x)/\w.cell? ⟨(ad.add (b*5)).block,(ad.add (b*5)).off+3,none⟩=some (.int .i64 (E.tk b).f1)/\w.cell? ⟨(ad.add (b*5)).block,(ad.add (b*5)).off+4,none⟩=some (.int .i64 (E.tk b).f2):=by
 obtain⟨va,lo,h1,h2⟩:=h;obtain⟨ad,he,x⟩:=at_tok (hE.ok w h2) (b:Int) (by omega) (by omega)
 injection he with he
 refine⟨ad,he,?_⟩;have:(b:Int).toNat=b:=by omega
 rw[this] at x;exact x
set_option maxHeartbeats 1000000 in
theorem now_q(hE:E.Fine)(h:Ps E w a c)(ha:a<E.n):Calls Tryz.prog 21 #[.pointer (some ⟨E.g,0,none⟩)] w fun e w'=>e = .returned (.agg #[.int .i64 (E.tk a).k,.string (E.tk a).s,.float .f64 (E.tk a).x,.int .i64 (E.tk a).f1,.int .i64 (E.tk a).f2])/\Below w.heap.size w w':=by
 obtain⟨ad,hadd,x0,x1,x2,x3,x4⟩:=h.tok hE ha;obtain⟨va,lo,h1,h2⟩:=h;have s0:=bC h1 0;have s1:=bC h1 1;have hlen:=hE.len;rw[hadd] at s0;obtain⟨n,hn⟩:∃n,E.n=n:=⟨_,rfl⟩;rw[hn] at ha s0 hlen;obtain⟨g,hg⟩:∃g,E.g=g:=⟨_,rfl⟩;obtain⟨cp,hcp⟩:∃g,E.cp=g:=⟨_,rfl⟩;rw[hg] at s0 s1|-;rw[hcp] at s0;generalize E.tk a=t at x0 x1 x2 x3 x4|-;have hlt:(a:Int)<(n:Int):=by omega
 have h0:(0:Int)<=(a:Int):=by omega
 clear h1 h2 hadd hE hn hg hcp;go_enter Tryz.func21,Tryz.ntmps21
 go_wp2_with fail
 go_region_held3 (fun w'=>w'.cell? ⟨g,0,none⟩=some (.slice (some ad) n cp)/\w'.cell? ⟨g,1,none⟩=some (.int .i64 (a:Int))/\w'.cell? (ad.add (a*5))=some (.int .i64 t.k)/\w'.cell? ⟨(ad.add (a*5)).block,(ad.add (a*5)).off+1,none⟩=some (.string t.s)/\w'.cell? ⟨(ad.add (a*5)).block,(ad.add (a*5)).off+2,none⟩=some (.float .f64 t.x)/\w'.cell? ⟨(ad.add (a*5)).block,(ad.add (a*5)).off+3,none⟩=some (.int .i64 t.f1)/\w'.cell? ⟨(ad.add (a*5)).block,(ad.add (a*5)).off+4,none⟩=some (.int .i64 t.f2)) (go_keep) (fail)
 go_wp2_with fail;have hb:Below w.heap.size w ((w.alloc (.cells #[.int .i64 t.k,.string t.s,.float .f64 t.x,.int .i64 t.f1,.int .i64 t.f2] 49)).drew):=below_drew (bA (bR _ _) _);have hv:=blk_new w (.cells #[.int .i64 t.k,.string t.s,.float .f64 t.x,.int .i64 t.f1,.int .i64 t.f2] 49);obtain⟨q0,q1,q2,q3,q4⟩:=bC5 hv;refine bodyPost_ret (v:= .agg #[.int .i64 t.k,.string t.s,.float .f64 t.x,.int .i64 t.f1,.int .i64 t.f2]) (by simp[results,Tryz.results21,go_sem,q0,q1,q2,q3,q4]) rfl ?_;exact⟨rfl,hb⟩
def Env.isS(E:Env)(a:Nat)(s:ByteArray):Bool:=(E.tk a).k==3&&((E.tk a).s.toList==s.toList)
def Env.isW(E:Env)(a:Nat)(s:ByteArray):Bool:=(E.tk a).k==2&&((E.tk a).s.toList==s.toList)
set_option maxRecDepth 10000 in
theorem isSign_q(hE:E.Fine)(h:Ps E w a c)(ha:a<E.n)(s:ByteArray):Calls Tryz.prog 57 #[.pointer (some ⟨E.g,0,none⟩),.string s] w fun e w'=>e = .returned (.bool (E.isS a s))/\Below w.heap.size w w':=by
 unfold Env.isS;obtain⟨b,hb⟩:∃b:Bool,((E.tk a).k==3)=b:=⟨_,rfl⟩;rw[hb];go_enter Tryz.func57,Tryz.ntmps57
 go_wp2_with fail;refine(now_q hE h ha).mono ?_;rintro e w1 ⟨rfl,hb1⟩;have H1:=aM (h.below hb1);have HB:=aM hb1;clear hb1
 cases b with
 |false=>
  go_wp2_with fail;go_ret;exact⟨rfl,HB.out⟩
 |true=>
  go_wp2_with fail;refine(now_q hE H1.out ha).mono ?_;rintro e w2 ⟨rfl,hb2⟩;have HB2:=aM (HB.out.trans (hb2.mono HB.out.size));clear hb2;go_wp2_with fail;go_ret;exact⟨by simp,HB2.out⟩
set_option maxRecDepth 10000 in
theorem isWord_q(hE:E.Fine)(h:Ps E w a c)(ha:a<E.n)(s:ByteArray):Calls Tryz.prog 54 #[.pointer (some ⟨E.g,0,none⟩),.string s] w fun e w'=>e = .returned (.bool (E.isW a s))/\Below w.heap.size w w':=by
 unfold Env.isW;obtain⟨b,hb⟩:∃b:Bool,((E.tk a).k==2)=b:=⟨_,rfl⟩;rw[hb];go_enter Tryz.func54,Tryz.ntmps54
 go_wp2_with fail;refine(now_q hE h ha).mono ?_;rintro e w1 ⟨rfl,hb1⟩;have H1:=aM (h.below hb1);have HB:=aM hb1;clear hb1
 cases b with
 |false=>
  go_wp2_with fail;go_ret;exact⟨rfl,HB.out⟩
 |true=>
  go_wp2_with fail;refine(now_q hE H1.out ha).mono ?_;rintro e w2 ⟨rfl,hb2⟩;have HB2:=aM (HB.out.trans (hb2.mono HB.out.size));clear hb2;go_wp2_with fail;go_ret;exact⟨by simp,HB2.out⟩
def sEnd:ByteArray:=⟨#[101,110,100]⟩
def sElse:ByteArray:=⟨#[101,108,115,101]⟩
def sElseif:ByteArray:=⟨#[101,108,115,101,105,102]⟩
def sUntil:ByteArray:=⟨#[117,110,116,105,108]⟩
set_option maxRecDepth 10000 in
theorem atEnd_q(hE:E.Fine)(h:Ps E w a c)(ha:a<E.n):Calls Tryz.prog 53 #[.pointer (some ⟨E.g,0,none⟩)] w fun e w'=>∃b:Bool,e = .returned (.bool b)/\((E.tk a).k=6->b=true)/\Below w.heap.size w w':=by
 obtain⟨b,hb⟩:∃b:Bool,((E.tk a).k==6)=b:=⟨_,rfl⟩;go_enter Tryz.func53,Tryz.ntmps53
 go_wp2_with fail;refine(now_q hE h ha).mono ?_;rintro e w1 ⟨rfl,hb1⟩;have H1:=aM (h.below hb1);have HB:=aM hb1;clear hb1
 cases b with
 |true=>
  go_wp2_with fail;go_ret;exact⟨true,rfl,fun _=>rfl,HB.out⟩
 |false=>
  have hk:¬(E.tk a).k=6:=by
   intro h6;rw[h6] at hb;simp at hb
  go_wp2_with fail;refine(isWord_q hE H1.out ha _).mono ?_;rintro e w2 ⟨rfl,hb2⟩;have H2:=aM (H1.out.below hb2);have HB2:=aM (HB.out.trans (hb2.mono HB.out.size));clear hb2;obtain⟨b2,h2⟩:∃b:Bool,E.isW a sEnd=b:=⟨_,rfl⟩
  change E.isW a sEnd=b2 at h2
  simp only[sEnd] at h2
  cases b2 with
  |true=>
   go_wp2_with fail;go_ret;exact⟨true,rfl,fun _=>rfl,HB2.out⟩
  |false=>
   go_wp2_with fail;refine(isWord_q hE H2.out ha _).mono ?_;rintro e w3 ⟨rfl,hb3⟩;have H3:=aM (H2.out.below hb3);have HB3:=aM (HB2.out.trans (hb3.mono HB2.out.size));clear hb3;obtain⟨b3,h3⟩:∃b:Bool,E.isW a sElse=b:=⟨_,rfl⟩;simp only[sElse] at h3
   cases b3 with
   |true=>
    go_wp2_with fail;go_ret;exact⟨true,rfl,fun _=>rfl,HB3.out⟩
   |false=>
    go_wp2_with fail;refine(isWord_q hE H3.out ha _).mono ?_;rintro e w4 ⟨rfl,hb4⟩;have H4:=aM (H3.out.below hb4);have HB4:=aM (HB3.out.trans (hb4.mono HB3.out.size));clear hb4;obtain⟨b4,h4⟩:∃b:Bool,E.isW a sElseif=b:=⟨_,rfl⟩;simp only[sElseif] at h4
    cases b4 with
    |true=>
     go_wp2_with fail;go_ret;exact⟨true,rfl,fun _=>rfl,HB4.out⟩
    |false=>
     go_wp2_with fail;refine(isWord_q hE H4.out ha _).mono ?_;rintro e w5 ⟨rfl,hb5⟩;have HB5:=aM (HB4.out.trans (hb5.mono HB4.out.size));clear hb5;go_wp2_with fail;go_ret;exact⟨_,rfl,fun h6=>absurd h6 hk,HB5.out⟩
set_option maxRecDepth 10000 in
set_option maxHeartbeats 1000000 in
theorem operator_q(hE:E.Fine)(h:Ps E w a c)(ha:a<E.n):Calls Tryz.prog 120 #[.pointer (some ⟨E.g,0,none⟩)] w fun e w'=>∃s:ByteArray,e = .returned (.string s)/\(s=⟨#[]⟩\/((E.tk a).k=3\/(E.tk a).k=2)/\s=(E.tk a).s)/\Below w.heap.size w w':=by
 obtain⟨b,hb⟩:∃b:Bool,((E.tk a).k==3)=b:=⟨_,rfl⟩;obtain⟨b2,hb2⟩:∃b:Bool,((E.tk a).k==2)=b:=⟨_,rfl⟩;go_enter Tryz.func120,Tryz.ntmps120
 go_wp2_with fail;refine(now_q hE h ha).mono ?_;rintro e w1 ⟨rfl,hb1⟩;have H1:=aM (h.below hb1);have HB:=aM hb1;clear hb1
 cases b with
 |true=>
  have hk:(E.tk a).k=3:=eq_of_beq hb;go_wp2_with fail;refine(now_q hE H1.out ha).mono ?_;rintro e w2 ⟨rfl,hb2⟩;have HB2:=aM (HB.out.trans (hb2.mono HB.out.size));clear hb2;go_wp2_with fail;go_ret;exact⟨_,rfl,.inr ⟨.inl hk,rfl⟩,HB2.out⟩
 |false=>
  go_wp2_with fail;refine(now_q hE H1.out ha).mono ?_;rintro e w2 ⟨rfl,hb3⟩;have H2:=aM (H1.out.below hb3);have HB2:=aM (HB.out.trans (hb3.mono HB.out.size));clear hb3
  cases b2 with
  |true=>
   have hk:(E.tk a).k=2:=eq_of_beq hb2;go_wp2_with fail;refine(now_q hE H2.out ha).mono ?_;rintro e w3 ⟨rfl,hb3⟩;have HB3:=aM (HB2.out.trans (hb3.mono HB2.out.size));clear hb3;go_wp2_with fail;go_ret;exact⟨_,rfl,.inr ⟨.inr hk,rfl⟩,HB3.out⟩
  |false=>
   go_wp2_with fail;go_ret;exact⟨_,rfl,.inl rfl,HB2.out⟩
end
end Go.Proofs.YtoimaaonloibfaaGreatDoor.Pa
namespace Go.Proofs.YtoimaaonloibfaaGreatDoor.Pa
open Go.RowKit W1 W2 PF Wf Lx
attribute [local go_sem] run_store_float fld49_0 fld49_1 fld49_3
structure Pt(E:Env)(w wr:World)(a:Nat)(c:Int):Prop where
 s:Ps E wr a c
 k:Kp E.w0 w wr E.g
section
variable {E:Env} {w wr w1 w2:World} {a a' b:Nat} {c c':Int}
theorem Pt.start(h:Ps E w a c)(hB:Below E.w0.heap.size E.w0 w):Pt E w w a c:=⟨h,Kp.refl hB _⟩
theorem Pt.below(h:Pt E w wr a c)(hb:Below wr.heap.size wr w1):Pt E w w1 a c:=
 ⟨h.s.below hb,⟨h.k.b.trans (hb.mono h.k.b.size),KeepBut.trans h.k.k (KeepBut.of_below hb _ none) (.inl rfl)⟩⟩
theorem Pt.alloc(h:Pt E w wr a c)(o:Obj):Pt E w (wr.alloc o) a c:=h.below (bA (bR _ _) o)
theorem Pt.drew(h:Pt E w wr a c):Pt E w wr.drew a c:=h.below (below_drew (bR _ _))
theorem Pt.step(h:Pt E w wr a c)(h2:Pt E wr w1 a' c'):Pt E w w1 a' c':=⟨h2.s,h.k.trans h2.k⟩
theorem Pt.B(h:Pt E w wr a c):Below E.w0.heap.size E.w0 wr:=h.k.b
theorem Pt.size(h:Pt E w wr a c):w.heap.size<=wr.heap.size:=h.k.k.1
theorem Pt.put(h:Pt E w wr a c)(hE:E.Fine)(h0:Ps E w a' c')(hB:E.w0.heap.size<=w.heap.size)(hq:w.heap.size<=b)(j:Nat)(u:Value):Pt E w (wr.setCell ⟨b,j,none⟩ u) a c:=by
 obtain⟨va,lo,h1,h2⟩:=h.s;obtain⟨va',lo',h3,h4⟩:=h0;have hg:=blk_lt h3;have ht:=blk_lt h4;refine⟨⟨va,lo,blk_far h1 (p:=⟨b,j,none⟩) (by show E.g≠b;omega) u,?_⟩,⟨h.k.b.setCell (p:=⟨b,j,none⟩) (by show E.w0.heap.size<=b;omega) u,keep_far h.k.k (p:=⟨b,j,none⟩) hq u⟩⟩;rw[Below.heap_setCell wr ⟨b,j,none⟩ u E.tb (by show E.tb≠b;omega)];exact h2
theorem Pt.at1(h:Pt E w wr a c)(hE:E.Fine)(a2:Nat):Pt E w (wr.setCell ⟨E.g,1,none⟩ (.int .i64 (a2:Int))) a2 c:=by
 obtain⟨va,lo,h1,h2⟩:=h.s;refine⟨⟨va,lo,blk_set h1 1 _,?_⟩,h.k.set hE.hg 1 _⟩;rw[Below.heap_setCell wr ⟨E.g,1,none⟩ _ E.tb hE.ne];exact h2
theorem Pt.code(h:Pt E w wr a c)(hE:E.Fine)(c2:Int):Pt E w (wr.setCell ⟨E.g,2,none⟩ (.int .i64 c2)) a c2:=by
 obtain⟨va,lo,h1,h2⟩:=h.s;refine⟨⟨va,lo,blk_set h1 2 _,?_⟩,h.k.set hE.hg 2 _⟩;rw[Below.heap_setCell wr ⟨E.g,2,none⟩ _ E.tb hE.ne];exact h2
theorem Pt.put5(h:Pt E w wr a c)(hE:E.Fine)(h0:Ps E w a' c')(hB:E.w0.heap.size<=w.heap.size)(hq:w.heap.size<=b){cs:Array Value}(hv:wr.heap[b]? = some (.cells cs 49 (0,0)))(hcs:cs.size=5)(u0 u1 u2 u3 u4:Value):
  Pt E w (((((wr.setCell ⟨b,0,none⟩ u0).setCell ⟨b,1,none⟩ u1).setCell ⟨b,2,none⟩ u2).setCell ⟨b,3,none⟩ u3).setCell ⟨b,4,none⟩ u4) a c/\(((((wr.setCell ⟨b,0,none⟩ u0).setCell ⟨b,1,none⟩ u1).setCell ⟨b,2,none⟩ u2).setCell ⟨b,3,none⟩ u3).setCell ⟨b,4,none⟩ u4).heap[b]? = some (.cells #[u0,u1,u2,u3,u4] 49 (0,0)):=by
 refine⟨((((h.put hE h0 hB hq 0 u0).put hE h0 hB hq 1 u1).put hE h0 hB hq 2 u2).put hE h0 hB hq 3 u3).put hE h0 hB hq 4 u4,?_⟩;refine(blk_set (blk_set (blk_set (blk_set (blk_set hv 0 u0) 1 u1) 2 u2) 3 u3) 4 u4).trans ?_;obtain⟨l⟩:=cs
 match l,hcs with
 |[_,_,_,_,_],_=>rfl
theorem Pt.put7(h:Pt E w wr a c)(hE:E.Fine)(h0:Ps E w a' c')(hB:E.w0.heap.size<=w.heap.size)(hq:w.heap.size<=b){cs:Array Value}(hv:wr.heap[b]? = some (.cells cs 27 (0,0)))(hcs:cs.size=7)(u0 u1 u2 u3 u4 u5 u6:Value):
  Pt E w (((((((wr.setCell ⟨b,0,none⟩ u0).setCell ⟨b,1,none⟩ u1).setCell ⟨b,2,none⟩ u2).setCell ⟨b,3,none⟩ u3).setCell ⟨b,4,none⟩ u4).setCell ⟨b,5,none⟩ u5).setCell ⟨b,6,none⟩ u6) a c/\(((((((wr.setCell ⟨b,0,none⟩ u0).setCell ⟨b,1,none⟩ u1).setCell ⟨b,2,none⟩ u2).setCell ⟨b,3,none⟩ u3).setCell ⟨b,4,none⟩ u4).setCell ⟨b,5,none⟩ u5).setCell ⟨b,6,none⟩ u6).heap[b]? = some (.cells #[u0,u1,u2,u3,u4,u5,u6] 27 (0,0))/\∀k,k≠b->(((((((wr.setCell ⟨b,0,none⟩ u0).setCell ⟨b,1,none⟩ u1).setCell ⟨b,2,none⟩ u2).setCell ⟨b,3,none⟩ u3).setCell ⟨b,4,none⟩ u4).setCell ⟨b,5,none⟩ u5).setCell ⟨b,6,none⟩ u6).heap[k]? = wr.heap[k]? :=by
 refine⟨((((((h.put hE h0 hB hq 0 u0).put hE h0 hB hq 1 u1).put hE h0 hB hq 2 u2).put hE h0 hB hq 3 u3).put hE h0 hB hq 4 u4).put hE h0 hB hq 5 u5).put hE h0 hB hq 6 u6,?_,fun k hk=> ?_⟩
 ·refine(blk_set (blk_set (blk_set (blk_set (blk_set (blk_set (blk_set hv 0 u0) 1 u1) 2 u2) 3 u3) 4 u4) 5 u5) 6 u6).trans ?_
  obtain⟨l⟩:=cs
  match l,hcs with
  |[_,_,_,_,_,_,_],_=>rfl
 ·simp only[Below.heap_setCell _ (⟨b,_,none⟩:Addr) _ k hk]
theorem Env.not_end(hE:E.Fine)(ha:a<E.n)(hk:(E.tk a).k≠6):a+1<E.n:=by
 rcases Nat.lt_or_ge (a+1) E.n with h|h
 ·exact h
 ·exfalso
  have:a=E.n-1:=by omega
  subst this;exact hk hE.last
set_option maxRecDepth 10000 in
set_option maxHeartbeats 1000000 in
theorem take_any(hE:E.Fine)(h:Ps E w a c)(hB:Below E.w0.heap.size E.w0 w)(ha:a<E.n):Calls Tryz.prog 93 #[.pointer (some ⟨E.g,0,none⟩)] w fun e w'=>e = .returned (.agg #[.int .i64 (E.tk a).k,.string (E.tk a).s,.float .f64 (E.tk a).x,.int .i64 (E.tk a).f1,.int .i64 (E.tk a).f2])/\Pt E w w' (if(E.tk a).k=6 then a else a+1) c:=by
 have H0:=aM (Pt.start h hB);have HB0:=aM hB.size;have HE:=aM hE;obtain⟨ad,hadd,x0,x1,x2,x3,x4⟩:=h.tok hE ha;obtain⟨va,lo,h1,h2⟩:=h;have s0:=bC h1 0;have s1:=bC h1 1;have f1:=bF h1 1;have hlen:=hE.len;rw[hadd] at s0;obtain⟨n,hn⟩:∃n,E.n=n:=⟨_,rfl⟩;rw[hn] at ha s0 hlen;obtain⟨g,hg⟩:∃g,E.g=g:=⟨_,rfl⟩;obtain⟨cp,hcp⟩:∃g,E.cp=g:=⟨_,rfl⟩;have hgl:g<w.heap.size:=by rw[<-hg];exact blk_lt h1
 rw[hg] at s0 s1 f1|-;rw[hcp] at s0;generalize E.tk a=t at x0 x1 x2 x3 x4|-;have hlt:(a:Int)<(n:Int):=by omega
 have h0:(0:Int)<=(a:Int):=by omega
 have q:IntKind.i64.wrap ((a:Int)+1)=((a+1:Nat):Int):=by rw[IntWalk.i64_in _ (by omega)];omega
 have HG:=aM hg;obtain⟨a',ha'⟩:∃a',(if t.k=6 then a else a+1)=a':=⟨_,rfl⟩;rw[ha'];have HA:=aM ha';have HPS:=aM (show Ps E w a c from H0.out.s);clear h1 h2 ha' hadd hE hn hg hcp hB;go_enter Tryz.func93,Tryz.ntmps93
 go_upto_region 1 with fail
 go_region_held3 (fun w'=>w'.cell? ⟨g,0,none⟩=some (.slice (some ad) n cp)/\w'.cell? ⟨g,1,none⟩=some (.int .i64 (a:Int))/\w'.cell? (ad.add (a*5))=some (.int .i64 t.k)/\w'.cell? ⟨(ad.add (a*5)).block,(ad.add (a*5)).off+1,none⟩=some (.string t.s)/\w'.cell? ⟨(ad.add (a*5)).block,(ad.add (a*5)).off+2,none⟩=some (.float .f64 t.x)/\w'.cell? ⟨(ad.add (a*5)).block,(ad.add (a*5)).off+3,none⟩=some (.int .i64 t.f1)/\w'.cell? ⟨(ad.add (a*5)).block,(ad.add (a*5)).off+4,none⟩=some (.int .i64 t.f2)) (go_keep) (fail)
 have H1:=aM ((H0.out.alloc (.cells #[.int .i64 0,.string ⟨#[]⟩,.float .f64 0,.int .i64 0,.int .i64 0] 49)).alloc (.cells #[.int .i64 t.k,.string t.s,.float .f64 t.x,.int .i64 t.f1,.int .i64 t.f2] 49)).drew;have v2:(((w.alloc (.cells #[.int .i64 0,.string ⟨#[]⟩,.float .f64 0,.int .i64 0,.int .i64 0] 49)).alloc (.cells #[.int .i64 t.k,.string t.s,.float .f64 t.x,.int .i64 t.f1,.int .i64 t.f2] 49)).drew).heap[w.heap.size]? = some (.cells #[.int .i64 0,.string ⟨#[]⟩,.float .f64 0,.int .i64 0,.int .i64 0] 49 (0,0)):=blk_alloc (blk_new _ _) _;have v3:(((w.alloc (.cells #[.int .i64 0,.string ⟨#[]⟩,.float .f64 0,.int .i64 0,.int .i64 0] 49)).alloc (.cells #[.int .i64 t.k,.string t.s,.float .f64 t.x,.int .i64 t.f1,.int .i64 t.f2] 49)).drew).heap[w.heap.size+1]? = some (.cells #[.int .i64 t.k,.string t.s,.float .f64 t.x,.int .i64 t.f1,.int .i64 t.f2] 49 (0,0)):=by
  have:=blk_new (w.alloc (.cells #[.int .i64 0,.string ⟨#[]⟩,.float .f64 0,.int .i64 0,.int .i64 0] 49)) (.cells #[.int .i64 t.k,.string t.s,.float .f64 t.x,.int .i64 t.f1,.int .i64 t.f2] 49);have e:(w.alloc (.cells #[.int .i64 0,.string ⟨#[]⟩,.float .f64 0,.int .i64 0,.int .i64 0] 49)).heap.size=w.heap.size+1:=by simp
  rw[e] at this;exact this
 have c1:(((w.alloc (.cells #[.int .i64 0,.string ⟨#[]⟩,.float .f64 0,.int .i64 0,.int .i64 0] 49)).alloc (.cells #[.int .i64 t.k,.string t.s,.float .f64 t.x,.int .i64 t.f1,.int .i64 t.f2] 49)).drew).cell? ⟨g,1,none⟩=some (.int .i64 (a:Int)):=by
  obtain⟨va,lo,h1,h2⟩:=H1.out.s;rw[<-HG.out];exact bC h1 1
 have f1:(((w.alloc (.cells #[.int .i64 0,.string ⟨#[]⟩,.float .f64 0,.int .i64 0,.int .i64 0] 49)).alloc (.cells #[.int .i64 t.k,.string t.s,.float .f64 t.x,.int .i64 t.f1,.int .i64 t.f2] 49)).drew).frozen? ⟨g,1,none⟩=false:=by
  obtain⟨va,lo,h1,h2⟩:=H1.out.s;rw[<-HG.out];exact bF h1 1
 generalize (((w.alloc (.cells #[.int .i64 0,.string ⟨#[]⟩,.float .f64 0,.int .i64 0,.int .i64 0] 49)).alloc (.cells #[.int .i64 t.k,.string t.s,.float .f64 t.x,.int .i64 t.f1,.int .i64 t.f2] 49)).drew)=W at H1 v2 v3 c1 f1|-;clear x0 x1 x2 x3 x4 s0 s1;obtain⟨n0,hn0⟩:∃n0,w.heap.size=n0:=⟨_,rfl⟩;rw[hn0] at v2 v3 hgl|-;have HN0:=aM hn0;clear hn0;have V2:=aM v2;have V3:=aM v3;clear v2 v3;obtain⟨y0,y1,y2,y3,y4⟩:=bC5 V2.out;obtain⟨fr0,fr1,fr2,fr3,fr4⟩:=bF5 V2.out;obtain⟨z0,z1,z2,z3,z4⟩:=bC5 V3.out;have hgn:¬n0=g:=by omega
 have hgn1:¬n0+1=g:=by omega
 by_cases h6:t.k=6
 ·have h6b:(t.k==6)=true:=beq_iff_eq.2 h6
  have h6c:(t.k != 6)=false:=bne_eq_false_iff_eq.2 h6;have HA2:=aM (show a=a' by rw[<-HA.out,if_pos h6]);clear h6;go_wp2_with fail;have HF:=aM (H1.out.put5 HE.out HPS.out HB0.out (by have:=HN0.out;omega) V2.out rfl (.int .i64 t.k) (.string t.s) (.float .f64 t.x) (.int .i64 t.f1) (.int .i64 t.f2));generalize (((((W.setCell ⟨n0,0,none⟩ (.int .i64 t.k)).setCell ⟨n0,1,none⟩ (.string t.s)).setCell ⟨n0,2,none⟩ (.float .f64 t.x)).setCell ⟨n0,3,none⟩ (.int .i64 t.f1)).setCell ⟨n0,4,none⟩ (.int .i64 t.f2))=W' at HF|-;obtain⟨q0,q1,q2,q3,q4⟩:=bC5 HF.out.2;refine bodyPost_ret (v:= .agg #[.int .i64 t.k,.string t.s,.float .f64 t.x,.int .i64 t.f1,.int .i64 t.f2]) (by simp[results,Tryz.results93,go_sem,q0,q1,q2,q3,q4]) rfl ?_;exact⟨rfl,HA2.out▸HF.out.1⟩
 ·have h6b:(t.k==6)=false:=beq_eq_false_iff_ne.2 h6
  have h6c:(t.k != 6)=true:=bne_iff_ne.2 h6;have HA2:=aM (show a+1=a' by rw[<-HA.out,if_neg h6]);clear h6;go_wp2_with fail;have H2:=aM (H1.out.at1 HE.out (a+1));have V2':=aM (blk_far V2.out (p:=⟨g,1,none⟩) hgn (.int .i64 ((a+1:Nat):Int)));rw[HG.out] at H2;rw[Int.natCast_add,Int.natCast_one] at H2 V2';generalize W.setCell ⟨g,1,none⟩ (.int .i64 ((a:Int)+1))=W2 at H2 V2'|-;have HF:=aM (H2.out.put5 HE.out HPS.out HB0.out (by have:=HN0.out;omega) V2'.out rfl (.int .i64 t.k) (.string t.s) (.float .f64 t.x) (.int .i64 t.f1) (.int .i64 t.f2));generalize (((((W2.setCell ⟨n0,0,none⟩ (.int .i64 t.k)).setCell ⟨n0,1,none⟩ (.string t.s)).setCell ⟨n0,2,none⟩ (.float .f64 t.x)).setCell ⟨n0,3,none⟩ (.int .i64 t.f1)).setCell ⟨n0,4,none⟩ (.int .i64 t.f2))=W' at HF|-;obtain⟨q0,q1,q2,q3,q4⟩:=bC5 HF.out.2;refine bodyPost_ret (v:= .agg #[.int .i64 t.k,.string t.s,.float .f64 t.x,.int .i64 t.f1,.int .i64 t.f2]) (by simp[results,Tryz.results93,go_sem,q0,q1,q2,q3,q4]) rfl ?_;exact⟨rfl,HA2.out▸HF.out.1⟩
end
section
variable {E:Env} {w wr w1 w2:World} {a a' b:Nat} {c c':Int}
theorem isS_k{s:ByteArray}(h:E.isS a s=true):(E.tk a).k=3:=by
 unfold Env.isS at h;rw[Bool.and_eq_true] at h;exact eq_of_beq h.1
theorem isW_k{s:ByteArray}(h:E.isW a s=true):(E.tk a).k=2:=by
 unfold Env.isW at h;rw[Bool.and_eq_true] at h;exact eq_of_beq h.1
set_option maxRecDepth 10000 in
theorem tell_any(hE:E.Fine)(h:Ps E w a c)(hB:Below E.w0.heap.size E.w0 w)(x:Int):Calls Tryz.prog 22 #[.pointer (some ⟨E.g,0,none⟩),.int .i64 x] w fun e w'=>e = .returned (.tuple #[])/\Pt E w w' (E.n-1) (if c=0 then x else c):=by
 have H0:=aM (Pt.start h hB);have HE:=aM hE;obtain⟨va,lo,h1,h2⟩:=h;obtain⟨s0,s1,s2⟩:=bC3 h1;have f1:=bF h1 1;have f2:=bF h1 2;have hlen:=hE.len;have hpos:=hE.pos;have q:IntKind.i64.wrap ((E.n:Int)-1)=((E.n-1:Nat):Int):=by rw[IntWalk.i64_in _ (by omega)];omega
 clear h1 h2 hE hB
 by_cases hc:c=0
 ·subst hc
  rw[if_pos rfl];obtain⟨m,hm⟩:∃m,E.n-1=m:=⟨_,rfl⟩;rw[hm] at q|-;go_enter Tryz.func22,Tryz.ntmps22
  go_wp2_with fail;go_end0;exact⟨rfl,(H0.out.code HE.out x).at1 HE.out m⟩
 ·rw[if_neg hc]
  have hcb:(c==0)=false:=beq_eq_false_iff_ne.2 hc;clear hc;obtain⟨m,hm⟩:∃m,E.n-1=m:=⟨_,rfl⟩;rw[hm] at q|-;go_enter Tryz.func22,Tryz.ntmps22
  go_wp2_with fail;go_end0;exact⟨rfl,H0.out.at1 HE.out m⟩
set_option maxRecDepth 10000 in
theorem hasSign_any(hE:E.Fine)(h:Ps E w a c)(hB:Below E.w0.heap.size E.w0 w)(ha:a<E.n)(s:ByteArray):Calls Tryz.prog 56 #[.pointer (some ⟨E.g,0,none⟩),.string s] w fun e w'=>∃(b:Bool) (a':Nat),e = .returned (.bool b)/\E.isS a s=b/\(b=true->a'=a+1/\a+1<E.n)/\(b=false->a'=a)/\Pt E w w' a' c:=by
 have H0:=aM (Pt.start h hB);have HE:=aM hE;obtain⟨b,hb⟩:∃b,E.isS a s=b:=⟨_,rfl⟩;have HBB:=aM hb;go_enter Tryz.func56,Tryz.ntmps56
 go_wp2_with fail;refine(isSign_q hE h ha s).mono ?_;rw[hb];rintro e w1 ⟨rfl,hb1⟩;have H1:=aM (H0.out.below hb1);clear hb1 hb
 cases b with
 |false=>
  go_wp2_with fail;go_ret;exact⟨false,a,rfl,HBB.out,(fun h=>by cases h),fun _=>rfl,H1.out⟩
 |true=>
  have hk:(E.tk a).k≠6:=by rw[isS_k HBB.out];decide
  have hn:=Env.not_end hE ha hk;have HK:=aM hk;clear hk;go_wp2_with fail;refine(take_any HE.out H1.out.s H1.out.B ha).mono ?_;rw[if_neg HK.out];rintro e w2 ⟨rfl,h2⟩;have H2:=aM (H1.out.step h2);clear h2;go_wp2_with fail;go_ret;exact⟨true,a+1,rfl,HBB.out,fun _=>⟨rfl,hn⟩,(fun h=>by cases h),H2.out⟩
set_option maxRecDepth 10000 in
theorem hasWord_any(hE:E.Fine)(h:Ps E w a c)(hB:Below E.w0.heap.size E.w0 w)(ha:a<E.n)(s:ByteArray):Calls Tryz.prog 90 #[.pointer (some ⟨E.g,0,none⟩),.string s] w fun e w'=>∃(b:Bool) (a':Nat),e = .returned (.bool b)/\E.isW a s=b/\(b=true->a'=a+1/\a+1<E.n)/\(b=false->a'=a)/\Pt E w w' a' c:=by
 have H0:=aM (Pt.start h hB);have HE:=aM hE;obtain⟨b,hb⟩:∃b,E.isW a s=b:=⟨_,rfl⟩;have HBB:=aM hb;go_enter Tryz.func90,Tryz.ntmps90
 go_wp2_with fail;refine(isWord_q hE h ha s).mono ?_;rw[hb];rintro e w1 ⟨rfl,hb1⟩;have H1:=aM (H0.out.below hb1);clear hb1 hb
 cases b with
 |false=>
  go_wp2_with fail;go_ret;exact⟨false,a,rfl,HBB.out,(fun h=>by cases h),fun _=>rfl,H1.out⟩
 |true=>
  have hk:(E.tk a).k≠6:=by rw[isW_k HBB.out];decide
  have hn:=Env.not_end hE ha hk;have HK:=aM hk;clear hk;go_wp2_with fail;refine(take_any HE.out H1.out.s H1.out.B ha).mono ?_;rw[if_neg HK.out];rintro e w2 ⟨rfl,h2⟩;have H2:=aM (H1.out.step h2);clear h2;go_wp2_with fail;go_ret;exact⟨true,a+1,rfl,HBB.out,fun _=>⟨rfl,hn⟩,(fun h=>by cases h),H2.out⟩
set_option maxRecDepth 10000 in
theorem sign_any(hE:E.Fine)(h:Ps E w a c)(hB:Below E.w0.heap.size E.w0 w)(ha:a<E.n)(s:ByteArray):Calls Tryz.prog 129 #[.pointer (some ⟨E.g,0,none⟩),.string s] w fun e w'=>∃(a':Nat) (c':Int),e = .returned (.tuple #[])/\a<=a'/\a'<E.n/\(a+1<E.n->a<a')/\(c'=0->c=0/\a'=a+1/\E.isS a s=true)/\Pt E w w' a' c':=by
 have HE:=aM hE;have hpos:=hE.pos;go_enter Tryz.func129,Tryz.ntmps129
 go_wp2_with fail;refine(hasSign_any hE h hB ha s).mono ?_;rintro e w1 ⟨b,a1,rfl,hb,h1,h2,h3⟩;have H1:=aM h3;have HB:=aM hb;clear h3 hb
 cases b with
 |true=>
  obtain⟨rfl,hn⟩:=h1 rfl;clear h1 h2;go_wp2_with fail;go_end0;exact⟨a+1,c,rfl,by omega,by omega,fun _=>by omega,fun h0=>⟨h0,rfl,HB.out⟩,H1.out⟩
 |false=>
  obtain rfl:=h2 rfl;clear h1 h2;go_wp2_with fail;refine(tell_any HE.out H1.out.s H1.out.B 1).mono ?_;rintro e w2 ⟨rfl,h2⟩;have H2:=aM (H1.out.step h2);clear h2;go_wp2_with fail;go_end0;exact⟨E.n-1,_,rfl,by omega,by omega,fun _=>by omega,fun h0=>absurd h0 (tell_c (by decide)),H2.out⟩
set_option maxRecDepth 10000 in
theorem word_any(hE:E.Fine)(h:Ps E w a c)(hB:Below E.w0.heap.size E.w0 w)(ha:a<E.n)(s:ByteArray):Calls Tryz.prog 91 #[.pointer (some ⟨E.g,0,none⟩),.string s] w fun e w'=>∃(a':Nat) (c':Int),e = .returned (.tuple #[])/\a<=a'/\a'<E.n/\(a+1<E.n->a<a')/\(c'=0->c=0/\a'=a+1/\E.isW a s=true)/\Pt E w w' a' c':=by
 have HE:=aM hE;have hpos:=hE.pos;go_enter Tryz.func91,Tryz.ntmps91
 go_wp2_with fail;refine(hasWord_any hE h hB ha s).mono ?_;rintro e w1 ⟨b,a1,rfl,hb,h1,h2,h3⟩;have H1:=aM h3;have HB:=aM hb;clear h3 hb
 cases b with
 |true=>
  obtain⟨rfl,hn⟩:=h1 rfl;clear h1 h2;go_wp2_with fail;go_end0;exact⟨a+1,c,rfl,by omega,by omega,fun _=>by omega,fun h0=>⟨h0,rfl,HB.out⟩,H1.out⟩
 |false=>
  obtain rfl:=h2 rfl;clear h1 h2;go_wp2_with fail;refine(tell_any HE.out H1.out.s H1.out.B 1).mono ?_;rintro e w2 ⟨rfl,h2⟩;have H2:=aM (H1.out.step h2);clear h2;go_wp2_with fail;go_end0;exact⟨E.n-1,_,rfl,by omega,by omega,fun _=>by omega,fun h0=>absurd h0 (tell_c (by decide)),H2.out⟩
theorem wt_name{s:ByteArray}(h:WT 1 (bytesOf s)):NameT s:=by
 rcases h with⟨_,h⟩|⟨h,_⟩|⟨h,_⟩|⟨h,_⟩|h
 ·exact h
 all_goals omega
set_option maxRecDepth 10000 in
theorem name_any(hE:E.Fine)(h:Ps E w a c)(hB:Below E.w0.heap.size E.w0 w)(ha:a<E.n):Calls Tryz.prog 123 #[.pointer (some ⟨E.g,0,none⟩)] w fun e w'=>∃(s:ByteArray) (a':Nat) (c':Int),e = .returned (.string s)/\s.size<=2000/\a<=a'/\a'<E.n/\(a+1<E.n->a<a')/\(c'=0->c=0/\a'=a+1/\s=(E.tk a).s/\NameT s)/\Pt E w w' a' c':=by
 have H0:=aM (Pt.start h hB);have HE:=aM hE;have hpos:=hE.pos;go_enter Tryz.func123,Tryz.ntmps123
 go_wp2_with fail;refine(now_q hE h ha).mono ?_;rintro e w1 ⟨rfl,hb1⟩;have H1:=aM (H0.out.below hb1);clear hb1
 by_cases hk:(E.tk a).k=1
 ·have HK:=aM hk
  have hkb:((E.tk a).k==1)=true:=beq_iff_eq.2 hk;have hkc:((E.tk a).k != 1)=false:=bne_eq_false_iff_eq.2 hk;have hk6:(E.tk a).k≠6:=by rw[hk];decide
  have hn:=Env.not_end hE ha hk6;have HK6:=aM hk6;have HW:=aM (show NameT (E.tk a).s from by
   have:=hE.wt a hn;rw[hk] at this;exact wt_name this)
  have HS:=aM (hE.size a);clear hk hk6;go_wp2_with fail;refine(take_any HE.out H1.out.s H1.out.B ha).mono ?_;rw[if_neg HK6.out];rintro e w2 ⟨rfl,h2⟩;have H2:=aM (H1.out.step h2);clear h2;go_wp2_with fail;go_ret;exact⟨_,a+1,c,rfl,HS.out,by omega,by omega,fun _=>by omega,fun h0=>⟨h0,rfl,rfl,HW.out⟩,H2.out⟩
 ·have hkb:((E.tk a).k==1)=false:=beq_eq_false_iff_ne.2 hk
  have hkc:((E.tk a).k != 1)=true:=bne_iff_ne.2 hk;clear hk;go_wp2_with fail;refine(tell_any HE.out H1.out.s H1.out.B 1).mono ?_;rintro e w2 ⟨rfl,h2⟩;have H2:=aM (H1.out.step h2);clear h2;go_wp2_with fail;go_ret;exact⟨_,E.n-1,_,rfl,Nat.zero_le _,by omega,by omega,fun _=>by omega,fun h0=>absurd h0 (tell_c (by decide)),H2.out⟩
end
def Tr(w:World)(b:Nat)(x:Nd)(vn vk:Value):Prop:=nodeK.M w b (fun _=>True) x [.int .i64 x.k,.string x.s,.float .f64 x.x,.int .i64 x.n,.bool x.b,vn,vk]
def KR(w:World)(b:Nat)(v:Value)(xs:List Nd):Prop:=nodeK.R 27 w b (fun _=>True) v xs
def NR(w:World)(b:Nat)(v:Value)(xs:List ByteArray):Prop:=Kd.string.R 9 w b (fun _=>True) v xs
def Vb(w:World)(q:Nat)(cs:Array Value):Prop:=w.heap[q]? = some (.cells cs 27 (0,0))
section
variable {E:Env} {w wr w1 w2:World} {a a' b b' q:Nat} {c c':Int} {x y:Nd} {vn vk un uk v:Value} {xs:List Nd} {ns:List ByteArray} {cs:Array Value}
theorem Tr.keep(h:Tr wr b x vn vk)(hs:Ps E wr a c)(h2:Pt E wr w1 a' c'):Tr w1 b x vn vk:=by
 obtain⟨cs,hg⟩:=hs.typed;exact nodeK.M_mono (fun _ _=>trivial) (Kd.M_keep (Kd.M_types h hg (by decide)) h2.k.k (fun _ h=>h.2))
theorem KR.keep(h:KR wr b v xs)(hs:Ps E wr a c)(h2:Pt E wr w1 a' c'):KR w1 b v xs:=by
 obtain⟨cs,hg⟩:=hs.typed;exact Kd.R_mono (Kd.R_keep (Kd.R_types h hg (by decide)) h2.k.k (fun _ h=>h.2)) (fun _ _=>trivial)
theorem NR.keep(h:NR wr b v ns)(hs:Ps E wr a c)(h2:Pt E wr w1 a' c'):NR w1 b v ns:=by
 obtain⟨cs,hg⟩:=hs.typed;exact Kd.R_mono (Kd.R_keep (Kd.R_types h hg (by decide)) h2.k.k (fun _ h=>h.2)) (fun _ _=>trivial)
theorem Vb.keep(h:Vb wr q cs)(hs:Ps E wr a c)(h2:Pt E wr w1 a' c'):Vb w1 q cs:=by
 obtain⟨cs,hg⟩:=hs.typed;exact h2.k.k.blk h (blk_ne h hg (by decide)) (by simp)
theorem Tr.below(h:Tr wr b x vn vk)(hb:Below wr.heap.size wr w1):Tr w1 b x vn vk:=Kd.M_below h hb
theorem KR.below(h:KR wr b v xs)(hb:Below wr.heap.size wr w1):KR w1 b v xs:=Kd.R_below h hb
theorem NR.below(h:NR wr b v ns)(hb:Below wr.heap.size wr w1):NR w1 b v ns:=Kd.R_below h hb
theorem Vb.below(h:Vb wr q cs)(hb:Below wr.heap.size wr w1):Vb w1 q cs:=blk_below h hb
theorem Tr.alloc(h:Tr wr b x vn vk)(o:Obj):Tr (wr.alloc o) b x vn vk:=h.below (bA (bR _ _) o)
theorem KR.alloc(h:KR wr b v xs)(o:Obj):KR (wr.alloc o) b v xs:=h.below (bA (bR _ _) o)
theorem NR.alloc(h:NR wr b v ns)(o:Obj):NR (wr.alloc o) b v ns:=h.below (bA (bR _ _) o)
theorem Vb.alloc(h:Vb wr q cs)(o:Obj):Vb (wr.alloc o) q cs:=h.below (bA (bR _ _) o)
theorem Tr.drew(h:Tr wr b x vn vk):Tr wr.drew b x vn vk:=h.below (below_drew (bR _ _))
theorem NR.drew(h:NR wr b v ns):NR wr.drew b v ns:=h.below (below_drew (bR _ _))
theorem Vb.drew(h:Vb wr q cs):Vb wr.drew q cs:=h
theorem Vb.new(w:World)(cs:Array Value):Vb (w.alloc (.cells cs 27)) w.heap.size cs:=blk_new _ _
theorem Tr.far(h:Tr wr b x vn vk)(hf:∀k,k≠q->w1.heap[k]? = wr.heap[k]?)(hq:q<b):Tr w1 b x vn vk:=
 nodeK.M_mono (fun _ _=>trivial) (Kd.M_step (nodeK.M_bound h) (fun k hk _=>hf k (by have:=hk.2.1;omega)))
theorem KR.far(h:KR wr b v xs)(hf:∀k,k≠q->w1.heap[k]? = wr.heap[k]?)(hq:q<b):KR w1 b v xs:=
 Kd.R_mono (Kd.R_step (Kd.R_bound h) (fun k hk _=>hf k (by have:=hk.2.1;omega))) (fun _ _=>trivial)
theorem NR.far(h:NR wr b v ns)(hf:∀k,k≠q->w1.heap[k]? = wr.heap[k]?)(hq:q<b):NR w1 b v ns:=
 Kd.R_mono (Kd.R_step (Kd.R_bound h) (fun k hk _=>hf k (by have:=hk.2.1;omega))) (fun _ _=>trivial)
theorem Tr.lower(h:Tr wr b x vn vk)(hb:b'<=b):Tr wr b' x vn vk:=nodeK.M_lower hb h
theorem KR.lower(h:KR wr b v xs)(hb:b'<=b):KR wr b' v xs:=Kd.R_lower h hb
theorem NR.lower(h:NR wr b v ns)(hb:b'<=b):NR wr b' v ns:=Kd.R_lower h hb
theorem Tr.rows(h:Tr wr b x vn vk):NR wr b vn x.names/\KR wr b vk x.kids:=by
 obtain⟨vn',vk',he,h1,h2⟩:=node_openM h;simp only[List.cons.injEq,and_true,true_and] at he;obtain⟨rfl,rfl⟩:=he;exact⟨h1,h2⟩
theorem Tr.mk(hn:NR wr b vn x.names)(hk:KR wr b vk x.kids):Tr wr b x vn vk:=node_mkM hn hk
theorem NR.nil(w:World)(b:Nat):NR w b (.slice none 0 0) []:=Kd.R_nil _ _ _ _ _
theorem KR.nil(w:World)(b:Nat):KR w b (.slice none 0 0) []:=Kd.R_nil _ _ _ _ _
theorem KR.sl(h:KR wr b v xs):∃A cp,v = .slice A xs.length cp:=Kd.R_slice h
theorem NR.sl(h:NR wr b v ns):∃A cp,v = .slice A ns.length cp:=Kd.R_slice h
theorem reps1(h:Tr wr b x vn vk):Reps (nodeK.M wr b (fun _=>True)) 7 [x] [.int .i64 x.k,.string x.s,.float .f64 x.x,.int .i64 x.n,.bool x.b,vn,vk]:=by
 have:=Reps.snoc (Reps.none (nodeK.M wr b (fun _=>True)) 7) h rfl;exact this
theorem KR.lit1(h:Tr wr b x vn vk)(hb:b<=wr.heap.size):KR (wr.alloc (.cells #[.int .i64 x.k,.string x.s,.float .f64 x.x,.int .i64 x.n,.bool x.b,vn,vk] 27)) b (.slice (some ⟨wr.heap.size,0,none⟩) 1 1) [x]:=
 R_litd nodeK wr b 27 (reps1 h) (fun _ _=>trivial) trivial hb (by simp)
theorem KR.lit2(h:Tr wr b x vn vk)(h2:Tr wr b y un uk)(hb:b<=wr.heap.size):KR (wr.alloc (.cells #[.int .i64 x.k,.string x.s,.float .f64 x.x,.int .i64 x.n,.bool x.b,vn,vk,.int .i64 y.k,.string y.s,.float .f64 y.x,.int .i64 y.n,.bool y.b,un,uk] 27)) b (.slice (some ⟨wr.heap.size,0,none⟩) 2 2) [x,y]:=
 R_litd nodeK wr b 27 (xs:=[x,y]) (Kd.reps_append (reps1 h) (reps1 h2)) (fun _ _=>trivial) trivial hb (by simp)
theorem NR.lit1(wr:World)(b:Nat)(hb:b<=wr.heap.size)(s:ByteArray):NR (wr.alloc (.cells #[.string s] 9)) b (.slice (some ⟨wr.heap.size,0,none⟩) 1 1) [s]:=
 R_litd Kd.string wr b 9 (xs:=[s]) (inner:=[.string s]) (okp:=fun _=>True) (Kd.reps_scalar [s]) (fun _ _=>trivial) trivial hb (by simp)
theorem NR.lit0(wr:World)(b:Nat)(hb:b<=wr.heap.size):NR (wr.alloc (.cells #[] 9)) b (.slice (some ⟨wr.heap.size,0,none⟩) 0 0) []:=
 R_nild Kd.string wr b 9 trivial hb
end
structure Mv(E:Env)(a:Nat)(c:Int)(a':Nat)(c':Int)(wt m:Nat):Prop where
 le:a<=a'
 lt:a'<E.n
 pr:m=0->a+1<E.n->a<a'
 good:c'=0->c=0/\wt<=3*(a'-a)+m
def NodeR(E:Env)(w:World)(a:Nat)(c:Int)(s:Srt)(k m:Nat)(T:Nd->Prop)(e:Ending)(w':World):Prop:=
 ∃(x:Nd) (An:Option Addr) (cn:Nat) (Ak:Option Addr) (ck:Nat) (a':Nat) (c':Int),e = .returned (.agg #[.int .i64 x.k,.string x.s,.float .f64 x.x,.int .i64 x.n,.bool x.b,(.slice An x.names.length cn),(.slice Ak x.kids.length ck)])/\Tr w' w.heap.size x (.slice An x.names.length cn) (.slice Ak x.kids.length ck)/\Ok (c'=0) s x/\T x/\Mv E a c a' c' (x.wt+k) m/\Pt E w w' a' c'
def ListR(E:Env)(w:World)(a:Nat)(c:Int)(k:Nat)(e:Ending)(w':World):Prop:=
 ∃(xs:List Nd) (A:Option Addr) (cp:Nat) (a':Nat) (c':Int),e = .returned (.slice A xs.length cp)/\KR w' w.heap.size (.slice A xs.length cp) xs/\(∀x∈xs,Ok (c'=0) .e x)/\xs.length<=3000/\Mv E a c a' c' (wts xs+k) 0/\Pt E w w' a' c'
def ndS(s:ByteArray):Nd:=⟨24,s,0,0,false,[],[]⟩
def ndIx(x:Nd)(s:ByteArray):Nd:=⟨28,⟨#[]⟩,0,0,false,[],[x,ndS s]⟩
section
variable {E:Env} {w wr w1 w2:World} {a a' b b' q:Nat} {c c':Int} {x y:Nd} {vn vk un uk v:Value}
theorem Tr.str(w:World)(b:Nat)(s:ByteArray):Tr w b (ndS s) (.slice none 0 0) (.slice none 0 0):=Tr.mk (NR.nil _ _) (KR.nil _ _)
set_option maxRecDepth 10000 in
theorem index_any(h:Tr w b x vn vk)(hb:b<=w.heap.size)(s:ByteArray):Calls Tryz.prog 125 #[.agg #[.int .i64 x.k,.string x.s,.float .f64 x.x,.int .i64 x.n,.bool x.b,vn,vk],.string s] w fun e w'=>∃uk,e = .returned (.agg #[.int .i64 28,.string ⟨#[]⟩,.float .f64 0,.int .i64 0,.bool false,.slice none 0 0,uk])/\Tr w' b (ndIx x s) (.slice none 0 0) uk/\Below w.heap.size w w':=by
 have HT:=aM h;have HB:=aM hb;obtain⟨⟨An,cn,rfl⟩,⟨Ak,ck,rfl⟩⟩:=And.intro h.rows.1.sl h.rows.2.sl;clear h hb;go_enter Tryz.func125,Tryz.ntmps125
 go_wp2_with fail;have e2:((w.alloc (.cells #[.int .i64 x.k,.string x.s,.float .f64 x.x,.int .i64 x.n,.bool x.b,.slice An x.names.length cn,.slice Ak x.kids.length ck] 27)).alloc (.cells #[.int .i64 28,.string ⟨#[]⟩,.float .f64 0,.int .i64 0,.bool false,.slice none 0 0,.slice (some ⟨w.heap.size+1+1,0,none⟩) 2 2] 27)).heap.size=w.heap.size+1+1:=by simp
 have e1:(w.alloc (.cells #[.int .i64 x.k,.string x.s,.float .f64 x.x,.int .i64 x.n,.bool x.b,.slice An x.names.length cn,.slice Ak x.kids.length ck] 27)).heap.size=w.heap.size+1:=by simp
 have hk:=KR.lit2 ((HT.out.alloc (.cells #[.int .i64 x.k,.string x.s,.float .f64 x.x,.int .i64 x.n,.bool x.b,.slice An x.names.length cn,.slice Ak x.kids.length ck] 27)).alloc (.cells #[.int .i64 28,.string ⟨#[]⟩,.float .f64 0,.int .i64 0,.bool false,.slice none 0 0,.slice (some ⟨w.heap.size+1+1,0,none⟩) 2 2] 27)) (Tr.str _ b s) (by rw[e2];have:=HB.out;omega);have hv:=blk_new (w.alloc (.cells #[.int .i64 x.k,.string x.s,.float .f64 x.x,.int .i64 x.n,.bool x.b,.slice An x.names.length cn,.slice Ak x.kids.length ck] 27)) (.cells #[.int .i64 28,.string ⟨#[]⟩,.float .f64 0,.int .i64 0,.bool false,.slice none 0 0,.slice (some ⟨w.heap.size+1+1,0,none⟩) 2 2] 27);rw[e2] at hk;rw[e1] at hv;have hv2:=blk_alloc hv (.cells #[.int .i64 x.k,.string x.s,.float .f64 x.x,.int .i64 x.n,.bool x.b,.slice An x.names.length cn,.slice Ak x.kids.length ck,.int .i64 24,.string s,.float .f64 0,.int .i64 0,.bool false,.slice none 0 0,.slice none 0 0] 27);obtain⟨q0,q1,q2,q3,q4,q5,q6⟩:=bC7 hv2;refine bodyPost_ret (v:= .agg #[.int .i64 28,.string ⟨#[]⟩,.float .f64 0,.int .i64 0,.bool false,.slice none 0 0,.slice (some ⟨w.heap.size+1+1,0,none⟩) 2 2]) (by simp[results,Tryz.results125,go_sem,q0,q1,q2,q3,q4,q5,q6]) rfl ?_;exact⟨_,rfl,Tr.mk (NR.nil _ _) hk,bA (bA (bA (bR _ _) _) _) _⟩
end
section
variable {E:Env} {w wr w1 w2:World} {a a' b b2 q:Nat} {c c':Int} {x y:Nd} {vn vk un uk v:Value} {xs:List Nd} {ns:List ByteArray} {cs:Array Value}
variable {ops:Array Oper} {rest:List Oper} {o:Oper} {act:Act} {Q:Exit->Act->World->Prop} {K:Act->World->Prop}
theorem Pt.grown(h:Pt E w wr a c)(h0:Ps E w a' c')(hE:E.Fine)(hB:E.w0.heap.size<=w.heap.size){row:Option Nat}(hg:wr.grownBy w1 row)(hr:∀k,row=some k->w.heap.size<=k):Pt E w w1 a c:=by
 obtain⟨va,lo,h1,h2⟩:=h.s;obtain⟨va',lo',h3,h4⟩:=h0;have hgl:=blk_lt h3;have htl:=blk_lt h4;refine⟨⟨va,lo,blk_grown h1 hg (fun e=> ?_),blk_grown h2 hg (fun e=> ?_)⟩,⟨pw_below_grown h.k.b row h.k.b.size hg (fun k hk=>Nat.le_trans hB (hr k hk)),?_⟩⟩
 ·have:=hr _ e.symm;omega
 ·have:=hr _ e.symm;omega
 ·have hk2:KeepBut wr w1 E.g row:=KeepBut.of_grown hg E.g
  refine⟨Nat.le_trans h.k.k.1 hk2.1,fun i hi hne hn=> ?_⟩;rw[hk2.2 i (Nat.lt_of_lt_of_le hi h.k.k.1) hne (fun e=> ?_),h.k.k.2 i hi hne hn];have:=hr _ e.symm;omega
theorem Vb.grown(h:Vb wr q cs){row:Option Nat}(hg:wr.grownBy w1 row)(hr:∀k,row=some k->b<=k)(hq:q<b):Vb w1 q cs:=
 blk_grown h hg (fun e=>by have:=hr _ e.symm;omega)
theorem KR.push_stepd(W:World)(hw:Region.wanted o (yielded ops act.tmps)=true)(s p:Operand)(ho:o.op = .call {callee:= .builtin .append,args:= #[s,p],argTypes:= #[25,25]})
  (hs:act.eval s=v) (h:KR wr b v xs) {N:Nat} (hp:act.eval p = .slice (some ⟨N,0,none⟩) 1 1) (hN:wr.heap.size=N) (hy:Tr wr b2 y un uk) (hb:b<=b2) (hv:∀k,v.ownBlock=some k->k<b2)
  (hW:W=wr.alloc (.cells #[.int .i64 y.k,.string y.s,.float .f64 y.x,.int .i64 y.n,.bool y.b,un,uk] 27)) (hb0:b<=wr.heap.size) (hl:xs.length<=100000)
  (h0:Ps E w a' c') (hE:E.Fine) (hB:E.w0.heap.size<=w.heap.size) (hwb:w.heap.size<=b) (hP:Pt E w wr a c)
  (hK:∀A1 c1 w1,KR w1 b (.slice A1 (xs.length+1) c1) (xs++[y])->Pt E w w1 a c->(∀q cs,q<b->Vb wr q cs->Vb w1 q cs)->wr.grownBy w1 v.ownBlock->K (act.put o.dst (.slice A1 (xs.length+1) c1)) w1):
  if Region.wanted o (yielded ops act.tmps)=true then Oper.wp Tryz.prog o act W K Q else K (act.put o.dst undef) W:=by
 subst hW;subst hN;refine Kd.R_append_step (P:=Tryz.prog) nodeK (w0:=wr) b hw s p 25 27 (.agg #[.int .i64 0,.string ⟨#[]⟩,.float .f64 0,.int .i64 0,.bool false,.slice none 0 0,.slice none 0 0]) 96 ho Tryz.underlying25 info27 rfl (by decide) (by decide) v xs y [.int .i64 y.k,.string y.s,.float .f64 y.x,.int .i64 y.n,.bool y.b,un,uk] (fun _=>True) (fun k=>some k≠v.ownBlock) hs hp
  (nodeK.M_lower hb (nodeK.M_mono (fun k hk e=> ?_) (nodeK.M_bound hy))) (fun k hk=>⟨trivial,hk⟩) (fun k hk=>trivial) h (bR _ _) hb0 (by omega) ?_
 ·have:=hv _ e.symm
  have:=hk.2.1;omega
 ·intro v1 w1 hR _ hg _
  obtain⟨A1,c1,rfl⟩:=Kd.R_slice hR;rw[List.length_append,List.length_singleton] at hR|-;have hr:∀k,v.ownBlock=some k->b<=k:=fun k hk=>Kd.R_base h k hk
  exact hK A1 c1 w1 hR (hP.grown h0 hE hB hg (fun k hk=>Nat.le_trans hwb (hr k hk))) (fun q cs hq hV=>hV.grown hg hr hq) hg
theorem NR.grown(h:NR wr b v ns){un:Value}(hk:KR wr b2 un xs)(hg:wr.grownBy w1 un.ownBlock):NR w1 b v ns:=by
 obtain⟨inner,ho⟩:=Kd.R_own hk;refine Kd.R_mono (Kd.R_grown (Kd.R_bound h) hg (fun k hk2 e=> ?_)) (fun _ _=>trivial);obtain⟨cs,hc⟩:=own_typed ho k e.symm;obtain⟨_,_,_,q,hq,cs',hc'⟩:=hk2;rw[hc] at hc'
 injection hc' with hc'
 injection hc' with _ hc'
 have h9:q=9:=List.mem_singleton.1 hq;rw[h9] at hc';exact absurd hc' (by decide)
theorem KR.lt(h:KR wr b v xs):∀k,v.ownBlock=some k->k<wr.heap.size:=Kd.R_lt h
theorem NR.push(hgd:o.guard=none)(s p:Operand)(ho:o.op = .call {callee:= .builtin .append,args:= #[s,p],argTypes:= #[24,24]})
  (hs:act.eval s=v) (h:NR wr b v ns) {N:Nat} (hp:act.eval p = .slice (some ⟨N,0,none⟩) 1 1) (hN:wr.heap.size=N) (t:ByteArray)
  (hb0:b<=wr.heap.size) (hl:ns.length<=100000)
  (h0:Ps E w a' c') (hE:E.Fine) (hB:E.w0.heap.size<=w.heap.size) (hwb:w.heap.size<=b) (hP:Pt E w wr a c)
  (hK:∀A1 c1 w1,NR w1 b (.slice A1 (ns.length+1) c1) (ns++[t])->Pt E w w1 a c->(∀q cs,q<b->Vb wr q cs->Vb w1 q cs)->wpList Tryz.prog ops Q rest (act.put o.dst (.slice A1 (ns.length+1) c1)) w1):
  wpList Tryz.prog ops Q (o::rest) act (wr.alloc (.cells #[.string t] 9)):=by
 subst hN;refine Kd.R_append (P:=Tryz.prog) Kd.string (w0:=wr) b hgd s p 24 9 (.string ⟨#[]⟩) 16 ho Tryz.underlying24 info9 rfl (by decide) (by decide) v ns t [.string t] (fun _=>True) (fun _=>False) hs hp
  rfl (fun k hk=>hk.elim) (fun k hk=>trivial) h (bR _ _) hb0 (by omega) ?_
 intro v1 w1 hR _ hg _;obtain⟨A1,c1,rfl⟩:=Kd.R_slice hR;rw[List.length_append,List.length_singleton] at hR|-;have hr:∀k,v.ownBlock=some k->b<=k:=fun k hk=>Kd.R_base h k hk
 exact hK A1 c1 w1 hR (hP.grown h0 hE hB hg (fun k hk=>Nat.le_trans hwb (hr k hk))) (fun q cs hq hV=>hV.grown hg hr hq)
def NamesR(E:Env)(w:World)(a:Nat)(c:Int)(e:Ending)(w':World):Prop:=
 ∃(ns:List ByteArray) (v:Value) (a':Nat) (c':Int),e = .returned v/\NR w' w.heap.size v ns/\ns≠[]/\ns.length<=3000/\(c'=0->∀nm∈ns,NameT nm/\nm.size<=2000)/\Mv E a c a' c' (3*ns.length) 0/\Pt E w w' a' c'
set_option maxRecDepth 10000 in
set_option maxHeartbeats 1000000 in
theorem names_any(hE:E.Fine)(h:Ps E w a c)(hB:Below E.w0.heap.size E.w0 w)(ha:a<E.n):Calls Tryz.prog 124 #[.pointer (some ⟨E.g,0,none⟩)] w fun e w'=>NamesR E w a c e w':=by
 have HE:=aM hE;have hpos:=hE.pos;have hlen:=hE.len;have HP:=aM h;have HB0:=aM hB.size;go_enter Tryz.func124,Tryz.ntmps124
 go_wp2_with fail;refine(name_any hE h hB ha).mono ?_;rintro e w1 ⟨s,a1,c1,rfl,hs,h1,h2,h3,h4,h5⟩;have H:=aM h5;have hN:=NR.lit1 w1 w.heap.size h5.size s;have HC:=aM h4;clear h h5 h4 hB;go_wp2_with fail;go_loopg [3] (E.n-a1) (fun k v wr=>∃(ns:List ByteArray) (a':Nat) (c':Int),k=E.n-a'/\a'<E.n/\a<=a'/\Aside0 (a+1<E.n->a<a')/\ns.length<=a'+1/\ns≠[]/\Aside0 (NR wr w.heap.size v ns)/\Aside0 (c'=0->c=0/\a+ns.length<=a'/\∀nm∈ns,NameT nm/\nm.size<=2000)/\Aside0 (Pt E w wr a' c'))
 case atStart=>
  refine⟨[s],a1,c1,rfl,h2,h1,⟨h3⟩,by simp,by simp,⟨hN⟩,⟨fun h0=> ?_⟩,⟨H.out.alloc _⟩⟩;obtain⟨p1,p2,p3,p4⟩:=HC.out h0;refine⟨p1,by simp;omega,fun nm hm=> ?_⟩;simp at hm;subst hm;exact⟨p4,hs⟩
 case round=>
  clear H hN HC h1 h2 h3;obtain⟨ns,a2,c2,hk,h1,h2,h3,h4,h5,N,G,H⟩:=hrel;go_wp2_with fail;refine(hasSign_any HE.out H.out.s H.out.B h1 _).mono ?_;rintro e w2 ⟨b,a3,rfl,hb,q1,q2,hp⟩;have N2:=aM (N.out.keep H.out.s hp);have H2:=aM (H.out.step hp);clear hp hb
  cases b with
  |false=>
   obtain rfl:=q2 rfl;obtain⟨A,cp,rfl⟩:=N2.out.sl;go_wp2_with fail;go_ret;exact⟨ns,_,a3,c2,rfl,N2.out,h5,by omega,fun h0=>(G.out h0).2.2,⟨h2,h1,fun _=>h3.out,fun h0=>⟨(G.out h0).1,by have:=(G.out h0).2.1;omega⟩⟩,H2.out⟩
  |true=>
   obtain⟨rfl,hlt⟩:=q1 rfl;clear q1 q2;go_wp2_with fail;refine(name_any HE.out H2.out.s H2.out.B hlt).mono ?_;rintro e w3 ⟨t,a4,c4,rfl,ht,q1,q2,q3,q4,hp⟩;have N3:=aM (N2.out.keep H2.out.s hp);have H3:=aM (H2.out.step hp);have G3:=aM (show c4=0->c=0/\a+(ns++[t]).length<=a4/\∀nm∈ns++[t],NameT nm/\nm.size<=2000 from fun h0=>by
    obtain⟨p1,p2,p3,p4⟩:=q4 h0;obtain⟨r1,r2,r3⟩:=G.out p1;refine⟨r1,by simp;omega,fun nm hm=> ?_⟩;rcases List.mem_append.1 hm with hm|hm
    ·exact r3 nm hm
    ·simp at hm
     subst hm;exact⟨p4,ht⟩)
   clear hp q4;go_wp2_with (at_builtin;refine NR.push rfl (.tmp 9) (.tmp 12) (by rfl) (by rfl) N3.out (by rfl) (by rfl) t H3.out.size (by omega) HP.out HE.out HB0.out (Nat.le_refl _) H3.out ?_;intro A5 n5 w5 hN5 hP5 _;have N5:=aM hN5;have H5:=aM hP5;clear hN5 hP5)
   go_roundg (E.n-a4)
   case measure=>omega
   case rel=>exact⟨_,a4,c4,rfl,q2,by omega,⟨fun _=>by omega⟩,by simp;omega,by simp,N5,G3,H5⟩
end
def rdNd(xs:List Nd)(i:Int):Nd:=xs.getD i.toNat zNd
theorem at_nd{w:World}{A:Option Addr}{n:Nat}{xs:List Nd}(h:Kd.C nodeK w A n xs)(i:Int)(h0:0<=i)(h1:i<n):∃ad An cn Ak ck,A=some ad/\w.cell? (ad.add (i.toNat*7))=some (.int .i64 (rdNd xs i).k)/\w.cell? ⟨(ad.add (i.toNat*7)).block,(ad.add (i.toNat*7)).off+1,none⟩=some (.string (rdNd xs i).s)/\w.cell? ⟨(ad.add (i.toNat*7)).block,(ad.add (i.toNat*7)).off+2,none⟩=some (.float .f64 (rdNd xs i).x)/\w.cell? ⟨(ad.add (i.toNat*7)).block,(ad.add (i.toNat*7)).off+3,none⟩=some (.int .i64 (rdNd xs i).n)/\w.cell? ⟨(ad.add (i.toNat*7)).block,(ad.add (i.toNat*7)).off+4,none⟩=some (.bool (rdNd xs i).b)/\w.cell? ⟨(ad.add (i.toNat*7)).block,(ad.add (i.toNat*7)).off+5,none⟩=some (.slice An (rdNd xs i).names.length cn)/\w.cell? ⟨(ad.add (i.toNat*7)).block,(ad.add (i.toNat*7)).off+6,none⟩=some (.slice Ak (rdNd xs i).kids.length ck)/\(rdNd xs i).names.length<=cn/\Kd.string.C w An (rdNd xs i).names.length (rdNd xs i).names/\(rdNd xs i).kids.length<=ck/\nodeK.C w Ak (rdNd xs i).kids.length (rdNd xs i).kids:=by
 obtain⟨ad,c,e,_,hK,hc0⟩:=Kd.C_get h zNd i h0 h1;have hc:∀j u,c[j]? = some u->w.cell? (ad.add (i.toNat*7+j))=some u:=hc0;obtain⟨An,cn,Ak,ck,rfl,l1,k1,l2,k2⟩:=node_openK hK;exact⟨ad,An,cn,Ak,ck,e,hc 0 _ rfl,by rw[<-add_field _ _ 1 (by omega)];exact hc 1 _ rfl,by rw[<-add_field _ _ 2 (by omega)];exact hc 2 _ rfl,by rw[<-add_field _ _ 3 (by omega)];exact hc 3 _ rfl,by rw[<-add_field _ _ 4 (by omega)];exact hc 4 _ rfl,by rw[<-add_field _ _ 5 (by omega)];exact hc 5 _ rfl,by rw[<-add_field _ _ 6 (by omega)];exact hc 6 _ rfl,l1,k1,l2,k2⟩
section
variable {w wr w1:World} {q base:Nat} {cs:Array Value}
theorem set7(hv:wr.heap[q]? = some (.cells cs 27 (0,0)))(hcs:cs.size=7)(hB:Below base w wr)(hq:base<=q)(u0 u1 u2 u3 u4 u5 u6:Value):
  Below base w (((((((wr.setCell ⟨q,0,none⟩ u0).setCell ⟨q,1,none⟩ u1).setCell ⟨q,2,none⟩ u2).setCell ⟨q,3,none⟩ u3).setCell ⟨q,4,none⟩ u4).setCell ⟨q,5,none⟩ u5).setCell ⟨q,6,none⟩ u6)/\(((((((wr.setCell ⟨q,0,none⟩ u0).setCell ⟨q,1,none⟩ u1).setCell ⟨q,2,none⟩ u2).setCell ⟨q,3,none⟩ u3).setCell ⟨q,4,none⟩ u4).setCell ⟨q,5,none⟩ u5).setCell ⟨q,6,none⟩ u6).heap[q]? = some (.cells #[u0,u1,u2,u3,u4,u5,u6] 27 (0,0)):=by
 refine⟨((((((hB.setCell (p:=⟨q,0,none⟩) hq u0).setCell (p:=⟨q,1,none⟩) hq u1).setCell (p:=⟨q,2,none⟩) hq u2).setCell (p:=⟨q,3,none⟩) hq u3).setCell (p:=⟨q,4,none⟩) hq u4).setCell (p:=⟨q,5,none⟩) hq u5).setCell (p:=⟨q,6,none⟩) hq u6,?_⟩;refine(blk_set (blk_set (blk_set (blk_set (blk_set (blk_set (blk_set hv 0 u0) 1 u1) 2 u2) 3 u3) 4 u4) 5 u5) 6 u6).trans ?_;obtain⟨l⟩:=cs
 match l,hcs with
 |[_,_,_,_,_,_,_],_=>rfl
structure Rv(w wr:World)(q:Nat)(x:Nd)(An:Option Addr)(cn:Nat)(Ak:Option Addr)(ck:Nat):Prop where
 b:Below w.heap.size w wr
 v:wr.heap[q]? = some (.cells #[.int .i64 x.k,.string x.s,.float .f64 x.x,.int .i64 x.n,.bool x.b,.slice An x.names.length cn,.slice Ak x.kids.length ck] 27 (0,0))
 l1:x.names.length<=cn
 n:Kd.string.C wr An x.names.length x.names
 l2:x.kids.length<=ck
 k:nodeK.C wr Ak x.kids.length x.kids
end
theorem Ok.paren{g:Prop}{x:Nd}(h:Ok g .e x)(hk:x.k=33):∃y,x.kids=[y]/\Ok g .e y:=by
 cases h with
 |atom h1 _=>omega
 |fn h1 _ _ _=>omega
 |ix h1 _ _ _ _=>omega
 |call h1 _ _ _ _=>omega
 |bin h1 _ _ _ _=>omega
 |un h1 h2 h3 h4=>exact⟨_,h3,h4⟩
 |tab h1 _ _=>omega
section
variable {w:World} {x:Nd} {g:Prop} {An Ak:Option Addr} {cn ck:Nat}
set_option maxRecDepth 10000 in
set_option maxHeartbeats 1000000 in
theorem isCall_any(hO:Ok g .e x)(hk:nodeK.K w x [.int .i64 x.k,.string x.s,.float .f64 x.x,.int .i64 x.n,.bool x.b,.slice An x.names.length cn,.slice Ak x.kids.length ck]):Calls Tryz.prog 128 #[.agg #[.int .i64 x.k,.string x.s,.float .f64 x.x,.int .i64 x.n,.bool x.b,.slice An x.names.length cn,.slice Ak x.kids.length ck]] w fun e w'=>∃b:Bool,e = .returned (.bool b)/\Below w.heap.size w w':=by
 obtain⟨An',cn',Ak',ck',he,l1,k1,l2,k2⟩:=node_openK hk;simp only[List.cons.injEq,Value.slice.injEq,and_true,true_and] at he;obtain⟨⟨rfl,rfl⟩,rfl,rfl⟩:=he;have H0:=aM (show nodeK.C w Ak x.kids.length x.kids from k2);have HO:=aM hO;clear hk k1 k2 hO;go_enter Tryz.func128,Tryz.ntmps128
 go_wp2_with fail;go_loopg [] x.wt (fun k wr=>∃(y:Nd) (An:Option Addr) (cn:Nat) (Ak:Option Addr) (ck:Nat),k=y.wt/\Aside0 (Ok g .e y)/\y.kids.length<=ck/\Aside0 (nodeK.C w Ak y.kids.length y.kids)/\Aside0 (Below w.heap.size w wr)/\Aside0 (Vb wr w.heap.size #[.int .i64 y.k,.string y.s,.float .f64 y.x,.int .i64 y.n,.bool y.b,.slice An y.names.length cn,.slice Ak y.kids.length ck]))
 case atStart=>exact⟨x,An,cn,Ak,ck,rfl,HO,l2,H0,⟨bA (bR _ _) _⟩,⟨Vb.new _ _⟩⟩
 case round=>
  clear H0 HO;obtain⟨y,An,cn,Ak,ck,hk,HO,hl,HC,HB,HV⟩:=hrel;obtain⟨y0,y1,y2,y3,y4,y5,y6⟩:=bC7 HV.out;obtain⟨f0,f1,f2,f3,f4,f5,f6⟩:=bF7 HV.out
  by_cases h33:y.k=33
  ·have hkb:(y.k==33)=true:=beq_iff_eq.2 h33
   obtain⟨z,hz,hzo⟩:=HO.out.paren h33;have hzw:z.wt<y.wt:=by
    rw[wt_eq y,hz];simp only[wts];omega
   have HZ:=aM hzo;have hl1:y.kids.length=1:=by rw[hz];rfl
   obtain⟨ad,Bn,dn,Bk,dk,rfl,x0,x1,x2,x3,x4,x5,x6,m1,m2,m3,m4⟩:=at_nd HC.out 0 (by omega) (by omega)
   have e0:rdNd y.kids 0=z:=by rw[hz];rfl
   rw[e0] at x0 x1 x2 x3 x4 x5 x6 m3 m4;simp only[Int.toNat_zero,Nat.zero_mul,Addr.add_zero'] at x0 x1 x2 x3 x4 x5 x6;replace x0:=pB HB.out x0;replace x1:=pB HB.out x1;replace x2:=pB HB.out x2;replace x3:=pB HB.out x3;replace x4:=pB HB.out x4;replace x5:=pB HB.out x5;replace x6:=pB HB.out x6;rw[hl1] at y6 hl;have HK:=aM m4;have HWT:=aM hzw;clear m4 m2 e0 HO hzw hz h33;go_wp2_with fail;have HF:=aM (set7 HV.out rfl HB.out (Nat.le_refl _) (.int .i64 z.k) (.string z.s) (.float .f64 z.x) (.int .i64 z.n) (.bool z.b) (.slice Bn z.names.length dn) (.slice Bk z.kids.length dk));go_roundg z.wt
   case measure=>rw[hk];exact HWT.out
   case rel=>exact⟨z,Bn,dn,Bk,dk,rfl,HZ,m3,HK,⟨HF.out.1⟩,⟨HF.out.2⟩⟩
  ·have hkb:(y.k==33)=false:=beq_eq_false_iff_ne.2 h33
   clear h33;obtain⟨b1,hb1⟩:∃b:Bool,(y.k==29)=b:=⟨_,rfl⟩;obtain⟨b2,hb2⟩:∃b:Bool,(y.k==30)=b:=⟨_,rfl⟩
   cases b1 with
   |true=>
    go_wp2_with fail;go_ret;exact⟨_,rfl,HB.out⟩
   |false=>
    go_wp2_with fail;go_ret;exact⟨_,rfl,HB.out⟩
end
def NK(w:World)(x:Nd)(An:Option Addr)(cn:Nat)(Ak:Option Addr)(ck:Nat):Prop:=nodeK.K w x [.int .i64 x.k,.string x.s,.float .f64 x.x,.int .i64 x.n,.bool x.b,(.slice An x.names.length cn),(.slice Ak x.kids.length ck)]
section
variable {w wr:World} {x:Nd} {An Ak:Option Addr} {cn ck:Nat}
theorem NK.below(h:NK w x An cn Ak ck)(hb:Below w.heap.size w wr):NK wr x An cn Ak ck:=nodeK.K_below hb h
theorem NK.kids(h:NK w x An cn Ak ck):x.kids.length<=ck/\nodeK.C w Ak x.kids.length x.kids:=by
 obtain⟨An',cn',Ak',ck',he,l1,k1,l2,k2⟩:=node_openK h;simp only[List.cons.injEq,Value.slice.injEq,and_true,true_and] at he;obtain⟨⟨rfl,rfl⟩,rfl,rfl⟩:=he;exact⟨l2,k2⟩
theorem NK.names(h:NK w x An cn Ak ck):x.names.length<=cn/\Kd.string.C w An x.names.length x.names:=by
 obtain⟨An',cn',Ak',ck',he,l1,k1,l2,k2⟩:=node_openK h;simp only[List.cons.injEq,Value.slice.injEq,and_true,true_and] at he;obtain⟨⟨rfl,rfl⟩,rfl,rfl⟩:=he;exact⟨l1,k1⟩
theorem kid_at{xs:List Nd}{n:Nat}(hC:nodeK.C w Ak n xs)(hb:Below w.heap.size w wr)(i:Nat)(hi:i<n):∃ad y Bn dn Bk dk,Ak=some ad/\xs[i]? = some y/\y∈xs/\wr.cell? (ad.add (i*7))=some (.int .i64 y.k)/\wr.cell? ⟨(ad.add (i*7)).block,(ad.add (i*7)).off+1,none⟩=some (.string y.s)/\wr.cell? ⟨(ad.add (i*7)).block,(ad.add (i*7)).off+2,none⟩=some (.float .f64 y.x)/\wr.cell? ⟨(ad.add (i*7)).block,(ad.add (i*7)).off+3,none⟩=some (.int .i64 y.n)/\wr.cell? ⟨(ad.add (i*7)).block,(ad.add (i*7)).off+4,none⟩=some (.bool y.b)/\wr.cell? ⟨(ad.add (i*7)).block,(ad.add (i*7)).off+5,none⟩=some (.slice Bn y.names.length dn)/\wr.cell? ⟨(ad.add (i*7)).block,(ad.add (i*7)).off+6,none⟩=some (.slice Bk y.kids.length dk)/\NK wr y Bn dn Bk dk:=by
 have hl:=Kd.C_len hC;obtain⟨ad,Bn,dn,Bk,dk,he,x0,x1,x2,x3,x4,x5,x6,m1,m2,m3,m4⟩:=at_nd (Kd.C_below hC hb) (i:Int) (by omega) (by omega)
 have ei:((i:Nat):Int).toNat=i:=by omega
 have hy:xs[i]? = some (rdNd xs (i:Int)):=by
  unfold rdNd;rw[ei,List.getD_eq_getElem?_getD,List.getElem?_eq_getElem (by omega)]
  rfl
 rw[ei] at x0 x1 x2 x3 x4 x5 x6;exact⟨ad,rdNd xs (i:Int),Bn,dn,Bk,dk,he,hy,List.mem_of_getElem? hy,x0,x1,x2,x3,x4,x5,x6,node_mkK m1 m2 m3 m4⟩
end
theorem wt_kid{x y:Nd}(h:y∈x.kids):y.wt<x.wt:=by
 have:=wts_mem h;have:=wt_eq x;omega
set_option maxRecDepth 10000 in
set_option maxHeartbeats 4000000 in
theorem depth_any:∀(m:Nat) (x:Nd),x.wt<=m->∀(w:World) (An:Option Addr) (cn:Nat) (Ak:Option Addr) (ck:Nat),NK w x An cn Ak ck->Calls Tryz.prog 23 #[.agg #[.int .i64 x.k,.string x.s,.float .f64 x.x,.int .i64 x.n,.bool x.b,(.slice An x.names.length cn),(.slice Ak x.kids.length ck)]] w fun e w'=>∃d:Int,e = .returned (.int .i64 d)/\Below w.heap.size w w':=by
 intro m
 induction m with
 |zero=>intro x hx;have:=wt_eq x;omega
 |succ m ih=>
  intro x hx w An cn Ak ck hk;have IH:=aM ih;have HC:=aM hk.kids.2;have HX:=aM hx;have hmax:=Kd.C_max hk.kids.2;clear ih hk hx;go_enter Tryz.func23,Tryz.ntmps23
  have HV0:=aM (Vb.new w #[.int .i64 x.k,.string x.s,.float .f64 x.x,.int .i64 x.n,.bool x.b,(.slice An x.names.length cn),(.slice Ak x.kids.length ck)]);have HB:=aM (bA (bR w.heap.size w) (.cells #[.int .i64 x.k,.string x.s,.float .f64 x.x,.int .i64 x.n,.bool x.b,(.slice An x.names.length cn),(.slice Ak x.kids.length ck)] 27));obtain⟨v0,v1,v2,v3,v4,v5,v6⟩:=bC7 HV0.out;go_wp2_with fail;go_loopg [3,9] x.kids.length (fun k v3 v9 wr=>∃(d:Int) (i:Nat),v3 = .int .i64 d/\v9 = .int .i64 (i:Int)/\k=x.kids.length-i/\i<=x.kids.length/\Aside0 (Below w.heap.size w wr))
  case atStart=>exact⟨0,0,rfl,rfl,rfl,Nat.zero_le _,HB⟩
  case round=>
   clear HB;obtain⟨d,i,rfl,rfl,hki,hi,HB⟩:=hrel
   by_cases hlt:i<x.kids.length
   case neg=>
    have hltI:¬((i:Int)<(x.kids.length:Int)):=by omega
    go_wp2_with fail;go_ret;exact⟨⟨_,rfl⟩,HB.out⟩
   case pos=>
    have hltI:(i:Int)<(x.kids.length:Int):=by omega
    have h0I:(0:Int)<=(i:Int):=by omega
    have qi:IntKind.i64.wrap ((i:Int)+1)=((i+1:Nat):Int):=by rw[IntWalk.i64_in _ (by omega)];omega
    obtain⟨ad,y,Bn,dn,Bk,dk,rfl,_,hy,x0,x1,x2,x3,x4,x5,x6,hk⟩:=kid_at HC.out HB.out i hlt;have ei:((i:Nat):Int).toNat=i:=by omega
    have HK:=aM (hk.below (bA (bR _ _) (.cells #[.int .i64 y.k,.string y.s,.float .f64 y.x,.int .i64 y.n,.bool y.b,(.slice Bn y.names.length dn),(.slice Bk y.kids.length dk)] 27)));have HY:=aM (show y.wt<=m by have:=wt_kid hy;have:=HX.out;omega);have HB2:=aM (bA HB.out (.cells #[.int .i64 y.k,.string y.s,.float .f64 y.x,.int .i64 y.n,.bool y.b,(.slice Bn y.names.length dn),(.slice Bk y.kids.length dk)] 27));clear hk hy;go_wp2_with fail;refine(IH.out y HY.out _ Bn dn Bk dk HK.out).mono ?_;rintro e w8 ⟨d2,rfl,hb⟩;replace HB:=aM (HB2.out.trans (hb.mono HB2.out.size));clear hb;go_wp2_with fail
    all_goals
     go_roundg (x.kids.length-(i+1))
     case measure=>omega
     case rel=>exact⟨_,i+1,rfl,by first|rfl|simp[qi],rfl,by omega,HB⟩
set_option maxRecDepth 10000 in
set_option maxHeartbeats 4000000 in
theorem names_any2:∀(m:Nat) (x:Nd),x.wt<=m->∀(w:World) (An:Option Addr) (cn:Nat) (Ak:Option Addr) (ck:Nat),NK w x An cn Ak ck->Calls Tryz.prog 24 #[.agg #[.int .i64 x.k,.string x.s,.float .f64 x.x,.int .i64 x.n,.bool x.b,(.slice An x.names.length cn),(.slice Ak x.kids.length ck)]] w fun e w'=>∃d:Int,e = .returned (.int .i64 d)/\Below w.heap.size w w':=by
 intro m
 induction m with
 |zero=>intro x hx;have:=wt_eq x;omega
 |succ m ih=>
  intro x hx w An cn Ak ck hk;have IH:=aM ih;have HC:=aM hk.kids.2;have HX:=aM hx;have hmax:=Kd.C_max hk.kids.2;clear ih hk hx;go_enter Tryz.func24,Tryz.ntmps24
  have HV0:=aM (Vb.new w #[.int .i64 x.k,.string x.s,.float .f64 x.x,.int .i64 x.n,.bool x.b,(.slice An x.names.length cn),(.slice Ak x.kids.length ck)]);have HB:=aM (bA (bR w.heap.size w) (.cells #[.int .i64 x.k,.string x.s,.float .f64 x.x,.int .i64 x.n,.bool x.b,(.slice An x.names.length cn),(.slice Ak x.kids.length ck)] 27));obtain⟨v0,v1,v2,v3,v4,v5,v6⟩:=bC7 HV0.out;go_wp2_with fail;go_loopg [3,12] x.kids.length (fun k v3 v9 wr=>∃(d:Int) (i:Nat),v3 = .int .i64 d/\v9 = .int .i64 (i:Int)/\k=x.kids.length-i/\i<=x.kids.length/\Aside0 (Below w.heap.size w wr))
  case atStart=>exact⟨_,0,rfl,rfl,rfl,Nat.zero_le _,HB⟩
  case round=>
   clear HB;obtain⟨d,i,rfl,rfl,hki,hi,HB⟩:=hrel
   by_cases hlt:i<x.kids.length
   case neg=>
    have hltI:¬((i:Int)<(x.kids.length:Int)):=by omega
    go_wp2_with fail;go_ret;exact⟨⟨_,rfl⟩,HB.out⟩
   case pos=>
    have hltI:(i:Int)<(x.kids.length:Int):=by omega
    have h0I:(0:Int)<=(i:Int):=by omega
    have qi:IntKind.i64.wrap ((i:Int)+1)=((i+1:Nat):Int):=by rw[IntWalk.i64_in _ (by omega)];omega
    obtain⟨ad,y,Bn,dn,Bk,dk,rfl,_,hy,x0,x1,x2,x3,x4,x5,x6,hk⟩:=kid_at HC.out HB.out i hlt;have ei:((i:Nat):Int).toNat=i:=by omega
    have HK:=aM (hk.below (bA (bR _ _) (.cells #[.int .i64 y.k,.string y.s,.float .f64 y.x,.int .i64 y.n,.bool y.b,(.slice Bn y.names.length dn),(.slice Bk y.kids.length dk)] 27)));have HY:=aM (show y.wt<=m by have:=wt_kid hy;have:=HX.out;omega);have HB2:=aM (bA HB.out (.cells #[.int .i64 y.k,.string y.s,.float .f64 y.x,.int .i64 y.n,.bool y.b,(.slice Bn y.names.length dn),(.slice Bk y.kids.length dk)] 27));clear hk hy;go_wp2_with fail;refine(IH.out y HY.out _ Bn dn Bk dk HK.out).mono ?_;rintro e w8 ⟨d2,rfl,hb⟩;replace HB:=aM (HB2.out.trans (hb.mono HB2.out.size));clear hb;go_wp2_with fail
    all_goals
     go_roundg (x.kids.length-(i+1))
     case measure=>omega
     case rel=>exact⟨_,i+1,rfl,by first|rfl|simp[qi],rfl,by omega,HB⟩
set_option maxRecDepth 10000 in
set_option maxHeartbeats 4000000 in
theorem wide_any:∀(m:Nat) (x:Nd),x.wt<=m->∀(w:World) (An:Option Addr) (cn:Nat) (Ak:Option Addr) (ck:Nat),NK w x An cn Ak ck->Calls Tryz.prog 25 #[.agg #[.int .i64 x.k,.string x.s,.float .f64 x.x,.int .i64 x.n,.bool x.b,(.slice An x.names.length cn),(.slice Ak x.kids.length ck)]] w fun e w'=>∃d:Bool,e = .returned (.bool d)/\Below w.heap.size w w':=by
 intro m
 induction m with
 |zero=>intro x hx;have:=wt_eq x;omega
 |succ m ih=>
  intro x hx w An cn Ak ck hk;have IH:=aM ih;have HC:=aM hk.kids.2;have HX:=aM hx;have hmax:=Kd.C_max hk.kids.2;clear ih hk hx;go_enter Tryz.func25,Tryz.ntmps25
  have HV0:=aM (Vb.new w #[.int .i64 x.k,.string x.s,.float .f64 x.x,.int .i64 x.n,.bool x.b,(.slice An x.names.length cn),(.slice Ak x.kids.length ck)]);have HB:=aM (bA (bR w.heap.size w) (.cells #[.int .i64 x.k,.string x.s,.float .f64 x.x,.int .i64 x.n,.bool x.b,(.slice An x.names.length cn),(.slice Ak x.kids.length ck)] 27));obtain⟨v0,v1,v2,v3,v4,v5,v6⟩:=bC7 HV0.out;obtain⟨b1,hb1⟩:∃b:Bool,(x.k != 1)=b:=⟨_,rfl⟩;obtain⟨b2,hb2⟩:∃b:Bool,decide ((x.kids.length:Int)>50)=b:=⟨_,rfl⟩;go_upto_region 1 with fail
  go_cut [13] from 5 to 13 (fun v wc=>∃b:Bool,v = .bool b/\wc=w.alloc (.cells #[.int .i64 x.k,.string x.s,.float .f64 x.x,.int .i64 x.n,.bool x.b,(.slice An x.names.length cn),(.slice Ak x.kids.length ck)] 27))
  case first=>
   by_cases h50:(x.kids.length:Int)>50
   all_goals
    cases b1 with
    |true=>
     go_wp2_with fail;go_meet
     case rel=>exact⟨_,rfl,rfl⟩
    |false=>
     go_wp2_with fail;go_meet
     case rel=>exact⟨_,rfl,rfl⟩
  obtain⟨b13,rfl,rfl⟩:=hcut
  cases b13 with
  |true=>
   go_wp2_with fail;go_ret
   first|exact⟨_,rfl,HB.out⟩|exact⟨.inl rfl,HB.out⟩|exact⟨.inr rfl,HB.out⟩
  |false=>
   go_wp2_with fail;go_loopg [17] x.kids.length (fun k v9 wr=>∃(i:Nat),v9 = .int .i64 (i:Int)/\k=x.kids.length-i/\i<=x.kids.length/\Aside0 (Below w.heap.size w wr))
   case atStart=>exact⟨0,rfl,rfl,Nat.zero_le _,HB⟩
   case round=>
    clear HB;obtain⟨i,rfl,hki,hi,HB⟩:=hrel
    by_cases hlt:i<x.kids.length
    case neg=>
     have hltI:¬((i:Int)<(x.kids.length:Int)):=by omega
     go_wp2_with fail;go_ret
     first|exact⟨_,rfl,HB.out⟩|exact⟨.inl rfl,HB.out⟩|exact⟨.inr rfl,HB.out⟩
    case pos=>
     have hltI:(i:Int)<(x.kids.length:Int):=by omega
     have h0I:(0:Int)<=(i:Int):=by omega
     have qi:IntKind.i64.wrap ((i:Int)+1)=((i+1:Nat):Int):=by rw[IntWalk.i64_in _ (by omega)];omega
     obtain⟨ad,y,Bn,dn,Bk,dk,rfl,_,hy,x0,x1,x2,x3,x4,x5,x6,hk⟩:=kid_at HC.out HB.out i hlt;have ei:((i:Nat):Int).toNat=i:=by omega
     have HK:=aM (hk.below (bA (bR _ _) (.cells #[.int .i64 y.k,.string y.s,.float .f64 y.x,.int .i64 y.n,.bool y.b,(.slice Bn y.names.length dn),(.slice Bk y.kids.length dk)] 27)));have HY:=aM (show y.wt<=m by have:=wt_kid hy;have:=HX.out;omega);have HB2:=aM (bA HB.out (.cells #[.int .i64 y.k,.string y.s,.float .f64 y.x,.int .i64 y.n,.bool y.b,(.slice Bn y.names.length dn),(.slice Bk y.kids.length dk)] 27));clear hk hy;go_wp2_with fail;refine(IH.out y HY.out _ Bn dn Bk dk HK.out).mono ?_;rintro e w8 ⟨d2,rfl,hb⟩;replace HB:=aM (HB2.out.trans (hb.mono HB2.out.size));clear hb
     cases d2 with
     |true=>
      go_wp2_with fail;go_ret
      first|exact⟨_,rfl,HB.out⟩|exact⟨.inl rfl,HB.out⟩|exact⟨.inr rfl,HB.out⟩
     |false=>
      go_wp2_with fail;go_roundg (x.kids.length-(i+1))
      case measure=>omega
      case rel=>exact⟨i+1,by first|rfl|simp[qi],rfl,by omega,HB⟩
set_option maxRecDepth 10000 in
set_option maxHeartbeats 4000000 in
theorem waiting_any:∀(m:Nat) (x:Nd),x.wt<=m->∀(w:World) (An:Option Addr) (cn:Nat) (Ak:Option Addr) (ck:Nat),NK w x An cn Ak ck->Calls Tryz.prog 26 #[.agg #[.int .i64 x.k,.string x.s,.float .f64 x.x,.int .i64 x.n,.bool x.b,(.slice An x.names.length cn),(.slice Ak x.kids.length ck)]] w fun e w'=>∃d:Int,e = .returned (.int .i64 d)/\Below w.heap.size w w':=by
 intro m
 induction m with
 |zero=>intro x hx;have:=wt_eq x;omega
 |succ m ih=>
  intro x hx w An cn Ak ck hk;have IH:=aM ih;have HC:=aM hk.kids.2;have HX:=aM hx;have hmax:=Kd.C_max hk.kids.2;clear ih hk hx;go_enter Tryz.func26,Tryz.ntmps26
  have HV0:=aM (Vb.new w #[.int .i64 x.k,.string x.s,.float .f64 x.x,.int .i64 x.n,.bool x.b,(.slice An x.names.length cn),(.slice Ak x.kids.length ck)]);have HB:=aM (bA (bR w.heap.size w) (.cells #[.int .i64 x.k,.string x.s,.float .f64 x.x,.int .i64 x.n,.bool x.b,(.slice An x.names.length cn),(.slice Ak x.kids.length ck)] 27));obtain⟨v0,v1,v2,v3,v4,v5,v6⟩:=bC7 HV0.out;go_wp2_with fail;go_loopg [3,10] x.kids.length (fun k v3 v9 wr=>∃(d:Int) (i:Nat),v3 = .int .i64 d/\v9 = .int .i64 (i:Int)/\k=x.kids.length-i/\i<=x.kids.length/\Aside0 (Below w.heap.size w wr)/\Aside0 (Vb wr w.heap.size #[.int .i64 x.k,.string x.s,.float .f64 x.x,.int .i64 x.n,.bool x.b,(.slice An x.names.length cn),(.slice Ak x.kids.length ck)]))
  case atStart=>exact⟨0,0,rfl,rfl,rfl,Nat.zero_le _,HB,HV0⟩
  case round=>
   clear HB HV0 v0 v1 v2 v3 v4 v5 v6;obtain⟨d,i,rfl,rfl,hki,hi,HB,HV0⟩:=hrel
   by_cases hlt:i<x.kids.length
   case neg=>
    have hltI:¬((i:Int)<(x.kids.length:Int)):=by omega
    obtain⟨v0,v1,v2,v3,v4,v5,v6⟩:=bC7 HV0.out;obtain⟨b1,hb1⟩:∃b:Bool,(x.k==9)=b:=⟨_,rfl⟩;obtain⟨b2,hb2⟩:∃b:Bool,(x.k==10)=b:=⟨_,rfl⟩;obtain⟨b3,hb3⟩:∃b:Bool,(x.k==3)=b:=⟨_,rfl⟩;cases b1<;>cases b2<;>cases b3
    all_goals
     go_wp2_with fail;go_ret;exact⟨⟨_,rfl⟩,HB.out⟩
   case pos=>
    have hltI:(i:Int)<(x.kids.length:Int):=by omega
    have h0I:(0:Int)<=(i:Int):=by omega
    have qi:IntKind.i64.wrap ((i:Int)+1)=((i+1:Nat):Int):=by rw[IntWalk.i64_in _ (by omega)];omega
    obtain⟨ad,y,Bn,dn,Bk,dk,rfl,_,hy,x0,x1,x2,x3,x4,x5,x6,hk⟩:=kid_at HC.out HB.out i hlt;have ei:((i:Nat):Int).toNat=i:=by omega
    have HK:=aM (hk.below (bA (bR _ _) (.cells #[.int .i64 y.k,.string y.s,.float .f64 y.x,.int .i64 y.n,.bool y.b,(.slice Bn y.names.length dn),(.slice Bk y.kids.length dk)] 27)));have HY:=aM (show y.wt<=m by have:=wt_kid hy;have:=HX.out;omega);have HB2:=aM (bA HB.out (.cells #[.int .i64 y.k,.string y.s,.float .f64 y.x,.int .i64 y.n,.bool y.b,(.slice Bn y.names.length dn),(.slice Bk y.kids.length dk)] 27));clear hk hy;replace HV0:=aM (HV0.out.alloc (.cells #[.int .i64 y.k,.string y.s,.float .f64 y.x,.int .i64 y.n,.bool y.b,(.slice Bn y.names.length dn),(.slice Bk y.kids.length dk)] 27));go_wp2_with fail;refine(IH.out y HY.out _ Bn dn Bk dk HK.out).mono ?_;rintro e w8 ⟨d2,rfl,hb⟩;replace HB:=aM (HB2.out.trans (hb.mono HB2.out.size));replace HV0:=aM (HV0.out.below hb);clear hb;have v0:=bC HV0.out 0;obtain⟨b1,hb1⟩:∃b:Bool,(x.k != 1)=b:=⟨_,rfl⟩;cases b1
    all_goals
     go_wp2_with fail
     all_goals
      go_roundg (x.kids.length-(i+1))
      case measure=>omega
      case rel=>exact⟨_,i+1,rfl,by first|rfl|simp[qi],rfl,by omega,HB,HV0⟩
end Go.Proofs.YtoimaaonloibfaaGreatDoor.Pa
namespace Go.Proofs.YtoimaaonloibfaaGreatDoor.PF
open Go.RowKit W1 W2 W3
attribute [local go_sem] max2_int min2_int max_two min_two max_three min_three max_four min_four
def spec_prJoin.l0:Nat->List ByteArray->List (List ByteArray)->Int->Int->Option (List ByteArray)
 |0,_,_,_,_=>none
 |k+1,x3,x7,x8,x9=>if x9<x8 then(if 0<=x9 then(if x9<(x7.length:Int) then(if x3.length+(rd_L3 x7 x9).length<8796093022208 then(spec_prJoin.l0 k (x3++(rd_L3 x7 x9)) x7 x8 (wrap64 (x9+1))) else(none)) else(none)) else(none)) else(some x3)
def spec_prJoin.f(k:Nat)(l0:List (List ByteArray)):Option (List ByteArray):=spec_prJoin.l0 k (([]:List ByteArray)) l0 (l0.length:Int) 0
set_option maxHeartbeats 8000000 in
set_option maxRecDepth 100000 in
theorem spec_prJoin.calls(k:Nat)(A0:Option Addr)(c0:Nat)(l0:List (List ByteArray))(r:List ByteArray)(w:World)(hr0:Kd.C (Kd.slice 9 Kd.string) w A0 l0.length l0)(hc0:l0.length<=c0)(h:spec_prJoin.f k l0=some r):
  Calls Tryz.prog 60 #[.slice A0 l0.length c0] w fun e w'=>∃v0_:Value,e = .returned (v0_)/\Kd.R Kd.string 9 w' w.heap.size (fun _=>True) v0_ r/\Below w.heap.size w w':=by
 have HR0:=aM hr0;have HC0:=aM hc0;clear hr0 hc0;have HB:=aM (bR w.heap.size w);have H:(spec_prJoin.l0 k (([]:List ByteArray)) l0 (l0.length:Int) 0)=some r:=h;clear h;obtain⟨y194,hy194⟩:∃y_:List ByteArray,y_=(([]:List ByteArray)):=⟨_,rfl⟩;replace H:(spec_prJoin.l0 k y194 l0 (l0.length:Int) 0)=some r:=by first|(rw[hy194];with_reducible exact H)|(have H2_:=(Option.bind_some _ _).symm.trans H;rw[hy194];with_reducible exact H2_)|(have H2_:=(Option.bind_some _ _).symm.trans H;with_reducible exact H2_)|with_reducible exact H|(rw[hy194];exact H)|exact H
 have Ny194:=aM hy194;clear hy194;have H':=aM H;clear H;go_enter Tryz.func60,Tryz.ntmps60
 go_wp2_with (first|((with_reducible refine gate_dst (N:=6) rfl ?_);refine Kd.R_lit Kd.string _ 9 ?hg (N:=6) ?hd (xs:=([]:List ByteArray)) (inner:=[]) (ok:=fun _=>True) (okp:=fun _=>True) ?hr ?hp (fun _ hk=>hk) trivial (bR _ _) (Nat.le_refl _) (by simp) ?_;(case hd=>rfl);(case hg=>rfl);(case hr=>first|(go_simp;done)|(go_simp;rfl));(case hp=>exact(Reps.none _ _));intro v195 w2 ho3 hb hg_ hnew_;clear hg_ hnew_;(first|rw[<-Ny194.out] at ho3|(simp only[Int.reduceToNat] at ho3;rw[<-Ny194.out] at ho3));have n0_:=aM (Kd.R_lower ho3 (below_size (by repeat (first|(with_reducible first|exact HB.out|apply bA|apply pD|apply bD)|exact HB.out))));have n1_:=aM (below_step (by repeat (first|(with_reducible first|exact HB.out|apply bA|apply pD|apply bD)|exact HB.out)) hb);clear HB;have HO196:=n0_;have HB:=n1_;clear n0_ n1_;clear hb ho3))
 go_loopg [3,9] k (fun kq v3 v9 w'=>∃(x3_1:List ByteArray) (x9_1:Int),v9 = .int .i64 x9_1/\Aside0 (spec_prJoin.l0 kq x3_1 l0 (l0.length:Int) x9_1=some r)/\Aside0 (kq<=k)/\Aside0 (Kd.R Kd.string 9 w' w.heap.size (fun _=>True) v3 x3_1)/\Aside0 (Below w.heap.size w w'))
 case atStart=>exact⟨(y194),(0),(by first|rfl|(simp;done)|(simp[*];done)),H',⟨Nat.le_refl _⟩,⟨by(with_reducible repeat (first|apply Kd.R_alloc|apply Kd.R_drewN|apply Kd.R_drew));exact HO196.out⟩,⟨by repeat (first|(with_reducible first|exact HB.out|apply bA|apply pD|apply bD)|exact HB.out)⟩⟩
 case round=>
  clear H'
  try clear p2
  obtain⟨x3_1,x9_1,rfl,HA,HK1,HO_3,HB⟩:=hrel
  cases gk with
  |zero=>exact absurd HA.out (by simp[spec_prJoin.l0])
  |succ k1=>
   have H:=HA.out;clear HA;simp only[spec_prJoin.l0] at H
   by_cases c4:x9_1<(l0.length:Int)
   ·rw[if_pos c4] at H
    have c4b0:decide (x9_1<(l0.length:Int))=true:=decide_eq_true c4;clear c4
    by_cases c5:0<=x9_1
    ·rw[if_pos c5] at H
     have c5b0:decide (0<=x9_1)=true:=decide_eq_true c5;clear c5
     by_cases c6:x9_1<(l0.length:Int)
     ·rw[if_pos c6] at H
      have c6b0:decide (x9_1<(l0.length:Int))=true:=decide_eq_true c6;clear c6
      by_cases c7:x3_1.length+(rd_L3 l0 x9_1).length<8796093022208
      ·rw[if_pos c7] at H
       have LMc7:=aM c7;clear c7;obtain⟨y198,hy198⟩:∃y_:List ByteArray,y_=(x3_1++(rd_L3 l0 x9_1)):=⟨_,rfl⟩;replace H:(spec_prJoin.l0 k1 y198 l0 (l0.length:Int) (wrap64 (x9_1+1)))=some r:=by first|(rw[hy198];with_reducible exact H)|(have H2_:=(Option.bind_some _ _).symm.trans H;rw[hy198];with_reducible exact H2_)|(have H2_:=(Option.bind_some _ _).symm.trans H;with_reducible exact H2_)|with_reducible exact H|(rw[hy198];exact H)|exact H
       have Ny198:=aM hy198;clear hy198;have H':=aM H;clear H;have p197:0<=(x9_1:Int):=of_decide_eq_true (by first|(with_reducible assumption)|assumption);have q197:x9_1<(l0.length:Int):=of_decide_eq_true (by first|(with_reducible assumption)|assumption);obtain⟨ad197,A197_0,c197_0,e197,hx197_0,hl197_0,hi197_0⟩:=at_L3 HR0.out x9_1 p197 q197
       cases e197
       replace hx197_0:=(HB.out.cell (World.block_lt_of_cell? w _ hx197_0)).trans hx197_0;have HR197_0:=aM hi197_0;have HC197_0:=aM hl197_0;clear hi197_0 hl197_0;replace p197:=eq_true p197;replace q197:=eq_true q197;go_wp2_with (first|((with_reducible refine gate_builtin (b:= .append) (xs:= #[.tmp 13,.tmp 14]) rfl ?_);at_builtin;refine Kd.R_append_rows Kd.string (w0:=w) w.heap.size rfl (.tmp 13) (.tmp 14) 24 9 (.string ⟨#[]⟩) 16 rfl Tryz.underlying24 info9 rfl (by decide) (by omega) u3 x3_1 (rd_L3 l0 x9_1) _ _ _ (fun _=>True) (fun _=>False) rfl rfl ?aO ?aR (fun _ _ h=>h) (fun _ h=>h.elim) ?aF ?aB ?aS ?aL ?_;(case aR=>repeat (first|exact(Kd.C_below HR197_0.out HB.out)|(with_reducible refine Kd.C_alloc ?_ _)|(with_reducible refine Kd.C_drewN ?_ _)|(with_reducible refine Kd.C_drew ?_)));(case aB=>exact(by repeat (first|(with_reducible first|exact HB.out|apply bA|apply pD|apply bD)|exact HB.out)));(case aF=>exact(fun _ _=>trivial));(case aO=>exact(by(with_reducible repeat (first|apply Kd.R_alloc|apply Kd.R_drewN|apply Kd.R_drew));exact HO_3.out));(case aS=>exact(below_size (by repeat (first|(with_reducible first|exact HB.out|apply bA|apply pD|apply bD)|exact HB.out))));(case aL=>have:=LMc7.out;omega);intro v199 w8 ho hb hg hat;rw[<-Ny198.out] at ho;have n0_:=aM (hb);have n1_:=aM (ho);clear HB;clear HO_3;have HB:=n0_;have HO200:=n1_;clear n0_ n1_;clear ho hb hg hat))
       go_roundg k1
       case measure=>have:=HK1.out;omega
       case rel=>exact⟨(y198),(wrap64 (x9_1+1)),(by first|rfl|(simp;done)|(simp[*];done)),H',⟨by have:=HK1.out;omega⟩,⟨by(with_reducible repeat (first|apply Kd.R_alloc|apply Kd.R_drewN|apply Kd.R_drew));exact HO200.out⟩,⟨by repeat (first|(with_reducible first|exact HB.out|apply bA|apply pD|apply bD)|exact HB.out)⟩⟩
      ·rw[if_neg c7] at H
       exact absurd H (by simp)
     ·rw[if_neg c6] at H
      exact absurd H (by simp)
    ·rw[if_neg c5] at H
     exact absurd H (by simp)
   ·rw[if_neg c4] at H
    have c4b0:decide (x9_1<(l0.length:Int))=false:=decide_eq_false c4;clear c4;obtain rfl:=Option.some.inj H
    go_wp2
    go_ret;exact⟨_,by first|rfl|(simp[errW_none,errW_some]<;>rfl)|(simp[*,errW_none,errW_some]<;>rfl),by(with_reducible repeat (first|apply Kd.R_alloc|apply Kd.R_drewN|apply Kd.R_drew));exact HO_3.out,by repeat (first|(with_reducible first|exact HB.out|apply bA|apply pD|apply bD)|exact HB.out)⟩
end Go.Proofs.YtoimaaonloibfaaGreatDoor.PF
namespace Go.Proofs.YtoimaaonloibfaaGreatDoor.Pa
open Go.RowKit W1 W2 PF Wf Lx
def pComma(xs:List (List ByteArray)):List ByteArray:=(xs.intersperse [(⟨#[44]⟩:ByteArray)]).flatten
def pNames(ns:List ByteArray):List ByteArray:=pComma (ns.map fun s=>[s])
theorem intersperse_snoc{α:Type}(s x:α):∀xs:List α,xs≠[]->(xs++[x]).intersperse s=xs.intersperse s++[s,x]
 |[],h=>absurd rfl h
 |[y],_=>rfl
 |y::z::r,_=>by
  have:=intersperse_snoc s x (z::r) (by simp);simp only[List.cons_append,List.intersperse_cons_cons,List.intersperse] at this|-;rw[this]
theorem pComma_nil:pComma []=[]:=rfl
theorem pComma_snoc(xs:List (List ByteArray))(x:List ByteArray)(h:xs≠[]):pComma (xs++[x])=pComma xs++[(⟨#[44]⟩:ByteArray)]++x:=by
 unfold pComma;rw[intersperse_snoc _ _ _ h];simp
def qEsc(x:Int):List Int:=if x=34\/x=92 then [92,x] else if x=10 then [92,110] else if x<32\/x>126 then [92,48+x/100,48+x/10%10,48+x%10] else [x]
def quoL(l:List Int):List Int:=[34]++l.flatMap qEsc++[34]
def quo(s:ByteArray):ByteArray:=strOfNums (quoL (bytesOf s))
theorem bt_drop(s:ByteArray)(i:Nat)(h:i<s.size):(bytesOf s).drop i=bt s (i:Int)::(bytesOf s).drop (i+1):=by
 have hl:i<(bytesOf s).length:=by rw[bytesOf_length];exact h
 rw[List.drop_eq_getElem_cons hl]
 congr 1
 have:=rd_bytesOf s (i:Int);unfold rd at this;rw[<-this];simp[hl]
theorem qEsc_le(x:Int):(qEsc x).length<=4:=by
 unfold qEsc
 split<;>(try split)<;>(try split)<;>simp
theorem rdL3_get(ls:List (List ByteArray))(i:Nat)(h:i<ls.length):rd_L3 ls (i:Int)=ls[i]:=by simp[rd_L3,h]
theorem join_l0{ls:List (List ByteArray)}(hl:ls.length<=1000):∀(d i:Nat),i+d=ls.length->∀x3:List ByteArray,x3.length+(ls.drop i).flatten.length<=10000000->spec_prJoin.l0 (d+1) x3 ls (ls.length:Int) (i:Int)=some (x3++(ls.drop i).flatten):=by
 intro d
 induction d with
 |zero=>
  intro i hi x3 hx;rw[spec_prJoin.l0,if_neg (by omega),List.drop_of_length_le (by omega)];simp
 |succ d ih=>
  intro i hi x3 hx;have hlt:i<ls.length:=by omega
  have hw:wrap64 ((i:Int)+1)=((i+1:Nat):Int):=by rw[IntWalk.wrap64_in _ (by omega)];omega
  rw[List.drop_eq_getElem_cons hlt,List.flatten_cons] at hx|-;rw[List.length_append] at hx;rw[spec_prJoin.l0,if_pos (by omega),if_pos (by omega),if_pos (by omega),rdL3_get _ _ hlt,if_pos (by omega),hw,ih (i+1) (by omega) _ (by rw[List.length_append];omega),List.append_assoc]
def LR(w:World)(b:Nat)(v:Value)(ls:List (List ByteArray)):Prop:=(Kd.slice 9 Kd.string).R 24 w b (fun _=>True) v ls
theorem join_q{w:World}{b:Nat}{v:Value}{ls:List (List ByteArray)}(h:LR w b v ls)(hl:ls.length<=1000)(hf:ls.flatten.length<=10000000):Calls Tryz.prog 60 #[v] w fun e w'=>∃u:Value,e = .returned u/\NR w' w.heap.size u ls.flatten/\Below w.heap.size w w':=by
 obtain⟨A,cp,rfl,hc,hC⟩:=Kd.R_reads h;refine spec_prJoin.calls (ls.length+1) A cp ls _ w hC hc ?_;have:=join_l0 hl ls.length 0 (by omega) [] (by simpa using hf);rw[Int.natCast_zero] at this;unfold spec_prJoin.f;rw[this];simp
theorem pComma_len:∀xs:List (List ByteArray),(pComma xs).length<=xs.flatten.length+xs.length
 |[]=>by simp[pComma]
 |[x]=>by simp[pComma]
 |x::y::r=>by
  have:=pComma_len (y::r);unfold pComma at this|-;simp only[List.intersperse_cons_cons,List.flatten_cons,List.length_append,List.length_cons,List.length_nil] at this|-;omega
theorem flat_one:∀ns:List ByteArray,(ns.map fun s=>[s]).flatten=ns
 |[]=>rfl
 |x::r=>by
  have:=flat_one r
  rw[List.map_cons,List.flatten_cons,this]
  rfl
theorem pNames_len(ns:List ByteArray):(pNames ns).length<=2*ns.length:=by
 have:=pComma_len (ns.map fun s=>[s]);rw[flat_one,List.length_map] at this;unfold pNames;omega
theorem names_l0{ns:List ByteArray}(hl:ns.length<=10000):∀(d i:Nat),i+d=ns.length->spec_prNames.l0 (d+1) (pNames (ns.take i)) ns (ns.length:Int) (i:Int)=some (pNames ns):=by
 intro d
 induction d with
 |zero=>
  intro i hi;rw[spec_prNames.l0,if_neg (by omega),List.take_of_length_le (by omega)]
 |succ d ih=>
  intro i hi;have hlt:i<ns.length:=by omega
  have hw:wrap64 ((i:Int)+1)=((i+1:Nat):Int):=by rw[IntWalk.wrap64_in _ (by omega)];omega
  have hli:=pNames_len (ns.take i);have hlt2:(ns.take i).length<=ns.length:=by rw[List.length_take];omega
  have e1:rdOf ByteArray.empty ns (i:Int)=ns[i]:=by simp[rdOf,hlt]
  have e2:ns.take (i+1)=ns.take i++[ns[i]]:=by rw[List.take_succ_eq_append_getElem hlt]
  have:=ih (i+1) (by omega);rw[e2] at this;rw[spec_prNames.l0,if_pos (by omega),if_pos (by omega),if_pos (by omega),hw,e1]
  by_cases h0:i=0
  ·subst h0
   rw[if_neg (by omega),if_pos (by omega)]
   simpa[pNames,pComma] using this
  ·rw[if_pos (by omega),if_pos (by omega)]
   simp only[Option.bind_some];rw[if_pos (show(pNames (ns.take i)++[(⟨#[44]⟩:ByteArray)]).length<8796093022208 by rw[List.length_append,List.length_singleton];omega)];unfold pNames at this|-;rw[List.map_append,List.map_singleton,pComma_snoc _ _ (by simp[List.take_eq_nil_iff];exact⟨h0,fun e=>by rw[e] at hlt;simp at hlt⟩)] at this;exact this
theorem prNames_q{w:World}{A:Option Addr}{cp:Nat}{ns:List ByteArray}(hC:Kd.string.C w A ns.length ns)(hc:ns.length<=cp)(hl:ns.length<=10000):Calls Tryz.prog 61 #[.slice A ns.length cp] w fun e w'=>∃u:Value,e = .returned u/\NR w' w.heap.size u (pNames ns)/\Below w.heap.size w w':=by
 refine spec_prNames.calls (ns.length+1) A cp ns _ w hC hc ?_;have:=names_l0 hl ns.length 0 (by omega);rw[Int.natCast_zero,List.take_zero] at this;exact this
end Go.Proofs.YtoimaaonloibfaaGreatDoor.Pa
