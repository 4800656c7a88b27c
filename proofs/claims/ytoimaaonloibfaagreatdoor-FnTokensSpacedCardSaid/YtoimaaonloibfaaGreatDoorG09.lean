/- FnTokensSpaced (part 9): joined texts of this seat: Vc, Yb, Yc, Ye, Vd, Ya, Pg, Ph, Pi, Pj, Pk, Yg, Pl, Pm, Pn. -/
import Derived.Test.YtoimaaonloibfaaGreatDoorG05
import Derived.Test.YtoimaaonloibfaaGreatDoorG08
import Derived.Test.YtoimaaonloibfaaGreatDoorG06
import Derived.Deep.RegionLaw
import Derived.Test.YtoimaaonloibfaaGreatDoorG01
import Derived.Deep.CutBlock
set_option linter.unusedVariables false
set_option linter.unusedSimpArgs false
set_option linter.constructorNameAsVariable false
set_option linter.unnecessarySimpa false
namespace Go.Proofs.YtoimaaonloibfaaGreatDoor.Tk
open Go.RowKit W1 W2 PF Wf Pa
theorem gap_ok(kind:Int)(a b:ByteArray):Gap (gapL kind a b):=by
 unfold gapL
 repeat' split
 ·exact .ws (by omega) .nil
 ·exact .ws (by omega) (.ws (by omega) .nil)
 ·exact .ws (by omega) .nil
 ·exact .ws (by omega) (.line (c:=[32,101,110,100,32,40,32,34,32,91,91]) (by decide) (by decide) .nil)
 ·exact .ws (by omega) (.long (n:=0) (x:=32) (c:=[120,32,61,32,41,32,39,32,93,93]) (by decide) (fun r=>rfl) (.ws (by omega) .nil))
 ·exact .ws (by omega) (.long (n:=2) (x:=32) (c:=[97,32,93,93,10,101,110,100,32,93,61,93,32,93,61,61,93]) (by decide) (fun r=>rfl) .nil)
 ·exact .ws (by omega) (.line (c:=[]) (by simp) (by decide) (.ws (by omega) (.ws (by omega) .nil)))
 ·exact .ws (by omega) .nil
 ·exact .nil
variable {res:ByteArray->Option Int}
theorem esc_of:∀l:List Int,(∀y∈l,0<=y/\y<=255)->Esc (l.flatMap qEsc) l
 |[],_=> .nil
 |x::l,h=>by
  have hx:=h x (by simp);have ih:=esc_of l (fun y hy=>h y (List.mem_cons_of_mem _ hy));rw[List.flatMap_cons];unfold qEsc
  split
  ·rename_i h1
   rcases h1 with rfl|rfl
   ·exact .q ih
   ·exact .b ih
  ·rename_i h1
   split
   ·rename_i h2
    subst h2;exact .n ih
   ·rename_i h2
    split
    ·exact .num (by omega) (by omega) (by omega) (by omega) hx.2 ih
    ·exact .raw (by omega) (by omega) h2 ih
theorem getLast_wy{c:Int}{t:List Int}(h1:isLt c=true)(h2:∀y∈t,isWy y=true):∃x,(c::t).getLast? = some x/\isWy x=true:=by
 rw[List.getLast?_eq_some_getLast (by simp)];refine⟨_,rfl,?_⟩;have:=List.getLast_mem (l:=c::t) (by simp);rcases List.mem_cons.1 this with e|e
 ·rw[e];simp[isWy,h1]
 ·exact h2 _ e
theorem stop_wy{l r:List Int}{x:Int}(hs:Stop l r)(hl:l.getLast? = some x)(hx:isWy x=true):isWy (hd r)=false/\hd r≠46:=by
 match r with
 |[]=>exact⟨rfl,by show(-1:Int)≠46;decide⟩
 |y::r=>
  have:=hs x y hl rfl;unfold nbI at this;rw[if_pos hx] at this;simp only[Bool.or_eq_false_iff,beq_eq_false_iff_ne] at this;exact this
theorem stop_hd{l r:List Int}{x:Int}(hs:Stop l r)(hl:l.getLast? = some x):∀y,hd r=y->y≠-1->nbI x y=false:=by
 intro y hy hn
 match r with
 |[]=>exact absurd hy.symm hn
 |z::r=>have:=hs x z hl rfl;rw[<-hy];exact this
theorem ne_of{l r:List Int}{x:Int}(hs:Stop l r)(hl:l.getLast? = some x)(v:Int)(hv:nbI x v=true)(hn:v≠-1):hd r≠v:=fun e=>by
 have:=stop_hd hs hl v e hn;rw[hv] at this;cases this
theorem stop_dot{r:List Int}(hs:Stop [46] r):isDg (hd r)=false:=by
 match r with
 |[]=>rfl
 |y::r=>
  have h:nbI 46 y=false:=hs 46 y rfl rfl;have e:nbI 46 y=(isWy y||y==46):=rfl;rw[e,Bool.or_eq_false_iff] at h;have h2:=h.1;simp only[isWy,Bool.or_eq_false_iff] at h2;exact h2.2
theorem wy_dg{x:Int}(h:isWy x=false):isDg x=false/\x≠101/\x≠69/\x≠120/\x≠88:=by
 refine⟨?_,?_,?_,?_,?_⟩
 ·simp only[isWy,Bool.or_eq_false_iff] at h
  exact h.2
 all_goals(rintro rfl;revert h;decide)
theorem digs_ok{l:List Int}(h:Digs l):∃c t,l=c::t/\isDg c=true/\(∀y∈t,isDg y=true):=by
 obtain⟨h1,h2⟩:=h
 match l,h1 with
 |c::t,_=>exact⟨c,t,rfl,by have:=h2 c (by simp);simp[isDg];omega,fun y hy=>by have:=h2 y (by simp[hy]);simp[isDg];omega⟩
theorem last_dg{l:List Int}{c:Int}{t:List Int}(hc:isDg c=true)(ht:∀y∈t,isDg y=true):∃x,(l++c::t).getLast? = some x/\isWy x=true:=by
 rw[List.getLast?_append,List.getLast?_eq_some_getLast (l:=c::t) (by simp)];refine⟨_,rfl,?_⟩;have:=List.getLast_mem (l:=c::t) (by simp);have hd2:isDg ((c::t).getLast (by simp))=true:=by
  rcases List.mem_cons.1 this with e|e
  ·rw[e];exact hc
  ·exact ht _ e
 simp[isWy,hd2]
theorem tok_at(hres:∀s v,res s=some v->0<=v){t:ByteArray}(h:Tok t):∃(ty:Int) (s:ByteArray),ty≠-1/\∀r,Stop (bytesOf t) r->TokAt res (bytesOf t++r) ty s r:=by
 rcases h.2 with⟨c,t',h,h1,h2⟩|h|⟨ds,hds,h0,h⟩|⟨s,hs,h⟩
 ·rw[h]
  obtain⟨x,hx1,hx2⟩:=getLast_wy h1 h2;refine⟨_,_,?_,fun r hs=> .ident h1 h2 (stop_wy hs hx1 hx2).1⟩
  cases hq:res (strOfNums (c::t')) with
  |none=>simp
  |some v=>have:=hres _ _ hq;simp;omega
 ·generalize bytesOf t=l at h
  simp only[signsL,List.mem_cons,List.not_mem_nil,or_false] at h;rcases h with rfl|rfl|rfl|rfl|rfl|rfl|rfl|rfl|rfl|rfl|rfl|rfl|rfl|rfl|rfl|rfl|rfl|rfl|rfl|rfl|rfl|rfl|rfl|rfl|rfl|rfl
  ·exact⟨57373,⟨#[46,46,46]⟩,by decide,fun r hs=> .dot3⟩
  ·exact⟨57372,⟨#[46,46]⟩,by decide,fun r hs=> .dot2 (ne_of hs rfl 46 rfl (by decide))⟩
  ·exact⟨57368,⟨#[61,61]⟩,by decide,fun r hs=> .eqeq⟩
  ·exact⟨57369,⟨#[126,61]⟩,by decide,fun r hs=> .neq⟩
  ·exact⟨57370,⟨#[60,61]⟩,by decide,fun r hs=> .le⟩
  ·exact⟨57371,⟨#[62,61]⟩,by decide,fun r hs=> .ge⟩
  ·exact⟨43,Utf8.encode 43,by decide,fun r hs=> .one (by simp)⟩
  ·exact⟨45,Utf8.encode 45,by decide,fun r hs=> .minus (ne_of hs rfl 45 rfl (by decide))⟩
  ·exact⟨42,Utf8.encode 42,by decide,fun r hs=> .one (by simp)⟩
  ·exact⟨47,Utf8.encode 47,by decide,fun r hs=> .one (by simp)⟩
  ·exact⟨37,Utf8.encode 37,by decide,fun r hs=> .one (by simp)⟩
  ·exact⟨94,Utf8.encode 94,by decide,fun r hs=> .one (by simp)⟩
  ·exact⟨35,Utf8.encode 35,by decide,fun r hs=> .one (by simp)⟩
  ·exact⟨60,Utf8.encode 60,by decide,fun r hs=> .op1 (by simp) (ne_of hs rfl 61 rfl (by decide))⟩
  ·exact⟨62,Utf8.encode 62,by decide,fun r hs=> .op1 (by simp) (ne_of hs rfl 61 rfl (by decide))⟩
  ·exact⟨61,Utf8.encode 61,by decide,fun r hs=> .op1 (by simp) (ne_of hs rfl 61 rfl (by decide))⟩
  ·exact⟨40,Utf8.encode 40,by decide,fun r hs=> .one (by simp)⟩
  ·exact⟨41,Utf8.encode 41,by decide,fun r hs=> .one (by simp)⟩
  ·exact⟨123,Utf8.encode 123,by decide,fun r hs=> .one (by simp)⟩
  ·exact⟨125,Utf8.encode 125,by decide,fun r hs=> .one (by simp)⟩
  ·exact⟨91,Utf8.encode 91,by decide,fun r hs=> .brk (ne_of hs rfl 91 rfl (by decide)) (ne_of hs rfl 61 rfl (by decide))⟩
  ·exact⟨93,Utf8.encode 93,by decide,fun r hs=> .one (by simp)⟩
  ·exact⟨59,Utf8.encode 59,by decide,fun r hs=> .one (by simp)⟩
  ·exact⟨58,Utf8.encode 58,by decide,fun r hs=> .colon (ne_of hs rfl 58 rfl (by decide))⟩
  ·exact⟨44,Utf8.encode 44,by decide,fun r hs=> .one (by simp)⟩
  ·exact⟨46,⟨#[]⟩,by decide,fun r hs=> .dot (ne_of hs rfl 46 rfl (by decide)) (stop_dot hs)⟩
 ·obtain⟨c,t',hd1,hc,ht⟩:=digs_ok hds
  subst hd1;have hz:c=48->t'=[]:=fun hc=>by
   rcases h0 with h0|h0
   ·simp at h0;exact h0.2
   ·rw[hc] at h0;simp at h0
  rcases h with h|⟨es,hes,h|h⟩
  ·rw[h]
   refine⟨57376,strOfNums (c::t'),by decide,fun r hs=> ?_⟩;obtain⟨x,hx1,hx2⟩:=last_dg (l:=[]) hc ht;obtain⟨s1,s2⟩:=stop_wy hs hx1 hx2;obtain⟨s3,s4,s5,s6,s7⟩:=wy_dg s1;exact .numd hc ht s3 (fun h=>⟨hz h,s6,s7⟩) ⟨s2,s4,s5⟩
  ·obtain⟨e1,es',he,he1,he2⟩:=digs_ok hes
   subst he;rw[h];refine⟨57376,strOfNums (c::(t'++101::e1::es')),by decide,fun r hs=> ?_⟩;obtain⟨x,hx1,hx2⟩:=last_dg (l:=c::t'++[101]) he1 he2;have e:(c::t'++[101])++e1::es'=c::t'++101::e1::es':=by simp
   rw[e] at hx1;obtain⟨s1,s2⟩:=stop_wy hs hx1 hx2;have e2:c::t'++101::e1::es'++r=c::(t'++101::e1::(es'++r)):=by simp
   rw[e2];exact .nume hc ht hz (fun y hy=>by rcases List.mem_cons.1 hy with rfl|hy;exact he1;exact he2 y hy) (wy_dg s1).1
  ·obtain⟨e1,es',he,he1,he2⟩:=digs_ok hes
   subst he;rw[h];refine⟨57376,strOfNums (c::(t'++101::45::e1::es')),by decide,fun r hs=> ?_⟩;obtain⟨x,hx1,hx2⟩:=last_dg (l:=c::t'++[101,45]) he1 he2;have e:(c::t'++[101,45])++e1::es'=c::t'++101::45::e1::es':=by simp
   rw[e] at hx1;obtain⟨s1,s2⟩:=stop_wy hs hx1 hx2;have e2:c::t'++101::45::e1::es'++r=c::(t'++101::45::e1::(es'++r)):=by simp
   rw[e2];exact .numm hc ht hz (fun y hy=>by rcases List.mem_cons.1 hy with rfl|hy;exact he1;exact he2 y hy) (wy_dg s1).1
 ·rw[h]
  refine⟨57377,strOfNums (bytesOf s),by decide,fun r hs=> ?_⟩;have e:quoL (bytesOf s)++r=34::((bytesOf s).flatMap qEsc++34::r):=by simp[quoL]
  rw[e];exact .str (esc_of _ (bytes_range s))
noncomputable def tokF(res:ByteArray->Option Int)(t:ByteArray):Int×ByteArray:=by
 classical
 exact if h:∃p:Int×ByteArray,p.1≠-1/\∀r,Stop (bytesOf t) r->TokAt res (bytesOf t++r) p.1 p.2 r then Classical.choose h else(0,⟨#[]⟩)
theorem tokF_at(hres:∀s v,res s=some v->0<=v){t:ByteArray}(h:Tok t):(tokF res t).1≠-1/\∀r,Stop (bytesOf t) r->TokAt res (bytesOf t++r) (tokF res t).1 (tokF res t).2 r:=by
 obtain⟨ty,s,h1,h2⟩:=tok_at hres h;have hx:∃p:Int×ByteArray,p.1≠-1/\∀r,Stop (bytesOf t) r->TokAt res (bytesOf t++r) p.1 p.2 r:=⟨(ty,s),h1,h2⟩;unfold tokF;rw[dif_pos hx];exact Classical.choose_spec hx
theorem spr_lexd(hres:∀s v,res s=some v->0<=v)(gaps:List Int):∀(ts:List ByteArray) (i:Nat) (last:ByteArray),TL ts->Lexd res (spr gaps i last ts) (ts.map (tokF res))
 |[],i,last,_=> .nil
 |t::ts,i,last,h=>by
  have ht:=h t (by simp);have hts:TL ts:=fun u hu=>h u (List.mem_cons_of_mem _ hu)
  obtain⟨h1,h2⟩:=tokF_at hres ht;have hl:=List.length_pos_iff.mpr (tok_ne ht);rw[spr,List.map_cons];exact .cons (gap_ok _ _ _) (h2 _ (spr_stop gaps ts (i+1) t hts)) h1 (by rw[List.length_append];omega) (by rw[List.length_append];omega) (spr_lexd hres gaps ts (i+1) t hts)
theorem spr_no13(gaps:List Int){ts:List ByteArray}(i:Nat)(last:ByteArray)(h:TL ts):∀y∈bytesOf (strOfNums (spr gaps i last ts)),y≠13:=by
 have hc:=spr_clean gaps ts i last h;rw[bytesOf_nums (fun x hx=>⟨(hc x hx).1,(hc x hx).2.1⟩)];exact fun y hy=>(hc y hy).2.2
theorem spr_bytes(gaps:List Int){ts:List ByteArray}(i:Nat)(last:ByteArray)(h:TL ts):bytesOf (strOfNums (spr gaps i last ts))=spr gaps i last ts:=by
 have hc:=spr_clean gaps ts i last h;exact bytesOf_nums (fun x hx=>⟨(hc x hx).1,(hc x hx).2.1⟩)
end Go.Proofs.YtoimaaonloibfaaGreatDoor.Tk
namespace Go.Proofs.YtoimaaonloibfaaGreatDoor.Pa
open Go.RowKit W1 W2 PF Wf Lx
theorem nb_some{a b:ByteArray}{x y:Int}(h1:(bytesOf a).getLast? = some x)(h2:(bytesOf b).head? = some y):nb a b=nbI x y:=by unfold nb;rw[h1,h2]
set_option maxRecDepth 10000 in
set_option maxHeartbeats 4000000 in
theorem nb_q(a b:ByteArray)(w:World)(ha:a.size<=100000):Calls Tryz.prog 27 #[.string a,.string b] w fun e w'=>e = .returned (.bool (nb a b))/\Drawn0 w w':=by
 go_enter Tryz.func27,Tryz.ntmps27
 by_cases h:bytesOf a=[]
 ·have c1:(a.toList==([]:List UInt8))=true:=beq_iff_eq.2 (nil_iff.2 h)
  have e:nb a b=false:=by unfold nb;rw[h];rfl
  rw[e];clear e h;go_wp2_with fail;go_ret;exact⟨rfl,Drawn0.refl _⟩
 have c1:(a.toList==([]:List UInt8))=false:=beq_eq_false_iff_ne.2 (fun e=>h (nil_iff.1 e))
 by_cases h2:bytesOf b=[]
 ·have c2:(b.toList==([]:List UInt8))=true:=beq_iff_eq.2 (nil_iff.2 h2)
  have e:nb a b=false:=by unfold nb;rw[h2];cases (bytesOf a).getLast? <;>rfl
  rw[e];clear e h h2;go_wp2_with fail;go_ret;exact⟨rfl,Drawn0.refl _⟩
 have c2:(b.toList==([]:List UInt8))=false:=beq_eq_false_iff_ne.2 (fun e=>h2 (nil_iff.1 e));have hp:=size_pos h;have hp2:=size_pos h2;have hw:IntKind.i64.wrap ((a.size:Int)-1)=(a.size:Int)-1:=IntWalk.i64_in _ (by omega);have HNB:=aM (nb_some (last_bt h) (head_bt h2));obtain⟨j,hj⟩:∃j:Int,(a.size:Int)-1=j:=⟨_,rfl⟩;rw[hj] at hw HNB;have p1:(0<=j)=True:=eq_true (by omega);have p2:(j<(a.size:Int))=True:=eq_true (by omega);have p3:(0<(b.size:Int))=True:=eq_true (by omega);have p4:(0<b.size)=True:=eq_true hp2;have hx:=bt_at a j;have hy:∀h:0<b.size,((b[0]'h).toNat:Int)=bt b 0:=bt_at b 0;have HY:=aM (fun(x:Int) (w:World)=>spec_prIsWordy.calls x _ w (isWy_f x));clear h h2 ha hp hp2;go_wp2_with fail
 go_quiet (fail)
 generalize bt a j=x at HNB|-;generalize bt b 0=y at HNB|-;clear hx hy p1 p2 p3 p4 hw hj c1 c2;have HX:=HY.out x;have HYY:=HY.out y;generalize hwy:isWy y=by_ at HYY;generalize hwx:isWy x=bx at HX;have HX2:=aM HX;have HY2:=aM HYY;clear HX HYY HY;have E:Aside0 (∀z,(if bx=true then by_||y==46 else if x=46 then by_||y==46 else if x=91 then y==91||y==61
  else if x=61\/x=60\/x=62\/x=126 then y==61 else if x=45 then y==45 else if x=58 then y==58 else false)=z->Ending.returned (.bool z)=Ending.returned (.bool (nb a b))):=⟨by rintro z rfl;rw[HNB.out];unfold nbI;rw[hwx,hwy]⟩
 clear hwx hwy;cases bx<;>
 go_wp2_with (first|(go_at_call 59;refine(HX2.out _).mono ?_;rintro e w' ⟨rfl,⟨nd,rfl⟩⟩)|(go_at_call 59;refine(HY2.out _).mono ?_;rintro e w' ⟨rfl,⟨nd,rfl⟩⟩))
 all_goals(go_ret;refine⟨E.out _ ?_,by repeat (first|exact Drawn0.refl _|apply Drawn0.step)⟩;clear E HX2 HY2)
 all_goals(simp_all)
theorem gap_s(kind:Int)(a b:ByteArray)(l:Bool)(hl:(b.toList==([40]:List UInt8))=l)(z:ByteArray)(h:(if kind=1 then⟨#[32]⟩ else if kind=2 then⟨#[9,32]⟩ else if kind=3/\l=false then⟨#[10]⟩
 else if kind=4/\l=false then⟨#[32,45,45,32,101,110,100,32,40,32,34,32,91,91,10]⟩
 else if kind=5 then⟨#[32,45,45,91,91,32,120,32,61,32,41,32,39,32,93,93,32]⟩
 else if kind=6/\l=false then⟨#[32,45,45,91,61,61,91,32,97,32,93,93,10,101,110,100,32,93,61,93,32,93,61,61,93]⟩
 else if kind=7/\l=false then⟨#[32,45,45,10,10,9]⟩
 else if nb a b=true then⟨#[32]⟩ else(⟨#[]⟩:ByteArray))=z):Ending.returned (.string z)=Ending.returned (.string (strOfNums (gapL kind a b))):=by
 subst h;have hb:(bytesOf b≠[40])↔l=false:=by
  have:=line_f b;rw[<-hl];cases h:(b.toList==([40]:List UInt8))<;>simp_all[bne]
 unfold gapL;simp only[hb]
 repeat' split
 all_goals rfl
set_option maxRecDepth 10000 in
set_option maxHeartbeats 2000000 in
theorem gap_q(kind:Int)(a b:ByteArray)(w:World)(ha:a.size<=100000):Calls Tryz.prog 12 #[.int .i64 kind,.string a,.string b] w fun e w'=>e = .returned (.string (strOfNums (gapL kind a b)))/\Drawn0 w w':=by
 have HN:=aM (fun(w1:World)=>nb_q a b w1 ha);obtain⟨l,hl⟩:∃l,(b.toList==([40]:List UInt8))=l:=⟨_,rfl⟩;have E:=aM (gap_s kind a b l hl);generalize nb a b=n at HN E;clear ha;go_enter Tryz.func12,Tryz.ntmps12
 go_wp2_with (go_at_call 27;refine(HN.out _).mono ?_;rintro e w' ⟨rfl,⟨nd,rfl⟩⟩)
 all_goals(go_ret;refine⟨E.out _ ?_,by repeat (first|exact Drawn0.refl _|apply Drawn0.step)⟩;clear E HN)
 all_goals(simp_all)
theorem spr_at{gaps:List Int}{L:List ByteArray}{i:Nat}(h:i<L.length)(last:ByteArray):spr gaps i last (L.drop i)=gapL (kindAt gaps i) last (rdOf ByteArray.empty L (i:Int))++(bytesOf (rdOf ByteArray.empty L (i:Int))++spr gaps (i+1) (rdOf ByteArray.empty L (i:Int)) (L.drop (i+1))):=by
 rw[List.drop_eq_getElem_cons h,spr,rdOf_get L i h]
theorem rd_size{L:List ByteArray}(hs:∀t∈L,t.size<=8002)(i:Nat)(h:i<L.length):(rdOf ByteArray.empty L (i:Int)).size<=8002:=by
 rw[rdOf_get L i h];exact hs _ (List.getElem_mem h)
structure Sp9(gaps:List Int)(L:List ByteArray)(w wr:World)(v:Value)(i:Nat)(last:ByteArray)(xs:List Int):Prop where
 le:i<=L.length
 ls:last.size<=8002
 xl:xs.length<=9000*i
 e:xs++spr gaps i last (L.drop i)=spr gaps 0 ⟨#[]⟩ L
 b:Bs w wr v xs
theorem Sp9.step{gaps:List Int}{L:List ByteArray}{w wr w1:World}{v v1:Value}{i:Nat}{last:ByteArray}{xs ys:List Int}(h:Sp9 gaps L w wr v i last xs)(hi:i<L.length)(hs:∀t∈L,t.size<=8002)(hy:ys=xs++gapL (kindAt gaps i) last (rdOf ByteArray.empty L (i:Int))++bytesOf (rdOf ByteArray.empty L (i:Int)))(hb:Bs w w1 v1 ys):Sp9 gaps L w w1 v1 (i+1) (rdOf ByteArray.empty L (i:Int)) ys:=by
 subst hy;have h1:=gapL_len (kindAt gaps i) last (rdOf ByteArray.empty L (i:Int));have h2:=rd_size hs i hi;have h3:=h.xl;have h4:=h.e;rw[spr_at hi] at h4;refine⟨hi,h2,by rw[List.length_append,List.length_append,bytesOf_length];omega,?_,hb⟩;rw[<-h4];simp only[List.append_assoc]
theorem Sp9.done{gaps:List Int}{L:List ByteArray}{w wr:World}{v:Value}{i:Nat}{last:ByteArray}{xs:List Int}(h:Sp9 gaps L w wr v i last xs)(hi:¬i<L.length):xs=spr gaps 0 ⟨#[]⟩ L:=by
 have h4:=h.e;rw[List.drop_of_length_le (by omega),spr,List.append_nil] at h4;exact h4
set_option maxRecDepth 10000 in
set_option maxHeartbeats 2000000 in
theorem print_q(A0:Option Addr)(c0:Nat)(L:List ByteArray)(w:World)(hr0:Kd.C Kd.string w A0 L.length L)(hL:L.length<=60110)(hs:∀t∈L,t.size<=8002):
  Calls Tryz.prog 14 #[.slice A0 L.length c0] w fun e w'=>e = .returned (.string (strOfNums (spr [] 0 ⟨#[]⟩ L)))/\Below w.heap.size w w':=by
 have HR:=aM hr0;have HS:=aM hs;have H0:Aside0 (Sp9 [] L w (w.alloc (.cells #[] 5)) (.slice (some ⟨w.heap.size,0,none⟩) 0 0) 0 ⟨#[]⟩ []):=⟨⟨Nat.zero_le _,by decide,by simp,rfl,Bs.new w⟩⟩;clear hr0 hs;go_enter Tryz.func14,Tryz.ntmps14
 go_wp2_with fail;go_loopg [3,4,10] L.length (fun gk v3 v4 v10 wr=>∃(i:Nat) (last:ByteArray) (xs:List Int),v4 = .string last/\v10 = .int .i64 (i:Int)/\gk=L.length-i/\Aside0 (Sp9 [] L w wr v3 i last xs))
 case atStart=>exact⟨0,_,[],rfl,rfl,rfl,H0⟩
 case round=>
  clear H0;obtain⟨i,last,xs,rfl,rfl,hk,H⟩:=hrel
  by_cases hlt:i<L.length
  ·have hlI:(i:Int)<(L.length:Int):=by omega
   have h0I:(0:Int)<=(i:Int):=by omega
   obtain⟨ad,rfl,x0⟩:=Kd.at_string (Kd.C_below HR.out H.out.b.b) (i:Int) h0I hlI
   have hitn:((i:Nat):Int).toNat=i:=by omega
   rw[hitn] at x0;have q:IntKind.i64.wrap ((i:Int)+1)=((i+1:Nat):Int):=by rw[IntWalk.i64_in _ (by omega)];omega
   have HT:=aM (rd_size HS.out i hlt);have HST:=aM (fun(ys:List Int) (w1:World) (v1:Value) (hy:ys=xs++gapL (kindAt [] i) last (rdOf ByteArray.empty L (i:Int))++bytesOf (rdOf ByteArray.empty L (i:Int))) (hb:Bs w w1 v1 ys)=>H.out.step hlt HS.out hy hb);have hg:gapL (kindAt [] i) last (rdOf ByteArray.empty L (i:Int))=if nb last (rdOf ByteArray.empty L (i:Int))=true then [32] else []:=rfl
   rw[hg] at HST;have HNB:=aM (fun(w1:World)=>nb_q last (rdOf ByteArray.empty L (i:Int)) w1 (by have:=H.out.ls;omega));have HXL:=aM (show xs.length+8003<=1000000000 by have:=H.out.xl;omega);generalize rdOf ByteArray.empty L (i:Int)=t at x0 HT HST HNB;generalize nb last t=n at HST HNB;have HB:=aM H.out.b;clear H hitn hg;go_wp2_with fail;refine(HNB.out wr).mono ?_;rintro e w5 ⟨rfl,⟨nd,rfl⟩⟩;replace HB:=aM (HB.out.drewN nd)
   cases n with
   |true=>
    go_wp2_with (first
     |(at_builtin;refine Bs.put (c:=32) rfl (.tmp 17) (.tmp 18) (by rfl) (by rfl) (by rfl) HB.out (by rfl) (by have:=HXL.out;omega) ?_;intro v7 w7 h7;have H7:=aM h7;clear h7)
     |(at_builtin;refine Bs.cat rfl (.tmp 20) (.tmp 21) (by rfl) (by rfl) (by rfl) H7.out (by have:=HXL.out;have:=HT.out;rw[List.length_append,List.length_singleton];omega) ?_;intro v8 w8 h8;have H8:=aM h8;clear h8))
    go_roundg (L.length-(i+1))
    case measure=>omega
    case rel=>exact⟨i+1,t,_,rfl,rfl,rfl,⟨HST.out _ _ _ rfl H8.out⟩⟩
   |false=>
    go_wp2_with (at_builtin;refine Bs.cat rfl (.tmp 20) (.tmp 21) (by rfl) (by rfl) (by rfl) HB.out (by have:=HXL.out;have:=HT.out;omega) ?_;intro v8 w8 h8;have H8:=aM h8;clear h8)
    go_roundg (L.length-(i+1))
    case measure=>omega
    case rel=>exact⟨i+1,t,_,rfl,rfl,rfl,⟨HST.out _ _ _ (by simp) H8.out⟩⟩
  ·have hlI:¬(i:Int)<(L.length:Int):=by omega
   have hcv:=H.out.b.str;rw[H.out.done hlt] at hcv;go_wp2_with fail;go_ret;exact⟨rfl,H.out.b.b⟩
set_option maxRecDepth 10000 in
set_option maxHeartbeats 2000000 in
theorem spread_q(A0:Option Addr)(c0:Nat)(L:List ByteArray)(A1:Option Addr)(c1:Nat)(gs:List Int)(w:World)(hr0:Kd.C Kd.string w A0 L.length L)(hr1:Kd.C (Kd.int .i64) w A1 gs.length gs)(hg:gs.length<=100000)(hL:L.length<=60110)(hs:∀t∈L,t.size<=8002):
  Calls Tryz.prog 5 #[.slice A0 L.length c0,.slice A1 gs.length c1] w fun e w'=>e = .returned (.string (strOfNums (spr gs 0 ⟨#[]⟩ L)))/\Below w.heap.size w w':=by
 have HR:=aM hr0;have HG:=aM hr1;have HS:=aM hs;have H0:Aside0 (Sp9 gs L w (w.alloc (.cells #[] 5)) (.slice (some ⟨w.heap.size,0,none⟩) 0 0) 0 ⟨#[]⟩ []):=⟨⟨Nat.zero_le _,by decide,by simp,rfl,Bs.new w⟩⟩;clear hr0 hr1 hs;go_enter Tryz.func5,Tryz.ntmps5
 go_wp2_with fail;go_loopg [5,6,13] L.length (fun gk v5 v6 v13 wr=>∃(i:Nat) (last:ByteArray) (xs:List Int),v6 = .string last/\v13 = .int .i64 (i:Int)/\gk=L.length-i/\Aside0 (Sp9 gs L w wr v5 i last xs))
 case atStart=>exact⟨0,_,[],rfl,rfl,rfl,H0⟩
 case round=>
  clear H0;obtain⟨i,last,xs,rfl,rfl,hk,H⟩:=hrel
  by_cases hlt:i<L.length
  ·have hlI:(i:Int)<(L.length:Int):=by omega
   have h0I:(0:Int)<=(i:Int):=by omega
   obtain⟨ad,rfl,x0⟩:=Kd.at_string (Kd.C_below HR.out H.out.b.b) (i:Int) h0I hlI
   have hitn:((i:Nat):Int).toNat=i:=by omega
   rw[hitn] at x0;have q:IntKind.i64.wrap ((i:Int)+1)=((i+1:Nat):Int):=by rw[IntWalk.i64_in _ (by omega)];omega
   have HT:=aM (rd_size HS.out i hlt);have HST:=aM (fun(ys:List Int) (w1:World) (v1:Value) (hy:ys=xs++gapL (kindAt gs i) last (rdOf ByteArray.empty L (i:Int))++bytesOf (rdOf ByteArray.empty L (i:Int))) (hb:Bs w w1 v1 ys)=>H.out.step hlt HS.out hy hb);have HNB:=aM (fun(w1:World)=>gap_q (kindAt gs i) last (rdOf ByteArray.empty L (i:Int)) w1 (by have:=H.out.ls;omega));have HGL:=aM (gapL_len (kindAt gs i) last (rdOf ByteArray.empty L (i:Int)));have HGB:=aM (gapL_bytes (kindAt gs i) last (rdOf ByteArray.empty L (i:Int)));have HXL:=aM (show xs.length+9000<=1000000000 by have:=H.out.xl;omega);generalize rdOf ByteArray.empty L (i:Int)=t at x0 HT HST HNB HGL HGB;generalize hkd:kindAt gs i=kd at HST HNB HGL HGB;have HKD:=aM hkd;generalize hgl:gapL kd last t=gl at HST HNB HGL HGB;have HB:=aM H.out.b;clear H hitn hkd hgl
   by_cases hz:gs.length=0
   ·have hgz:¬(0:Int)<(gs.length:Int):=by omega
    have hk0:kd=0:=by rw[<-HKD.out];unfold kindAt;rw[if_pos hz]
    subst hk0;obtain rfl:gs=[]:=List.eq_nil_of_length_eq_zero hz;go_wp2_with fail;refine(HNB.out wr).mono ?_;rintro e w5 ⟨rfl,⟨nd,rfl⟩⟩;replace HB:=aM (HB.out.drewN nd);go_wp2_with (first
     |(at_builtin;refine Bs.cat rfl (.tmp 28) (.tmp 32) (by rfl) (by rfl) (by rfl) HB.out (by rw[strOfNums_size];have:=HGL.out;have:=HXL.out;omega) ?_;rw[HGB.out];intro v7 w7 h7;have H7:=aM h7;clear h7)
     |(at_builtin;refine Bs.cat rfl (.tmp 34) (.tmp 35) (by rfl) (by rfl) (by rfl) H7.out (by have:=HXL.out;have:=HT.out;have:=HGL.out;rw[List.length_append];omega) ?_;intro v8 w8 h8;have H8:=aM h8;clear h8))
    go_roundg (L.length-(i+1))
    case measure=>omega
    case rel=>exact⟨i+1,t,_,rfl,rfl,rfl,⟨HST.out _ _ _ rfl H8.out⟩⟩
   ·have hgz:(0:Int)<(gs.length:Int):=by omega
    have hm:Int.tmod (i:Int) (gs.length:Int)=((i%gs.length:Nat):Int):=by rw[Int.tmod_eq_emod_of_nonneg (by omega)];omega
    have hml:=Nat.mod_lt i (show 0<gs.length by omega);obtain⟨bd,rfl,y0⟩:=Kd.at_int (Kd.C_below HG.out HB.out.b) ((i%gs.length:Nat):Int) (by omega) (by omega)
    have hitn:(((i%gs.length:Nat)):Int).toNat=i%gs.length:=by omega
    rw[hitn] at y0;have hkr:rd gs ((i%gs.length:Nat):Int)=kd:=by rw[<-HKD.out];unfold kindAt;rw[if_neg hz]
    rw[hkr] at y0;go_wp2_with fail;refine(HNB.out wr).mono ?_;rintro e w5 ⟨rfl,⟨nd,rfl⟩⟩;replace HB:=aM (HB.out.drewN nd);go_wp2_with (first
     |(at_builtin;refine Bs.cat rfl (.tmp 28) (.tmp 32) (by rfl) (by rfl) (by rfl) HB.out (by rw[strOfNums_size];have:=HGL.out;have:=HXL.out;omega) ?_;rw[HGB.out];intro v7 w7 h7;have H7:=aM h7;clear h7)
     |(at_builtin;refine Bs.cat rfl (.tmp 34) (.tmp 35) (by rfl) (by rfl) (by rfl) H7.out (by have:=HXL.out;have:=HT.out;have:=HGL.out;rw[List.length_append];omega) ?_;intro v8 w8 h8;have H8:=aM h8;clear h8))
    go_roundg (L.length-(i+1))
    case measure=>omega
    case rel=>exact⟨i+1,t,_,rfl,rfl,rfl,⟨HST.out _ _ _ rfl H8.out⟩⟩
  ·have hlI:¬(i:Int)<(L.length:Int):=by omega
   have hcv:=H.out.b.str;rw[H.out.done hlt] at hcv;go_wp2_with fail;go_ret;exact⟨rfl,H.out.b.b⟩
end Go.Proofs.YtoimaaonloibfaaGreatDoor.Pa
namespace Go.Proofs.YtoimaaonloibfaaGreatDoor.Pa
open Go.RowKit W1 W2 PF Wf Lx
attribute [local go_sem] run_store_float fld49_0 fld49_1 fld49_3
theorem tl_size{L:List ByteArray}(h:TL L):∀t∈L,t.size<=8002:=fun t ht=>(h t ht).1
set_option maxRecDepth 10000 in
set_option maxHeartbeats 2000000 in
theorem printShort_q(x:Nd)(hx:x.wt<=6010)(hO:Ok True .b x)(w:World)(An:Option Addr)(cn:Nat)(Ak:Option Addr)(ck:Nat)(hk:NK w x An cn Ak ck):
  Calls Tryz.prog 7 #[.agg #[.int .i64 x.k,.string x.s,.float .f64 x.x,.int .i64 x.n,.bool x.b,(.slice An x.names.length cn),(.slice Ak x.kids.length ck)]] w fun e w'=>e = .returned (.string (strOfNums (spr [] 0 ⟨#[]⟩ (toks x))))/\Below w.heap.size w w':=by
 have HV:=aM (Vb.new w #[.int .i64 x.k,.string x.s,.float .f64 x.x,.int .i64 x.n,.bool x.b,(.slice An x.names.length cn),(.slice Ak x.kids.length ck)]);have HB:=aM (bA (bR w.heap.size w) (.cells #[.int .i64 x.k,.string x.s,.float .f64 x.x,.int .i64 x.n,.bool x.b,(.slice An x.names.length cn),(.slice Ak x.kids.length ck)] 27));have HK:=aM (hk.below HB.out);have HP:=aM (fun(w1:World)=>short_pr x hx hO w1 An cn Ak ck);have HF:=aM (show(toks x).length<=60110/\∀t∈toks x,t.size<=8002 from⟨by have:=toks_len hx;omega,tl_size (toks_tl hO)⟩);clear hk hO hx;go_enter Tryz.func7,Tryz.ntmps7
 go_upto_region 1 with fail;generalize w.alloc _=w1 at HV HB HK|-;obtain⟨v0,v1,v2,v3,v4,v5,v6⟩:=bC7 HV.out;go_wp2_with fail;refine(HP.out w1 HK.out).mono ?_;rintro e w2 ⟨u,rfl,hR,hb⟩;obtain⟨A,cp,rfl⟩:=Kd.R_slice hR;obtain⟨_,hcap,hC⟩:=Kd.R_reads' hR;have HB2:=aM (HB.out.trans (hb.mono HB.out.size));have HPR:=aM (print_q A cp (toks x) w2 hC HF.out.1 HF.out.2);clear hR hb hC hcap v0 v1 v2 v3 v4 v5 v6;go_wp2_with fail;refine HPR.out.mono ?_;rintro e w3 ⟨rfl,hb⟩;have HB3:=aM (HB2.out.trans (hb.mono HB2.out.size));clear hb;go_wp2_with fail;go_ret;exact⟨rfl,HB3.out⟩
end Go.Proofs.YtoimaaonloibfaaGreatDoor.Pa
namespace Go.Proofs.YtoimaaonloibfaaGreatDoor.Tk
open Go.RowKit W1 W2 PF Wf
theorem same_at{A B:List S51}(h:A.map (fun y=>(y.f0,y.f1))=B.map (fun y=>(y.f0,y.f1)))(i:Int):(rd_T51 A i).f0=(rd_T51 B i).f0/\(rd_T51 A i).f1=(rd_T51 B i).f1:=by
 have h1:=congrArg (fun l=>l[i.toNat]?) h;have hl:A.length=B.length:=by have:=congrArg List.length h;simpa using this
 simp only[List.getElem?_map] at h1;unfold rd_T51;rw[List.getD_eq_getElem?_getD,List.getD_eq_getElem?_getD];rcases Nat.lt_or_ge i.toNat A.length with hlt|hge
 ·rw[List.getElem?_eq_getElem hlt,List.getElem?_eq_getElem (by omega)] at h1|-
  simpa using h1
 ·rw[List.getElem?_eq_none hge,List.getElem?_eq_none (by omega)]
  exact⟨rfl,rfl⟩
set_option maxRecDepth 10000 in
theorem same_q(A0:Option Addr)(c0:Nat)(l0:List S51)(A1:Option Addr)(c1:Nat)(l1:List S51)(w:World)(hr0:Kd.C k51 w A0 l0.length l0)(hr1:Kd.C k51 w A1 l1.length l1)(hs:l0.map (fun y=>(y.f0,y.f1))=l1.map (fun y=>(y.f0,y.f1)))(hn:l0.length<=100000):
  Calls Tryz.prog 10 #[.slice A0 l0.length c0,.slice A1 l1.length c1] w fun e w'=>e = .returned (.bool true)/\Below w.heap.size w w':=by
 have hl:l1.length=l0.length:=by have:=congrArg List.length hs;simpa using this.symm
 rw[hl] at hr1|-;have HR0:=aM hr0;have HR1:=aM hr1;have HS:=aM (same_at hs);have HB:=aM (bR w.heap.size w);clear hr0 hr1 hs hl;go_enter Tryz.func10,Tryz.ntmps10
 go_wp2_with fail;go_loopg [14] l0.length (fun gk v14 wr=>∃i:Nat,v14 = .int .i64 (i:Int)/\gk=l0.length-i/\i<=l0.length/\Aside0 (Below w.heap.size w wr))
 case atStart=>exact⟨0,rfl,rfl,by omega,HB⟩
 case round=>
  clear HB;obtain⟨i,rfl,hk,hi,HB⟩:=hrel
  by_cases hlt:i<l0.length
  ·have hlI:(i:Int)<(l0.length:Int):=by omega
   have h0I:(0:Int)<=(i:Int):=by omega
   obtain⟨ad,rfl,x0,x1,x2⟩:=at_T51 (Kd.C_below HR0.out HB.out) (i:Int) h0I hlI
   obtain⟨bd,rfl,y0,y1,y2⟩:=at_T51 (Kd.C_below HR1.out HB.out) (i:Int) h0I (by omega)
   rw[<-(HS.out (i:Int)).1] at y0;rw[<-(HS.out (i:Int)).2] at y1;have hitn:((i:Nat):Int).toNat=i:=by omega
   rw[hitn] at x0 x1 x2 y0 y1;generalize rd_T51 l0 (i:Int)=s at x0 x1 x2 y0 y1;clear y2 hitn;have e1:(s.f0 != s.f0)=false:=by simp
   have e2:(s.f1.toList != s.f1.toList)=false:=by simp
   have HB2:=aM (bA HB.out (.cells #[.int .i64 s.f0,.string s.f1,.int .i64 s.f2] 51));replace y0:=pB (bA (bR _ wr) (.cells #[.int .i64 s.f0,.string s.f1,.int .i64 s.f2] 51)) y0;replace y1:=pB (bA (bR _ wr) (.cells #[.int .i64 s.f0,.string s.f1,.int .i64 s.f2] 51)) y1;go_wp2_with fail;have hv:=blk_new wr (.cells #[.int .i64 s.f0,.string s.f1,.int .i64 s.f2] 51);have t0:=bC hv 0;have t1:=bC hv 1;generalize wr.alloc _=wb at HB2 y0 y1 t0 t1|-;clear hv
   go_quiet (fail)
   go_wp2_with fail;go_roundg (l0.length-(i+1))
   case measure=>omega
   case rel=>exact⟨i+1,rfl,rfl,by omega,⟨pD HB2.out _⟩⟩
  ·have hlI:¬(i:Int)<(l0.length:Int):=by omega
   go_wp2_with fail;go_ret;exact⟨rfl,HB.out⟩
end Go.Proofs.YtoimaaonloibfaaGreatDoor.Tk
namespace Go.Proofs.YtoimaaonloibfaaGreatDoor.Pa
open Go.RowKit W1 W2 PF Wf Lx
attribute [local go_sem] run_store_float fld49_0 fld49_1 fld49_3
def NC(E:Env)(f:FuncId)(args:Array Value)(a:Nat)(s:Srt)(k m:Nat)(T:Nd->Prop):Prop:=∀(w:World) (c:Int),Ps E w a c->Below E.w0.heap.size E.w0 w->Calls Tryz.prog f args w fun e w'=>NodeR E w a c s k m T e w'
def LC(E:Env)(f:FuncId)(a:Nat):Prop:=∀(w:World) (c:Int),Ps E w a c->Below E.w0.heap.size E.w0 w->Calls Tryz.prog f #[.pointer (some ⟨E.g,0,none⟩)] w fun e w'=>ListR E w a c 1 e w'
def BC(E:Env)(a:Nat):Prop:=∀(wb w:World) (c:Int) (A:Option Addr) (cp:Nat) (ns:List ByteArray) {a0:Nat} {c0:Int},Pt E wb w a c->E.w0.heap.size<=wb.heap.size->Ps E wb a0 c0->NR w wb.heap.size (.slice A ns.length cp) ns->(∀nm∈ns,NameT nm/\nm.size<=2000)->ns.length<=1->
 Calls Tryz.prog 126 #[.pointer (some ⟨E.g,0,none⟩),.slice A ns.length cp] w fun e w'=>
  ∃(x:Nd) (An:Option Addr) (cn:Nat) (Ak:Option Addr) (ck:Nat) (a':Nat) (c':Int),e = .returned (.agg #[.int .i64 x.k,.string x.s,.float .f64 x.x,.int .i64 x.n,.bool x.b,(.slice An x.names.length cn),(.slice Ak x.kids.length ck)])/\Tr w' wb.heap.size x (.slice An x.names.length cn) (.slice Ak x.kids.length ck)/\Ok (c'=0) .e x/\x.k=26/\Mv E a c a' c' (x.wt+1) 0/\Pt E wb w' a' c'/\KeepBut w w' E.g (Value.slice A ns.length cp).ownBlock
structure All(E:Env)(a:Nat):Prop where
 block:NC E 20 #[.pointer (some ⟨E.g,0,none⟩)] a .b 0 1 (fun _=>True)
 loop:NC E 95 #[.pointer (some ⟨E.g,0,none⟩)] a .b 0 1 (fun _=>True)
 last:NC E 55 #[.pointer (some ⟨E.g,0,none⟩)] a .s 0 0 (fun _=>True)
 list:LC E 92 a
 statement:NC E 58 #[.pointer (some ⟨E.g,0,none⟩)] a .s 0 0 (fun _=>True)
 branch:NC E 96 #[.pointer (some ⟨E.g,0,none⟩)] a .s 0 0 (fun _=>True)
 counting:NC E 97 #[.pointer (some ⟨E.g,0,none⟩)] a .s 0 0 (fun _=>True)
 named:NC E 98 #[.pointer (some ⟨E.g,0,none⟩)] a .s 0 0 (fun _=>True)
 local_:NC E 99 #[.pointer (some ⟨E.g,0,none⟩)] a .s 0 0 (fun _=>True)
 plain:NC E 100 #[.pointer (some ⟨E.g,0,none⟩)] a .s 0 0 (fun _=>True)
 expression:∀l:Int,0<=l->NC E 94 #[.pointer (some ⟨E.g,0,none⟩),.int .i64 l] a .e 1 0 (fun _=>True)
 field:NC E 160 #[.pointer (some ⟨E.g,0,none⟩)] a .f 0 0 (fun _=>True)
 table:NC E 147 #[.pointer (some ⟨E.g,0,none⟩)] a .e 1 0 (fun _=>True)
 arguments:1<=a->LC E 148 a
 prefixed:NC E 127 #[.pointer (some ⟨E.g,0,none⟩)] a .e 1 0 (fun _=>True)
 body:BC E a
structure Ou(E:Env)(w wr:World)(n0 n1 b a:Nat)(c:Int)(k:Int)(s:ByteArray)(x:Nat)(n:Int)(fl:Bool)(ns:List ByteArray)(ks:List Nd)(vn vk:Value):Prop where
 p:Pt E w wr a c
 v2:Vb wr n0 #[.int .i64 0,.string ⟨#[]⟩,.float .f64 0,.int .i64 0,.bool false,.slice none 0 0,.slice none 0 0]
 v3:Vb wr n1 #[.int .i64 k,.string s,.float .f64 x,.int .i64 n,.bool fl,vn,vk]
 nr:NR wr b vn ns
 kr:KR wr b vk ks
section
variable {E:Env} {w wr w1 w2:World} {a a' n0 n1 b q:Nat} {c c' k n:Int} {s:ByteArray} {x:Nat} {fl:Bool} {ns:List ByteArray} {ks:List Nd} {vn vk un uk:Value} {y:Nd}
variable {ops:Array Oper} {rest:List Oper} {o:Oper} {act:Act} {Q:Exit->Act->World->Prop} {K:Act->World->Prop}
theorem Ou.step(h:Ou E w wr n0 n1 b a c k s x n fl ns ks vn vk)(h2:Pt E wr w1 a' c'):Ou E w w1 n0 n1 b a' c' k s x n fl ns ks vn vk:=
 ⟨h.p.step h2,h.v2.keep h.p.s h2,h.v3.keep h.p.s h2,h.nr.keep h.p.s h2,h.kr.keep h.p.s h2⟩
theorem Ou.below(h:Ou E w wr n0 n1 b a c k s x n fl ns ks vn vk)(hb:Below wr.heap.size wr w1):Ou E w w1 n0 n1 b a c k s x n fl ns ks vn vk:=
 ⟨h.p.below hb,h.v2.below hb,h.v3.below hb,h.nr.below hb,h.kr.below hb⟩
theorem Ou.drew(h:Ou E w wr n0 n1 b a c k s x n fl ns ks vn vk):Ou E w wr.drew n0 n1 b a c k s x n fl ns ks vn vk:=h.below (below_drew (bR _ _))
theorem Ou.alloc(h:Ou E w wr n0 n1 b a c k s x n fl ns ks vn vk)(o:Obj):Ou E w (wr.alloc o) n0 n1 b a c k s x n fl ns ks vn vk:=h.below (bA (bR _ _) o)
theorem Ou.fin(h:Ou E w wr n0 n1 b a c k s x n fl ns ks vn vk)(hE:E.Fine)(h0:Ps E w a' c')(hB:E.w0.heap.size<=w.heap.size)(hn:w.heap.size=n0)(hb:n0<b):
  Pt E w (((((((wr.setCell ⟨n0,0,none⟩ (.int .i64 k)).setCell ⟨n0,1,none⟩ (.string s)).setCell ⟨n0,2,none⟩ (.float .f64 x)).setCell ⟨n0,3,none⟩ (.int .i64 n)).setCell ⟨n0,4,none⟩ (.bool fl)).setCell ⟨n0,5,none⟩ vn).setCell ⟨n0,6,none⟩ vk) a c/\
  Tr (((((((wr.setCell ⟨n0,0,none⟩ (.int .i64 k)).setCell ⟨n0,1,none⟩ (.string s)).setCell ⟨n0,2,none⟩ (.float .f64 x)).setCell ⟨n0,3,none⟩ (.int .i64 n)).setCell ⟨n0,4,none⟩ (.bool fl)).setCell ⟨n0,5,none⟩ vn).setCell ⟨n0,6,none⟩ vk) w.heap.size ⟨k,s,x,n,fl,ns,ks⟩ vn vk/\
  (((((((wr.setCell ⟨n0,0,none⟩ (.int .i64 k)).setCell ⟨n0,1,none⟩ (.string s)).setCell ⟨n0,2,none⟩ (.float .f64 x)).setCell ⟨n0,3,none⟩ (.int .i64 n)).setCell ⟨n0,4,none⟩ (.bool fl)).setCell ⟨n0,5,none⟩ vn).setCell ⟨n0,6,none⟩ vk).heap[n0]? = some (.cells #[.int .i64 k,.string s,.float .f64 x,.int .i64 n,.bool fl,vn,vk] 27 (0,0)):=by
 obtain⟨h1,h2,h3⟩:=h.p.put7 hE h0 hB (b:=n0) (by omega) h.v2 rfl (.int .i64 k) (.string s) (.float .f64 x) (.int .i64 n) (.bool fl) vn vk;exact⟨h1,Tr.mk ((h.nr.far h3 hb).lower (by omega)) ((h.kr.far h3 hb).lower (by omega)),h2⟩
theorem Ou.push_stepd(W:World)(hw:Region.wanted o (yielded ops act.tmps)=true)(t p:Operand)(ho:o.op = .call {callee:= .builtin .append,args:= #[t,p],argTypes:= #[25,25]})
  (hs:act.eval t=vk) (h:Ou E w wr n0 n1 b a c k s x n fl ns ks vn vk) {N:Nat} (hp:act.eval p = .slice (some ⟨N,0,none⟩) 1 1) (hN:wr.heap.size=N) {b2:Nat} (hy:Tr wr b2 y un uk) (hb:b<=b2) (hv:∀j,vk.ownBlock=some j->j<b2)
  (hW:W=wr.alloc (.cells #[.int .i64 y.k,.string y.s,.float .f64 y.x,.int .i64 y.n,.bool y.b,un,uk] 27)) (hb0:b<=wr.heap.size) (hl:ks.length<=100000)
  (h0:Ps E w a' c') (hE:E.Fine) (hB:E.w0.heap.size<=w.heap.size) (hwb:w.heap.size<=b) (hn0:n0<b) (hn1:n1<b)
  (hK:∀A1 c1 w1,KR w1 b (.slice A1 (ks.length+1) c1) (ks++[y])->Pt E w w1 a c->NR w1 b vn ns->Vb w1 n0 #[.int .i64 0,.string ⟨#[]⟩,.float .f64 0,.int .i64 0,.bool false,.slice none 0 0,.slice none 0 0]->Vb w1 n1 #[.int .i64 k,.string s,.float .f64 x,.int .i64 n,.bool fl,vn,vk]->K (act.put o.dst (.slice A1 (ks.length+1) c1)) w1):
  if Region.wanted o (yielded ops act.tmps)=true then Oper.wp Tryz.prog o act W K Q else K (act.put o.dst undef) W:=
 KR.push_stepd W hw t p ho hs h.kr hp hN hy hb hv hW hb0 hl h0 hE hB hwb h.p (fun A1 c1 w1 hk hp hV hg=>hK A1 c1 w1 hk hp (h.nr.grown h.kr hg) (hV _ _ hn0 h.v2) (hV _ _ hn1 h.v3))
theorem Ou.stored{A1:Option Addr}{m c1:Nat}(hk:KR w1 b (.slice A1 m c1) (ks++[y]))(hp:Pt E w w1 a c)(hv2:Vb w1 n0 #[.int .i64 0,.string ⟨#[]⟩,.float .f64 0,.int .i64 0,.bool false,.slice none 0 0,.slice none 0 0])(hv3:Vb w1 n1 #[.int .i64 k,.string s,.float .f64 x,.int .i64 n,.bool fl,vn,vk])(hnr:NR w1 b vn ns)
  (h0:Ps E w a' c') (hE:E.Fine) (hB:E.w0.heap.size<=w.heap.size) (hwn:w.heap.size<=n1) (hn1:n1<b) (hne:n0≠n1):
  Ou E w (w1.setCell ⟨n1,6,none⟩ (.slice A1 m c1)) n0 n1 b a c k s x n fl ns (ks++[y]) vn (.slice A1 m c1):=by
 have hf:∀j,j≠n1->(w1.setCell ⟨n1,6,none⟩ (.slice A1 m c1)).heap[j]? = w1.heap[j]? :=fun j hj=>Below.heap_setCell w1 ⟨n1,6,none⟩ _ j hj
 exact⟨hp.put hE h0 hB hwn 6 _,blk_far hv2 (p:=⟨n1,6,none⟩) hne _,blk_set hv3 6 _,hnr.far hf hn1,hk.far hf hn1⟩
end
section
variable {E:Env} {w wr w1 w2:World} {a a' n0 n1 b q:Nat} {c c':Int}
theorem Tx.none{x:Nd}(hs:x.s.size<=2000)(hk:x.k≠23/\x.k≠27/\x.k≠30/\x.k≠31/\x.k≠32)(hn:∀nm∈x.names,NameT nm/\nm.size<=2000):Tx x:=
 ⟨hs,fun h=>absurd h hk.1,fun h=>h.elim (fun h=>absurd h hk.2.1) (fun h=>absurd h hk.2.2.1),fun h=>h.elim (fun h=>absurd h hk.2.2.2.1) (fun h=>absurd h hk.2.2.2.2),hn⟩
theorem Tx.bare{k:Int}{x:Nat}{n:Int}{b:Bool}{ks:List Nd}(hk:k≠23/\k≠27/\k≠30/\k≠31/\k≠32):Tx ⟨k,⟨#[]⟩,x,n,b,[],ks⟩:=Tx.none (Nat.zero_le _) hk (fun nm h=>by simp at h)
theorem tell_g{c x:Int}{p:Prop}(hx:x≠0):(if c=0 then x else c)=0->p:=fun h=>absurd h (tell_c hx)
set_option maxRecDepth 10000 in
set_option maxHeartbeats 4000000 in
theorem table_any(hE:E.Fine)(IH:∀b,a<b->b<E.n->All E b)(ha:a<E.n):NC E 147 #[.pointer (some ⟨E.g,0,none⟩)] a .e 1 0 (fun _=>True):=by
 intro w c h hB;have HE:=aM hE;have HIH:=aM IH;have hpos:=hE.pos;have hlen:=hE.len;have HP:=aM h;have HB0:=aM hB.size;obtain⟨n0,hn0⟩:∃n0,w.heap.size=n0:=⟨_,rfl⟩;have hgl:=h.lt;have e1:(w.alloc (.cells #[.int .i64 0,.string ⟨#[]⟩,.float .f64 0,.int .i64 0,.bool false,.slice none 0 0,.slice none 0 0] 27)).heap.size=n0+1:=by simp[hn0]
 have e2:((w.alloc (.cells #[.int .i64 0,.string ⟨#[]⟩,.float .f64 0,.int .i64 0,.bool false,.slice none 0 0,.slice none 0 0] 27)).alloc (.cells #[.int .i64 34,.string ⟨#[]⟩,.float .f64 0,.int .i64 0,.bool false,.slice none 0 0,.slice none 0 0] 27)).heap.size=n0+2:=by simp[hn0]
 have H:=aM (show Ou E w ((w.alloc (.cells #[.int .i64 0,.string ⟨#[]⟩,.float .f64 0,.int .i64 0,.bool false,.slice none 0 0,.slice none 0 0] 27)).alloc (.cells #[.int .i64 34,.string ⟨#[]⟩,.float .f64 0,.int .i64 0,.bool false,.slice none 0 0,.slice none 0 0] 27)) n0 (n0+1) (n0+2) a c 34 ⟨#[]⟩ 0 0 false [] [] (.slice none 0 0) (.slice none 0 0) from⟨((Pt.start h hB).alloc _).alloc _,by have:=(Vb.new w #[.int .i64 0,.string ⟨#[]⟩,.float .f64 0,.int .i64 0,.bool false,.slice none 0 0,.slice none 0 0]).alloc (.cells #[.int .i64 34,.string ⟨#[]⟩,.float .f64 0,.int .i64 0,.bool false,.slice none 0 0,.slice none 0 0] 27);rwa[hn0] at this,by have:=Vb.new (w.alloc (.cells #[.int .i64 0,.string ⟨#[]⟩,.float .f64 0,.int .i64 0,.bool false,.slice none 0 0,.slice none 0 0] 27)) #[.int .i64 34,.string ⟨#[]⟩,.float .f64 0,.int .i64 0,.bool false,.slice none 0 0,.slice none 0 0];rwa[e1] at this,NR.nil _ _,KR.nil _ _⟩);have HN0:=aM hn0;clear hE IH h hB e1 e2;go_enter Tryz.func147,Tryz.ntmps147
 go_wp2_with fail;generalize ((w.alloc (.cells #[.int .i64 0,.string ⟨#[]⟩,.float .f64 0,.int .i64 0,.bool false,.slice none 0 0,.slice none 0 0] 27)).alloc (.cells #[.int .i64 34,.string ⟨#[]⟩,.float .f64 0,.int .i64 0,.bool false,.slice none 0 0,.slice none 0 0] 27))=wz at H|-;clear hn0;refine(sign_any HE.out H.out.p.s H.out.p.B ha _).mono ?_;rintro e w1 ⟨a1,c1,rfl,h1,h2,h3,h4,h5⟩;replace H:=aM (H.out.step h5);have G:=aM h4;have PR:=aM h3;clear h5 h4 h3;go_wp2_with fail;go_loopg [] (E.n-a1) (fun k wr=>∃(a':Nat) (c':Int) (A6:Option Addr) (c6:Nat) (xs:List Nd),k=E.n-a'/\a'<E.n/\a<=a'/\Aside0 (a+1<E.n->a<a')/\xs.length<=a'/\Aside0 (∀y∈xs,Ok (c'=0) .f y)/\Aside0 (c'=0->c=0/\a+1<=a'/\wts xs+3<=3*(a'-a))/\Aside0 (Ou E w wr n0 (n0+1) (n0+2) a' c' 34 ⟨#[]⟩ 0 0 false [] xs (.slice none 0 0) (.slice A6 xs.length c6)))
 case atStart=>exact⟨a1,c1,none,0,[],rfl,h2,h1,PR,by simp,⟨fun y hy=>by simp at hy⟩,⟨fun h0=>⟨(G.out h0).1,by have:=(G.out h0).2.1;omega,by have:=(G.out h0).2.1;simp[wts];omega⟩⟩,H⟩
 case round=>
  clear H G PR h1 h2;obtain⟨a2,c2,A6,c6,xs,hk,h1,h2,PR,hl,OK,G,H⟩:=hrel;go_upto_region 3 with fail
  go_cut [15] from 7 to 16 (fun v wc=>∃b:Bool,v = .bool b/\Aside0 (b=true->(E.tk a2).k≠6)/\Aside0 (Ou E w wc n0 (n0+1) (n0+2) a2 c2 34 ⟨#[]⟩ 0 0 false [] xs (.slice none 0 0) (.slice A6 xs.length c6)))
  case first=>
   go_wp2_with fail;refine(isSign_q HE.out H.out.p.s h1 _).mono ?_;rintro e w2 ⟨rfl,hb⟩;replace H:=aM (H.out.below hb);clear hb;obtain⟨b1,hb1⟩:∃b,E.isS a2 ⟨#[125]⟩=b:=⟨_,rfl⟩;rw[hb1]
   cases b1 with
   |true=>
    go_wp2_with fail;go_meet
    case rel=>exact⟨_,rfl,⟨fun h=>by cases h⟩,H⟩
   |false=>
    go_wp2_with fail;refine(now_q HE.out H.out.p.s h1).mono ?_;rintro e w3 ⟨rfl,hb⟩;replace H:=aM (H.out.below hb);clear hb;obtain⟨b2,hb2⟩:∃b,((E.tk a2).k != 6)=b:=⟨_,rfl⟩;go_wp2_with fail;go_meet
    case rel=>exact⟨b2,rfl,⟨fun h=>by rw[h] at hb2;exact bne_iff_ne.1 hb2⟩,H⟩
  clear H;obtain⟨b15,rfl,K6,H⟩:=hcut
  cases b15 with
  |false=>
   have hA:=h1;go_wp2_with fail;refine(sign_any HE.out H.out.p.s H.out.p.B hA _).mono ?_;rintro e w5 ⟨a3,c3,rfl,q1,q2,q3,q4,h5⟩;replace H:=aM (H.out.step h5);have G2:=aM q4;clear h5 q3 q4;obtain⟨y0,y1,y2,y3,y4,y5,y6⟩:=bC7 H.out.v3;obtain⟨z0,z1,z2,z3,z4,z5,z6⟩:=bC7 H.out.v2;obtain⟨fz0,fz1,fz2,fz3,fz4,fz5,fz6⟩:=bF7 H.out.v2;go_wp2_with fail;have HF:=aM (H.out.fin HE.out HP.out HB0.out HN0.out (by omega));generalize (((((((w5.setCell ⟨n0,0,none⟩ (.int .i64 34)).setCell ⟨n0,1,none⟩ (.string ⟨#[]⟩)).setCell ⟨n0,2,none⟩ (.float .f64 0)).setCell ⟨n0,3,none⟩ (.int .i64 0)).setCell ⟨n0,4,none⟩ (.bool false)).setCell ⟨n0,5,none⟩ (.slice none 0 0)).setCell ⟨n0,6,none⟩ (.slice A6 xs.length c6))=WF at HF|-;obtain⟨qq0,qq1,qq2,qq3,qq4,qq5,qq6⟩:=bC7 HF.out.2.2;refine bodyPost_ret (v:= .agg #[.int .i64 34,.string ⟨#[]⟩,.float .f64 0,.int .i64 0,.bool false,.slice none 0 0,.slice A6 xs.length c6]) (by simp[results,Tryz.results147,go_sem,qq0,qq1,qq2,qq3,qq4,qq5,qq6]) rfl ?_;refine⟨⟨34,⟨#[]⟩,0,0,false,[],xs⟩,none,0,A6,c6,a3,c3,rfl,HF.out.2.1,.tab rfl (fun _=>Tx.bare (by decide)) (fun y hy=>(OK.out y hy).mono (fun h0=>(G2.out h0).1)),trivial,⟨by omega,q2,fun _ h=>Nat.lt_of_lt_of_le (PR.out h) q1,fun h0=> ?_⟩,HF.out.1⟩;obtain⟨r1,r2,r3⟩:=G2.out h0;obtain⟨r4,r5,r6⟩:=G.out r1;refine⟨r4,?_⟩;rw[wt_eq];simp only[List.length_nil];omega
  |true=>
   have hk6:(E.tk a2).k≠6:=by first|exact K6.out rfl|exact K6.out trivial
   have hlt:=Env.not_end HE.out h1 hk6;clear K6;have hmid:Aside0 (a<a2):=⟨PR.out (by omega)⟩;clear PR;go_upto_region 4 with fail
   go_cut [27] from 16 to 28 (fun v wc=>∃b:Bool,v = .bool b/\Aside0 (Ou E w wc n0 (n0+1) (n0+2) a2 c2 34 ⟨#[]⟩ 0 0 false [] xs (.slice none 0 0) (.slice A6 xs.length c6)))
   case first=>
    obtain⟨y0,y1,y2,y3,y4,y5,y6⟩:=bC7 H.out.v3;obtain⟨bl,hbl⟩:∃b:Bool,decide ((xs.length:Int)>0)=b:=⟨_,rfl⟩
    by_cases hx:0<xs.length
    ·go_wp2_with fail
     refine(isSign_q HE.out H.out.p.s h1 _).mono ?_;rintro e w6 ⟨rfl,hb⟩;replace H:=aM (H.out.below hb);clear hb;obtain⟨b1,hb1⟩:∃b,E.isS a2 ⟨#[44]⟩=b:=⟨_,rfl⟩;rw[hb1]
     cases b1 with
     |true=>
      go_wp2_with fail;go_meet
      case rel=>exact⟨_,rfl,H⟩
     |false=>
      go_wp2_with fail;refine(isSign_q HE.out H.out.p.s h1 _).mono ?_;rintro e w7 ⟨rfl,hb⟩;replace H:=aM (H.out.below hb);clear hb;generalize E.isS a2 ⟨#[59]⟩=b2;go_wp2_with fail;go_meet
      case rel=>exact⟨_,rfl,H⟩
    ·go_wp2_with fail
     go_meet
     case rel=>exact⟨_,rfl,H⟩
   clear H;obtain⟨b27,rfl,H⟩:=hcut
   go_upto_if 27 with fail
   go_cut [] from 27 to 30 (fun wc=>∃(a3:Nat) (c3:Int),a2<=a3/\a3<E.n/\Aside0 (c3=0->c2=0)/\Aside0 (Ou E w wc n0 (n0+1) (n0+2) a3 c3 34 ⟨#[]⟩ 0 0 false [] xs (.slice none 0 0) (.slice A6 xs.length c6)))
   case first=>
    cases b27 with
    |true=>
     go_wp2_with fail;refine(tell_any HE.out H.out.p.s H.out.p.B 2).mono ?_;rintro e w6 ⟨rfl,h2⟩;replace H:=aM (H.out.step h2);clear h2;go_wp2_with fail;go_meet
     case rel=>exact⟨E.n-1,_,by omega,by omega,⟨tell_g (by decide)⟩,H⟩
    |false=>
     go_wp2_with fail;go_meet
     case rel=>exact⟨a2,c2,by omega,h1,⟨fun h=>h⟩,H⟩
   clear H;obtain⟨a3,c3,g1,g2,G3,H⟩:=hcut;have y6:=bC H.out.v3 6;have fy6:=bF H.out.v3 6;have HF:=aM ((HIH.out a3 (by have:=hmid.out;omega) g2).field _ _ H.out.drew.p.s H.out.drew.p.B);replace H:=aM H.out.drew;have HSZ:=aM (blk_lt H.out.v3);have HVV:=aM H.out.kr.lt;go_upto_region 6 with fail
   go_cut [] from 30 to 37 (fun wc=>∃(y:Nd) (A9:Option Addr) (c9:Nat) (a4:Nat) (c4:Int),Aside0 (Ok (c4=0) .f y)/\Aside0 (Mv E a3 c3 a4 c4 (y.wt+0) 0)/\Aside0 (Ou E w wc n0 (n0+1) (n0+2) a4 c4 34 ⟨#[]⟩ 0 0 false [] (xs++[y]) (.slice none 0 0) (.slice A9 (xs.length+1) c9)))
   case first=>
    go_region_law (first|(refine Ou.push_stepd _ (by rfl) (.tmp 31) (.tmp 34) (by rfl) (by rfl) H2.out (by rfl) (by rfl) TY.out (by have:=HSZ.out;omega) HVV.out (by rfl) (by have:=blk_lt H2.out.v3;omega) (by omega) HP.out HE.out HB0.out (by have:=HN0.out;omega) (by omega) (by omega) ?_;intro A9 c9 w9 k9 p9 n9 v9 u9;have H9:=aM (Ou.stored k9 p9 v9 u9 n9 HP.out HE.out HB0.out (by have:=HN0.out;omega) (by omega) (by omega));have e9:=bC u9 6;have fe9:=bF u9 6;clear k9 p9 n9 v9 u9)|(go_simp;go_at_call 160;refine HF.out.mono ?_;rintro e w8 ⟨y,Yn,yn,Yk,yk,a4,c4,rfl,ty,oy,_,my,hp⟩;have TY:=aM ty;have OY:=aM oy;have MY:=aM my;have H2:=aM (H.out.step hp);have r6:=bC H2.out.v3 6;have r6a:=fun(ob:Obj)=>bC (H2.out.alloc ob).v3 6;clear ty oy my hp))
    all_goals
     go_wp2
     go_meet
     case rel=>exact⟨y,A9,c9,a4,c4,OY,MY,H9⟩
   clear H HF y6 fy6 HSZ HVV;obtain⟨y,A9,c9,a4,c4,OY,MY,H⟩:=hcut;have hA:=MY.out.lt;have hle:=MY.out.le;have PR:=aM (show a+1<E.n->a<a4 from fun _=>by have:=hmid.out;omega);have OK2:=aM (show ∀z∈xs++[y],Ok (c4=0) .f z from fun z hz=>by
    rcases List.mem_append.1 hz with hz|hz
    ·exact(OK.out z hz).mono (fun h0=>G3.out (MY.out.good h0).1)
    ·simp at hz
     subst hz;exact OY.out)
   have G4:=aM (show c4=0->c=0/\a+1<=a4/\wts (xs++[y])+3<=3*(a4-a) from fun h0=>by
    obtain⟨r1,r2⟩:=MY.out.good h0;obtain⟨r3,r4,r5⟩:=G.out (G3.out r1);refine⟨r3,by omega,?_⟩;rw[wts_append];simp only[wts]
    omega)
   have hpr:=MY.out.pr rfl;have hl2:(xs++[y]).length=xs.length+1:=by simp
   have hl3:(xs++[y]).length<=a4:=by rw[hl2];omega
   rw[<-hl2] at H;clear OK G MY OY;generalize xs++[y]=xs at OK2 G4 H hl3;go_upto_region 7 with fail
   go_cut [44] from 37 to 44 (fun v wc=>∃(b:Bool) (a5:Nat),v = .bool b/\a4<=a5/\a5<E.n/\Aside0 (b=false->a4<a5)/\Aside0 (Ou E w wc n0 (n0+1) (n0+2) a5 c4 34 ⟨#[]⟩ 0 0 false [] xs (.slice none 0 0) (.slice A9 xs.length c9)))
   case first=>
    go_wp2_with fail;refine(hasSign_any HE.out H.out.p.s H.out.p.B hA _).mono ?_;rintro e w10 ⟨b1,a5,rfl,_,p1,p2,hp⟩;replace H:=aM (H.out.step hp);clear hp
    cases b1 with
    |true=>
     obtain⟨rfl,p3⟩:=p1 rfl;clear p1 p2;go_wp2_with fail;go_meet
     case rel=>exact⟨_,a4+1,rfl,by omega,p3,⟨fun _=>by omega⟩,H⟩
    |false=>
     obtain rfl:=p2 rfl;clear p1 p2;go_wp2_with fail;refine(hasSign_any HE.out H.out.p.s H.out.p.B hA _).mono ?_;rintro e w11 ⟨b1,a6,rfl,_,p1,p2,hp⟩;replace H:=aM (H.out.step hp);clear hp
     cases b1 with
     |true=>
      obtain⟨rfl,p3⟩:=p1 rfl;clear p1 p2;go_wp2_with fail;go_meet
      case rel=>exact⟨_,_,rfl,by omega,p3,⟨fun _=>by omega⟩,H⟩
     |false=>
      obtain rfl:=p2 rfl;clear p1 p2;go_wp2_with fail;go_meet
      case rel=>exact⟨_,_,rfl,by omega,hA,⟨fun h=>by cases h⟩,H⟩
   clear H;obtain⟨b44,a5,rfl,q1,q2,q3,H⟩:=hcut;have G:=aM (show c4=0->c=0/\a+1<=a5/\wts xs+3<=3*(a5-a) from fun h0=>by
    obtain⟨r1,r2,r3⟩:=G4.out h0;exact⟨r1,by omega,by omega⟩)
   replace PR:=aM (show a+1<E.n->a<a5 from fun h=>Nat.lt_of_lt_of_le (PR.out h) q1)
   cases b44 with
   |true=>
    clear q3;have hA:=q2;have OK:=OK2;go_wp2_with fail;refine(sign_any HE.out H.out.p.s H.out.p.B hA _).mono ?_;rintro e w5 ⟨a3,c3,rfl,q1,q2,q3,q4,h5⟩;replace H:=aM (H.out.step h5);have G2:=aM q4;clear h5 q3 q4;obtain⟨y0,y1,y2,y3,y4,y5,y6⟩:=bC7 H.out.v3;obtain⟨z0,z1,z2,z3,z4,z5,z6⟩:=bC7 H.out.v2;obtain⟨fz0,fz1,fz2,fz3,fz4,fz5,fz6⟩:=bF7 H.out.v2;go_wp2_with fail;have HF:=aM (H.out.fin HE.out HP.out HB0.out HN0.out (by omega));generalize (((((((w5.setCell ⟨n0,0,none⟩ (.int .i64 34)).setCell ⟨n0,1,none⟩ (.string ⟨#[]⟩)).setCell ⟨n0,2,none⟩ (.float .f64 0)).setCell ⟨n0,3,none⟩ (.int .i64 0)).setCell ⟨n0,4,none⟩ (.bool false)).setCell ⟨n0,5,none⟩ (.slice none 0 0)).setCell ⟨n0,6,none⟩ (.slice A9 xs.length c9))=WF at HF|-;obtain⟨qq0,qq1,qq2,qq3,qq4,qq5,qq6⟩:=bC7 HF.out.2.2;refine bodyPost_ret (v:= .agg #[.int .i64 34,.string ⟨#[]⟩,.float .f64 0,.int .i64 0,.bool false,.slice none 0 0,.slice A9 xs.length c9]) (by simp[results,Tryz.results147,go_sem,qq0,qq1,qq2,qq3,qq4,qq5,qq6]) rfl ?_;refine⟨⟨34,⟨#[]⟩,0,0,false,[],xs⟩,none,0,A9,c9,a3,c3,rfl,HF.out.2.1,.tab rfl (fun _=>Tx.bare (by decide)) (fun y hy=>(OK.out y hy).mono (fun h0=>(G2.out h0).1)),trivial,⟨by omega,q2,fun _ h=>Nat.lt_of_lt_of_le (PR.out h) q1,fun h0=> ?_⟩,HF.out.1⟩;obtain⟨r1,r2,r3⟩:=G2.out h0;obtain⟨r4,r5,r6⟩:=G.out r1;refine⟨r4,?_⟩;rw[wt_eq];simp only[List.length_nil];omega
   |false=>
    have q4:a4<a5:=by first|exact q3.out rfl|exact q3.out trivial
    clear q3;go_wp2_with fail;go_roundg (E.n-a5)
    case measure=>omega
    case rel=>exact⟨a5,c4,A9,c9,xs,rfl,q2,by omega,PR,by omega,OK2,G,H⟩
end
section
variable {E:Env} {w wr w1 w2:World} {a a' n0 n1 b q:Nat} {c c':Int}
theorem Ok.str{g:Prop}{s:ByteArray}(h:s.size<=2000):Ok g .e (ndS s):= .atom (.inr (.inr (.inr (.inr (.inl rfl))))) (fun _=>Tx.none h (by simp[ndS]) (fun nm h=>by simp[ndS] at h))
set_option maxRecDepth 10000 in
set_option maxHeartbeats 4000000 in
theorem arguments_any(hE:E.Fine)(IH:∀b,a<b->b<E.n->All E b)(ha:a<E.n)(hT:NC E 147 #[.pointer (some ⟨E.g,0,none⟩)] a .e 1 0 (fun _=>True))(h1a:1<=a):LC E 148 a:=by
 intro w c h hB;have HE:=aM hE;have HIH:=aM IH;have HT:=aM hT;have hpos:=hE.pos;have hlen:=hE.len;have HP:=aM h;have HB0:=aM hB.size;have H:=aM (Pt.start h hB);clear hE IH h hB hT;go_enter Tryz.func148,Tryz.ntmps148
 go_wp2_with fail;refine(now_q HE.out H.out.s ha).mono ?_;rintro e w1 ⟨rfl,hb⟩;replace H:=aM (H.out.below hb);clear hb
 by_cases h5:(E.tk a).k=5
 ·have h5b:((E.tk a).k==5)=true:=beq_iff_eq.2 h5
  have hlt:=Env.not_end HE.out ha (by rw[h5];decide);have HK:=aM (show(E.tk a).k≠6 by rw[h5];decide);have HS:=aM (HE.out.size a);clear h5;go_wp2_with fail;refine(take_any HE.out H.out.s H.out.B ha).mono ?_;rw[if_neg HK.out];rintro e w2 ⟨rfl,h2⟩;replace H:=aM (H.out.step h2);clear h2;go_wp2_with fail;go_ret;have hk:=KR.lit1 (Tr.str w2 w.heap.size (E.tk a).s) H.out.size;exact⟨[ndS (E.tk a).s],_,1,a+1,c,rfl,hk,fun x hx=>by(have:=List.mem_singleton.1 hx;subst this;exact Ok.str HS.out),by simp,⟨by omega,by omega,fun _ _=>by omega,fun h0=>⟨h0,by simp[wts,wt_eq,ndS]<;>omega⟩⟩,H.out.alloc _⟩
 ·have h5b:((E.tk a).k==5)=false:=beq_eq_false_iff_ne.2 h5
  clear h5;go_wp2_with fail;refine(isSign_q HE.out H.out.s ha _).mono ?_;rintro e w2 ⟨rfl,hb⟩;replace H:=aM (H.out.below hb);clear hb;obtain⟨b1,hb1⟩:∃b,E.isS a ⟨#[123]⟩=b:=⟨_,rfl⟩;rw[hb1]
  cases b1 with
  |true=>
   go_wp2_with fail;refine(HT.out _ _ H.out.s H.out.B).mono ?_;rintro e w3 ⟨x,An,cn,Ak,ck,a1,c1,rfl,tx,ox,_,mx,hp⟩;have TX:=aM tx;have OX:=aM ox;have MX:=aM mx;have HSZ:=aM H.out.size;replace H:=aM (H.out.step hp);clear tx ox mx hp;go_wp2_with fail;go_ret;have hk:=KR.lit1 (TX.out.lower HSZ.out) H.out.size;exact⟨[x],_,1,a1,c1,rfl,hk,fun y hy=>by(have:=List.mem_singleton.1 hy;subst this;exact OX.out),by simp,⟨MX.out.le,MX.out.lt,MX.out.pr,fun h0=>⟨(MX.out.good h0).1,by have:=(MX.out.good h0).2;simp[wts];omega⟩⟩,H.out.alloc _⟩
  |false=>
   go_wp2_with fail;refine(isSign_q HE.out H.out.s ha _).mono ?_;rintro e w3 ⟨rfl,hb⟩;replace H:=aM (H.out.below hb);clear hb;obtain⟨b2,hb2⟩:∃b,E.isS a ⟨#[40]⟩=b:=⟨_,rfl⟩;rw[hb2];have HB2:=aM hb2;clear hb2 hb1
   cases b2 with
   |false=>
    go_wp2_with fail;refine(tell_any HE.out H.out.s H.out.B 1).mono ?_;rintro e w4 ⟨rfl,h2⟩;replace H:=aM (H.out.step h2);clear h2;go_wp2_with fail;go_ret;exact⟨[],none,0,E.n-1,_,rfl,KR.nil _ _,fun x hx=>by simp at hx,by simp,⟨by omega,by omega,fun _ _=>by omega,tell_g (by decide)⟩,H.out⟩
   |true=>
    have hk3:=isS_k HB2.out;have hlt:=Env.not_end HE.out ha (by rw[hk3];decide);have HK:=aM (show(E.tk a).k≠6 by rw[hk3];decide);clear hk3;go_upto_region 8 with fail;have hbf:a-1<E.n:=by omega
    obtain⟨ad,hadd,x0,x1,x2,x3,x4⟩:=H.out.s.tok HE.out hbf;obtain⟨s0,s1⟩:w3.cell? ⟨E.g,0,none⟩=some (.slice (some E.ad) E.n E.cp)/\w3.cell? ⟨E.g,1,none⟩=some (.int .i64 (a:Int)):=by
     obtain⟨va,lo,g1,g2⟩:=H.out.s;exact⟨bC g1 0,bC g1 1⟩
    rw[hadd] at s0;have q:IntKind.i64.wrap ((a:Int)-1)=((a-1:Nat):Int):=by rw[IntWalk.i64_in _ (by omega)];omega
    obtain⟨d,hd⟩:∃d,a-1=d:=⟨_,rfl⟩;rw[hd] at x0 x1 x2 x3 x4 q hbf;have hltd:(d:Int)<(E.n:Int):=by omega
    have h0d:(0:Int)<=(d:Int):=by omega
    generalize E.tk d=t at x0 x1 x2 x3 x4
    go_region_held3 (fun w'=>w'.cell? ⟨E.g,0,none⟩=some (.slice (some ad) E.n E.cp)/\w'.cell? ⟨E.g,1,none⟩=some (.int .i64 (a:Int))/\w'.cell? (ad.add (d*5))=some (.int .i64 t.k)/\w'.cell? ⟨(ad.add (d*5)).block,(ad.add (d*5)).off+1,none⟩=some (.string t.s)/\w'.cell? ⟨(ad.add (d*5)).block,(ad.add (d*5)).off+2,none⟩=some (.float .f64 t.x)/\w'.cell? ⟨(ad.add (d*5)).block,(ad.add (d*5)).off+3,none⟩=some (.int .i64 t.f1)/\w'.cell? ⟨(ad.add (d*5)).block,(ad.add (d*5)).off+4,none⟩=some (.int .i64 t.f2)) (go_keep) (fail)
    have hv:=blk_drew (blk_new w3 (.cells #[.int .i64 t.k,.string t.s,.float .f64 t.x,.int .i64 t.f1,.int .i64 t.f2] 49));replace H:=aM (H.out.alloc (.cells #[.int .i64 t.k,.string t.s,.float .f64 t.x,.int .i64 t.f1,.int .i64 t.f2] 49)).drew;generalize (w3.alloc (.cells #[.int .i64 t.k,.string t.s,.float .f64 t.x,.int .i64 t.f1,.int .i64 t.f2] 49)).drew=w4 at hv H|-;generalize w3.heap.size=n3 at hv|-;have V3:=aM hv;clear x0 x1 x2 x3 x4 s0 s1 hv;have z3:=bC V3.out 3;have HN:=aM (now_q HE.out (H.out.drew.s) ha);have zb:∀{w5:World},Below w4.drew.heap.size w4.drew w5->w5.cell? ⟨n3,3,none⟩=some (.int .i64 t.f1):=fun hb=>bC (blk_below (w:=w4.drew) V3.out hb) 3
    have ZB:=aM @zb;clear zb;go_upto_region 9 with fail
    go_region_held3 (fun w'=>w'.cell? ⟨n3,3,none⟩=some (.int .i64 t.f1)) (first|exact z3|exact ZB.out HB5.out|go_keep) ((go_at_call 21;refine HN.out.mono ?_;rintro e w5 ⟨rfl,hb⟩;have HB5:=aM hb;clear hb))
    replace H:=aM (H.out.drew.below HB5.out);obtain⟨b43,hb43⟩:∃b:Bool,(t.f1 != (E.tk a).f1)=b:=⟨_,rfl⟩;clear HB5 ZB HN V3 z3
    cases b43 with
    |true=>
     go_wp2_with fail;refine(tell_any HE.out H.out.s H.out.B 2).mono ?_;rintro e w6 ⟨rfl,h2⟩;replace H:=aM (H.out.step h2);clear h2;go_wp2_with fail;go_ret;exact⟨[],none,0,E.n-1,_,rfl,KR.nil _ _,fun x hx=>by simp at hx,by simp,⟨by omega,by omega,fun _ _=>by omega,tell_g (by decide)⟩,H.out⟩
    |false=>
     go_wp2_with fail;refine(take_any HE.out H.out.s H.out.B ha).mono ?_;rw[if_neg HK.out];rintro e w6 ⟨rfl,h2⟩;replace H:=aM (H.out.step h2);clear h2;go_wp2_with fail;refine(hasSign_any HE.out H.out.s H.out.B hlt _).mono ?_;rintro e w7 ⟨b1,a1,rfl,_,p1,p2,hp⟩;replace H:=aM (H.out.step hp);clear hp
     cases b1 with
     |true=>
      obtain⟨rfl,p3⟩:=p1 rfl;clear p1 p2;go_wp2_with fail;go_ret;exact⟨[],none,0,a+1+1,c,rfl,KR.nil _ _,fun x hx=>by simp at hx,by simp,⟨by omega,p3,fun _ _=>by omega,fun h0=>⟨h0,by simp[wts];omega⟩⟩,H.out⟩
     |false=>
      obtain rfl:=p2 rfl;clear p1 p2;have HSZ:=aM H.out.size;go_wp2_with fail;refine((HIH.out (a+1) (by omega) hlt).list _ _ H.out.s H.out.B).mono ?_;rintro e w8 ⟨xs,A,cp,a2,c2,rfl,kx,ox,lx,mx,hp⟩;have KX:=aM (kx.lower HSZ.out);have OX:=aM ox;have MX:=aM mx;have hA:=mx.lt;replace H:=aM (H.out.step hp);clear kx ox mx hp;go_wp2_with fail;refine(sign_any HE.out H.out.s H.out.B hA _).mono ?_;rintro e w9 ⟨a3,c3,rfl,q1,q2,q3,q4,h5⟩;replace KX:=aM (KX.out.keep H.out.s h5);replace H:=aM (H.out.step h5);have G:=aM q4;have hle:=MX.out.le;clear h5 q4;go_wp2_with fail;go_ret;exact⟨xs,A,cp,a3,c3,rfl,KX.out,fun x hx=>(OX.out x hx).mono (fun h0=>(G.out h0).1),lx,⟨by omega,q2,fun _ _=>by omega,fun h0=>⟨(MX.out.good (G.out h0).1).1,by have:=(MX.out.good (G.out h0).1).2;omega⟩⟩,H.out⟩
end
end Go.Proofs.YtoimaaonloibfaaGreatDoor.Pa
namespace Go.Proofs.YtoimaaonloibfaaGreatDoor.Pa
open Go.RowKit W1 W2 PF Wf Lx
section
variable {E:Env} {w wr w1 w2:World} {a a' n0 n1 b b2 q:Nat} {c c' k n:Int} {s:ByteArray} {x:Nat} {fl:Bool} {ns:List ByteArray} {xs ys ks:List Nd} {v vn vk un uk:Value} {y:Nd} {cs:Array Value}
variable {ops:Array Oper} {rest:List Oper} {o:Oper} {act:Act} {Q:Exit->Act->World->Prop} {K:Act->World->Prop}
theorem Ou.assign(hp:Pt E w wr a c)(hv2:Vb wr n0 #[.int .i64 0,.string ⟨#[]⟩,.float .f64 0,.int .i64 0,.bool false,.slice none 0 0,.slice none 0 0])(hv3:Vb wr n1 cs)(hcs:cs.size=7)(hn:NR wr b vn ns)(hk:KR wr b vk ks)
  (hE:E.Fine) (h0:Ps E w a' c') (hB:E.w0.heap.size<=w.heap.size) (hwn:w.heap.size<=n1) (hn1:n1<b) (hne:n0≠n1) (k:Int) (s:ByteArray) (x:Nat) (n:Int) (fl:Bool):
  Ou E w (((((((wr.setCell ⟨n1,0,none⟩ (.int .i64 k)).setCell ⟨n1,1,none⟩ (.string s)).setCell ⟨n1,2,none⟩ (.float .f64 x)).setCell ⟨n1,3,none⟩ (.int .i64 n)).setCell ⟨n1,4,none⟩ (.bool fl)).setCell ⟨n1,5,none⟩ vn).setCell ⟨n1,6,none⟩ vk) n0 n1 b a c k s x n fl ns ks vn vk:=by
 obtain⟨h1,h2,h3⟩:=hp.put7 hE h0 hB hwn hv3 hcs (.int .i64 k) (.string s) (.float .f64 x) (.int .i64 n) (.bool fl) vn vk;exact⟨h1,(h3 n0 hne).trans hv2,h2,hn.far h3 hn1,hk.far h3 hn1⟩
theorem KR.cat_stepd(hw:Region.wanted o (yielded ops act.tmps)=true)(t p:Operand)(ho:o.op = .call {callee:= .builtin .append,args:= #[t,p],argTypes:= #[25,25]})
  (hs:act.eval t=v) (h:KR wr b v xs) {A:Option Addr} {m cp:Nat} (hp:act.eval p = .slice A m cp) (hy:nodeK.R 27 wr b2 (fun j=>some j≠v.ownBlock) (.slice A m cp) ys) (hb:b<=b2)
  (hb0:b<=wr.heap.size) (hl:xs.length+m<=100000)
  (h0:Ps E w a' c') (hE:E.Fine) (hB:E.w0.heap.size<=w.heap.size) (hwb:w.heap.size<=b) (hP:Pt E w wr a c)
  (hK:∀A1 c1 w1,KR w1 b (.slice A1 (xs.length+ys.length) c1) (xs++ys)->Pt E w w1 a c->(∀q cs,q<b->Vb wr q cs->Vb w1 q cs)->wr.grownBy w1 v.ownBlock->K (act.put o.dst (.slice A1 (xs.length+ys.length) c1)) w1):
  if Region.wanted o (yielded ops act.tmps)=true then Oper.wp Tryz.prog o act wr K Q else K (act.put o.dst undef) wr:=by
 obtain⟨A',cp',he,hlc,hr⟩:=OwnRow.reads hy.2
 injection he with e1 e2 e3
 subst e1;refine Kd.R_append_rows_step (P:=Tryz.prog) nodeK (Rr:=nodeK.M wr b (fun j=>some j≠v.ownBlock)) (w0:=wr) b hw t p 25 27 (.agg #[.int .i64 0,.string ⟨#[]⟩,.float .f64 0,.int .i64 0,.bool false,.slice none 0 0,.slice none 0 0]) 96 ho Tryz.underlying25 info27 rfl (by decide) (by decide) v xs ys A m cp (fun _=>True) (fun j=>some j≠v.ownBlock) hs hp h
  ?_ (fun _ _ hk=>hk) (fun j hj=>⟨trivial,hj⟩) (fun j hj=>trivial) (bR _ _) hb0 (by omega) ?_
 ·rw[e2]
  exact hr.imp_ (bR _ _) (fun _ _ hk=>nodeK.M_lower hb (nodeK.M_mono (fun j hj=>hj.1) hk))
 ·intro v1 w1 hR _ hg _
  obtain⟨A1,c1,rfl⟩:=Kd.R_slice hR;rw[List.length_append] at hR|-;have hr:∀k,v.ownBlock=some k->b<=k:=fun k hk=>Kd.R_base h k hk
  exact hK A1 c1 w1 hR (hP.grown h0 hE hB hg (fun k hk=>Nat.le_trans hwb (hr k hk))) (fun q cs hq hV=>hV.grown hg hr hq) hg
theorem KR.younger'(h:KR wr b2 v ys){j:Nat}(hj:j<b2):nodeK.R 27 wr b2 (fun i=>some i≠(Value.slice (some ⟨j,0,none⟩) 1 1).ownBlock) v ys:=
 Kd.R_mono (Kd.R_bound h) (fun i hi e=>by
  have h2:=hi.2.1;have h3:i=j:=by simpa[Value.ownBlock] using e
  omega)
theorem KR.elder(h:KR wr b2 v ys)(o:Obj):nodeK.R 27 (wr.alloc o) b2 (fun i=>some i≠(Value.slice (some ⟨wr.heap.size,0,none⟩) 1 1).ownBlock) v ys:=
 Kd.R_alloc (Kd.R_mono (Kd.R_bound h) (fun i hi e=>by
  have h2:=hi.2.2.1;have h3:i=wr.heap.size:=by simpa[Value.ownBlock] using e
  omega)) o
end
end Go.Proofs.YtoimaaonloibfaaGreatDoor.Pa
namespace Go.Proofs.YtoimaaonloibfaaGreatDoor.Pa
open Go.RowKit W1 W2 PF Wf Lx
attribute [local go_sem] run_store_float fld49_0 fld49_1 fld49_3
def PxR(E:Env)(w wr:World)(n0 n1 b a:Nat)(c:Int)(a':Nat)(c':Int):Prop:=
 ∃(x:Nd) (An:Option Addr) (cn:Nat) (Ak:Option Addr) (ck:Nat),Ok (c'=0) .e x/\(c'=0->c=0/\x.wt+1<=3*(a'-a))/\Ou E w wr n0 n1 b a' c' x.k x.s x.x x.n x.b x.names x.kids (.slice An x.names.length cn) (.slice Ak x.kids.length ck)
theorem wt_mk(k:Int)(s:ByteArray)(x:Nat)(n:Int)(b:Bool)(ns:List ByteArray)(ks:List Nd):Nd.wt ⟨k,s,x,n,b,ns,ks⟩=1+ns.length+wts ks:=wt_eq _
def ndN(s:ByteArray):Nd:=⟨27,s,0,0,false,[],[]⟩
def nd2(k:Int)(x y:Nd):Nd:=⟨k,⟨#[]⟩,0,0,false,[],[x,y]⟩
def ndC(k:Int)(s:ByteArray)(x:Nd)(ys:List Nd):Nd:=⟨k,s,0,0,false,[],[x]++ys⟩
def nd1(k:Int)(x:Nd):Nd:=⟨k,⟨#[]⟩,0,0,false,[],[x]⟩
section
variable {E:Env} {w wr w1 w2:World} {a a' n0 n1 b q:Nat} {c c':Int}
theorem nd_eta(x:Nd):(⟨x.k,x.s,x.x,x.n,x.b,x.names,x.kids⟩:Nd)=x:=by cases x;rfl
theorem Ou.trx{x:Nd}{vn vk:Value}(h:Ou E w wr n0 n1 b a c x.k x.s x.x x.n x.b x.names x.kids vn vk):Tr wr b x vn vk:=Tr.mk h.nr h.kr
theorem PxR.mk{x:Nd}{An Ak:Option Addr}{cn ck m:Nat}(ox:Ok (c'=0) .e x)(gx:c'=0->c=0/\x.wt+1<=3*(a'-a))(hm:m=x.kids.length)(h:Ou E w wr n0 n1 b a' c' x.k x.s x.x x.n x.b x.names x.kids (.slice An x.names.length cn) (.slice Ak m ck)):PxR E w wr n0 n1 b a c a' c':=by
 subst hm;exact⟨x,An,cn,Ak,ck,ox,gx,h⟩
theorem PxR.below(h:PxR E w wr n0 n1 b a c a' c')(hb:Below wr.heap.size wr w1):PxR E w w1 n0 n1 b a c a' c':=by
 obtain⟨x,An,cn,Ak,ck,h1,h2,h3⟩:=h;exact⟨x,An,cn,Ak,ck,h1,h2,h3.below hb⟩
theorem PxR.p(h:PxR E w wr n0 n1 b a c a' c'):Pt E w wr a' c':=by
 obtain⟨x,An,cn,Ak,ck,h1,h2,h3⟩:=h;exact h3.p
theorem PxR.step(h:PxR E w wr n0 n1 b a c a' c'){a2:Nat}{c2:Int}(h2:Pt E wr w1 a2 c2)(hc:c2=0->c'=0)(hle:a'<=a2):PxR E w w1 n0 n1 b a c a2 c2:=by
 obtain⟨x,An,cn,Ak,ck,h1,h3,h4⟩:=h;exact⟨x,An,cn,Ak,ck,h1.mono hc,fun h0=>⟨(h3 (hc h0)).1,by have:=(h3 (hc h0)).2;omega⟩,h4.step h2⟩
set_option maxRecDepth 10000 in
set_option maxHeartbeats 8000000 in
theorem prefixed_any(hE:E.Fine)(IH:∀b,a<b->b<E.n->All E b)(ha:a<E.n):NC E 127 #[.pointer (some ⟨E.g,0,none⟩)] a .e 1 0 (fun _=>True):=by
 intro w c h hB;have HE:=aM hE;have HIH:=aM IH;have hpos:=hE.pos;have hlen:=hE.len;have HP:=aM h;have HB0:=aM hB.size;obtain⟨n0,hn0⟩:∃n0,w.heap.size=n0:=⟨_,rfl⟩;have HA:=aM ((Pt.start h hB).alloc (.cells #[.int .i64 0,.string ⟨#[]⟩,.float .f64 0,.int .i64 0,.bool false,.slice none 0 0,.slice none 0 0] 27));have V2:=aM (show Vb (w.alloc (.cells #[.int .i64 0,.string ⟨#[]⟩,.float .f64 0,.int .i64 0,.bool false,.slice none 0 0,.slice none 0 0] 27)) n0 #[.int .i64 0,.string ⟨#[]⟩,.float .f64 0,.int .i64 0,.bool false,.slice none 0 0,.slice none 0 0] by have:=Vb.new w #[.int .i64 0,.string ⟨#[]⟩,.float .f64 0,.int .i64 0,.bool false,.slice none 0 0,.slice none 0 0];rwa[hn0] at this);have HN0:=aM hn0;have e1:(w.alloc (.cells #[.int .i64 0,.string ⟨#[]⟩,.float .f64 0,.int .i64 0,.bool false,.slice none 0 0,.slice none 0 0] 27)).heap.size=n0+1:=by simp[hn0]
 have HE1:=aM e1;clear e1 hE IH h hB;go_enter Tryz.func127,Tryz.ntmps127
 go_wp2_with fail;generalize w.alloc _=wz at HA V2 HE1|-;refine(now_q HE.out HA.out.s ha).mono ?_;rintro e w1 ⟨rfl,hb⟩;obtain⟨n1,hn1⟩:∃n1,w1.heap.size=n1:=⟨_,rfl⟩;have hn01:n0<n1:=by have:=hb.size;have:=HE1.out;omega
 have H:=aM (show Ou E w (w1.alloc (.cells #[.int .i64 27,.string (E.tk a).s,.float .f64 0,.int .i64 0,.bool false,.slice none 0 0,.slice none 0 0] 27)) n0 n1 (n1+1) a c 27 (E.tk a).s 0 0 false [] [] (.slice none 0 0) (.slice none 0 0) from⟨(HA.out.below hb).alloc _,(V2.out.below hb).alloc _,by have:=Vb.new w1 #[.int .i64 27,.string (E.tk a).s,.float .f64 0,.int .i64 0,.bool false,.slice none 0 0,.slice none 0 0];rwa[hn1] at this,NR.nil _ _,KR.nil _ _⟩);clear hb HA V2 HE1;go_wp2_with fail;generalize w1.alloc _=w2 at H|-;clear hn1 hn0;refine(hasSign_any HE.out H.out.p.s H.out.p.B ha _).mono ?_;rintro e w3 ⟨b1,a1,rfl,hb1,p1,p2,hp⟩;replace H:=aM (H.out.step hp);clear hp hb1
 go_upto_if 10 with fail
 go_cut [] from 10 to 18 (fun wc=>∃(a':Nat) (c':Int),a<=a'/\a'<E.n/\Aside0 (a+1<E.n->a<a')/\Aside0 (PxR E w wc n0 n1 (n1+1) a c a' c'))
 case first=>
  cases b1 with
  |true=>
   obtain⟨rfl,hlt⟩:=p1 rfl;clear p1 p2;have HSZ:=aM (blk_lt H.out.v3);go_wp2_with fail;refine((HIH.out (a+1) (by omega) hlt).expression 0 (by decide) _ _ H.out.p.s H.out.p.B).mono ?_;rintro e w4 ⟨x,An,cn,Ak,ck,a2,c2,rfl,tx,ox,_,mx,hp⟩;replace H:=aM (H.out.step hp);have HK:=aM (KR.lit1 (tx.lower (b':=n1+1) HSZ.out) (blk_lt H.out.v3));have OX:=aM ox;have MX:=aM mx;clear tx ox mx hp;have HV:=aM (H.out.v3.alloc (.cells #[.int .i64 x.k,.string x.s,.float .f64 x.x,.int .i64 x.n,.bool x.b,(.slice An x.names.length cn),(.slice Ak x.kids.length ck)] 27));obtain⟨y0,y1,y2,y3,y4,y5,y6⟩:=bC7 HV.out;obtain⟨fy0,fy1,fy2,fy3,fy4,fy5,fy6⟩:=bF7 HV.out;go_wp2_with fail;have H3:=aM (Ou.assign (H.out.p.alloc (.cells #[.int .i64 x.k,.string x.s,.float .f64 x.x,.int .i64 x.n,.bool x.b,(.slice An x.names.length cn),(.slice Ak x.kids.length ck)] 27)) (H.out.v2.alloc _) (H.out.v3.alloc _) rfl (NR.nil _ _) HK.out HE.out HP.out HB0.out (by have:=HN0.out;omega) (by omega) (by omega) 33 ⟨#[]⟩ 0 0 false);generalize ((((((((w4.alloc (.cells #[.int .i64 x.k,.string x.s,.float .f64 x.x,.int .i64 x.n,.bool x.b,(.slice An x.names.length cn),(.slice Ak x.kids.length ck)] 27)).setCell ⟨n1,0,none⟩ (.int .i64 33)).setCell ⟨n1,1,none⟩ (.string ⟨#[]⟩)).setCell ⟨n1,2,none⟩ (.float .f64 0)).setCell ⟨n1,3,none⟩ (.int .i64 0)).setCell ⟨n1,4,none⟩ (.bool false)).setCell ⟨n1,5,none⟩ (.slice none 0 0)).setCell ⟨n1,6,none⟩ (.slice (some ⟨w4.heap.size,0,none⟩) 1 1))=w5 at H3|-;have hA:=MX.out.lt;have hle:=MX.out.le;clear H;refine(sign_any HE.out H3.out.p.s H3.out.p.B hA _).mono ?_;rintro e w6 ⟨a3,c3,rfl,q1,q2,q3,q4,h5⟩;have H:=aM (H3.out.step h5);have G:=aM q4;clear h5 q4 H3;go_wp2_with fail;go_meet
   case rel=>exact⟨a3,c3,by omega,q2,⟨fun _=>by omega⟩,⟨nd1 33 x,none,0,_,1,.un (.inr rfl) (fun _=>Tx.bare (by decide)) rfl (OX.out.mono (fun h0=>(G.out h0).1)),fun h0=>⟨(MX.out.good (G.out h0).1).1,by have:=(MX.out.good (G.out h0).1).2;simp[wt_mk,nd1,wts];omega⟩,H.out⟩⟩
  |false=>
   obtain rfl:=p2 rfl;clear p1 p2;go_wp2_with fail;refine(name_any HE.out H.out.p.s H.out.p.B ha).mono ?_;rintro e w4 ⟨s,a3,c3,rfl,_,q1,q2,q3,q4,h5⟩;replace H:=aM (H.out.step h5);have G:=aM q4;clear h5 q4;have HS:=aM (HE.out.size a1);go_wp2_with fail;go_meet
   case rel=>exact⟨a3,c3,q1,q2,⟨q3⟩,⟨ndN (E.tk a1).s,none,0,none,0,.atom (.inr (.inr (.inr (.inr (.inr (.inr rfl)))))) (fun h0=>⟨HS.out,fun h=>absurd h (by simp[ndN]),fun _=>by have:=(G.out h0).2.2;rw[<-this.1];exact this.2,fun h=>absurd h (by simp[ndN]),fun nm h=>by simp[ndN] at h⟩),fun h0=>⟨(G.out h0).1,by have:=(G.out h0).2.1;simp[wt_mk,ndN,wts];omega⟩,H.out⟩⟩
 clear H p1 p2;obtain⟨a2,c2,h1,h2,PR,H⟩:=hcut;go_wp2_with fail;go_loopg [] (E.n-a2) (fun k wr=>∃(a':Nat) (c':Int),k=E.n-a'/\a<=a'/\a'<E.n/\Aside0 (a+1<E.n->a<a')/\Aside0 (PxR E w wr n0 n1 (n1+1) a c a' c'))
 case atStart=>exact⟨a2,c2,rfl,h1,h2,PR,H⟩
 case round=>
  clear H PR h1 h2;obtain⟨a2,c2,hk,h1,h2,PR,H⟩:=hrel;go_wp2_with fail;refine(hasSign_any HE.out H.out.p.s H.out.p.B h2 _).mono ?_;rintro e w3 ⟨b1,a3,rfl,hb1,p1,p2,hp⟩
  cases b1 with
  |true=>
   obtain⟨rfl,hlt⟩:=p1 rfl;clear p1 p2;obtain⟨x,An,cn,Ak,ck,ox,gx,ho⟩:=H.out.step hp (fun h=>h) (by omega);have OX:=aM ox;have GX:=aM gx;have HO:=aM ho;clear H hp ox gx ho;obtain⟨y0,y1,y2,y3,y4,y5,y6⟩:=bC7 HO.out.v3;have H0:=aM HO.out.drew;have HN:=aM (name_any HE.out H0.out.p.s H0.out.p.B hlt);go_upto_region 8 with fail
   go_region_law (first|(go_simp;go_at_call 123;refine HN.out.mono ?_;rintro e w8 ⟨s,a4,c4,rfl,hs,q1,q2,q3,q4,hp⟩;have H2:=aM (H0.out.step hp);have r0:=bC H2.out.v3 0;have r1:=bC H2.out.v3 1;have r2:=bC H2.out.v3 2;have r3:=bC H2.out.v3 3;have r4:=bC H2.out.v3 4;have r5:=bC H2.out.v3 5;have r6:=bC H2.out.v3 6;have Q4:=aM q4;clear hp q4)|(go_simp;go_at_call 125;refine(index_any H2.out.trx (blk_lt H2.out.v3) s).mono ?_;rintro e w9 ⟨uk,rfl,ti,hb⟩;(obtain⟨A9,c9,rfl⟩:∃A cp,uk = .slice A 2 cp:=ti.rows.2.sl);have TI:=aM ti;have H3:=aM (H2.out.below hb);have r0:=bC H3.out.v3 0;have r1:=bC H3.out.v3 1;have r2:=bC H3.out.v3 2;have r3:=bC H3.out.v3 3;have r4:=bC H3.out.v3 4;have r5:=bC H3.out.v3 5;have r6:=bC H3.out.v3 6;have fr0:=bF H3.out.v3 0;have fr1:=bF H3.out.v3 1;have fr2:=bF H3.out.v3 2;have fr3:=bF H3.out.v3 3;have fr4:=bF H3.out.v3 4;have fr5:=bF H3.out.v3 5;have fr6:=bF H3.out.v3 6;clear ti hb))
   all_goals
    go_wp2
    go_roundg (E.n-a4)
    case measure=>omega
    case rel=>exact⟨a4,c4,rfl,by omega,q2,⟨fun _=>by omega⟩,⟨ndIx x s,none,0,A9,c9,.ix rfl (fun _=>Tx.bare (by decide)) rfl (OX.out.mono (fun h0=>(Q4.out h0).1)) (Ok.str hs),fun h0=>⟨(GX.out (Q4.out h0).1).1,by have:=(GX.out (Q4.out h0).1).2;have:=(Q4.out h0).2.1;simp[wt_mk,ndIx,ndS,wts];omega⟩,Ou.assign H3.out.p H3.out.v2 H3.out.v3 rfl (NR.nil _ _) TI.out.rows.2 HE.out HP.out HB0.out (by have:=HN0.out;omega) (by omega) (by omega) 28 ⟨#[]⟩ 0 0 false⟩⟩
  |false=>
   obtain rfl:=p2 rfl;have H:=aM (H.out.step hp (fun h=>h) (Nat.le_refl _));clear p1 p2 hp hb1;go_wp2_with fail;refine(hasSign_any HE.out H.out.p.s H.out.p.B h2 _).mono ?_;rintro e w4 ⟨b1,a4,rfl,hb1,p1,p2,hp⟩
   cases b1 with
   |true=>
    obtain⟨rfl,hlt⟩:=p1 rfl;clear p1 p2;obtain⟨x,An,cn,Ak,ck,ox,gx,ho⟩:=H.out.step hp (fun h=>h) (by omega);have OX:=aM ox;have GX:=aM gx;have HO:=aM ho;clear H hp ox gx ho;obtain⟨y0,y1,y2,y3,y4,y5,y6⟩:=bC7 HO.out.v3;have H0:=aM HO.out.drew;have HN:=aM ((HIH.out (a3+1) (by omega) hlt).expression 0 (by decide) _ _ H0.out.p.s H0.out.p.B);have HSZ:=aM (blk_lt H0.out.v3);go_upto_region 10 with fail
    go_cut [] from 30 to 34 (fun wc=>∃(a4:Nat) (c4:Int),a3<a4/\a4<E.n/\Aside0 (PxR E w wc n0 n1 (n1+1) a c a4 c4))
    case first=>
     go_region_law (go_simp;go_at_call 94;refine HN.out.mono ?_;rintro e w8 ⟨z,Zn,zn,Zk,zk,a4,c4,rfl,tz,oz,_,mz,hp⟩;have H2:=aM (H0.out.step hp);have r0:=bC H2.out.v3 0;have r1:=bC H2.out.v3 1;have r2:=bC H2.out.v3 2;have r3:=bC H2.out.v3 3;have r4:=bC H2.out.v3 4;have r5:=bC H2.out.v3 5;have r6:=bC H2.out.v3 6;have OZ:=aM oz;have MZ:=aM mz;have H3:=aM (H2.out.alloc (.cells #[.int .i64 x.k,.string x.s,.float .f64 x.x,.int .i64 x.n,.bool x.b,(.slice An x.names.length cn),(.slice Ak x.kids.length ck),.int .i64 z.k,.string z.s,.float .f64 z.x,.int .i64 z.n,.bool z.b,(.slice Zn z.names.length zn),(.slice Zk z.kids.length zk)] 27));have KY:=aM (KR.lit2 H2.out.trx (tz.lower (b':=n1+1) HSZ.out) (blk_lt H2.out.v3));have rr0:=bC H3.out.v3 0;have rr1:=bC H3.out.v3 1;have rr2:=bC H3.out.v3 2;have rr3:=bC H3.out.v3 3;have rr4:=bC H3.out.v3 4;have rr5:=bC H3.out.v3 5;have rr6:=bC H3.out.v3 6;have fr0:=bF H3.out.v3 0;have fr1:=bF H3.out.v3 1;have fr2:=bF H3.out.v3 2;have fr3:=bF H3.out.v3 3;have fr4:=bF H3.out.v3 4;have fr5:=bF H3.out.v3 5;have fr6:=bF H3.out.v3 6;clear hp oz mz tz)
     all_goals
      go_wp2
      go_meet
      case rel=>exact⟨a4,c4,by have:=MZ.out.le;omega,MZ.out.lt,⟨nd2 28 x z,none,0,_,2,.ix rfl (fun _=>Tx.bare (by decide)) rfl (OX.out.mono (fun h0=>(MZ.out.good h0).1)) OZ.out,fun h0=>⟨(GX.out (MZ.out.good h0).1).1,by have:=(GX.out (MZ.out.good h0).1).2;have:=(MZ.out.good h0).2;have:=MZ.out.le;simp[wt_mk,nd2,wts];omega⟩,Ou.assign H3.out.p H3.out.v2 H3.out.v3 rfl (NR.nil _ _) KY.out HE.out HP.out HB0.out (by have:=HN0.out;omega) (by omega) (by omega) 28 ⟨#[]⟩ 0 0 false⟩⟩
    clear HO H0 HN OX GX HSZ y0 y1 y2 y3 y4 y5 y6;obtain⟨a4,c4,q1,q2,H⟩:=hcut;go_wp2_with fail;refine(sign_any HE.out H.out.p.s H.out.p.B q2 _).mono ?_;rintro e w6 ⟨a5,c5,rfl,r1,r2,r3,r4,hp⟩;replace H:=aM (H.out.step hp (fun h0=>(r4 h0).1) r1);clear hp r4 r3;go_wp2_with fail;go_roundg (E.n-a5)
    case measure=>omega
    case rel=>exact⟨a5,c5,rfl,by omega,r2,⟨fun _=>by omega⟩,H⟩
   |false=>
    obtain rfl:=p2 rfl;replace H:=aM (H.out.step hp (fun h=>h) (Nat.le_refl _));clear p1 p2 hp hb1;go_wp2_with fail;refine(hasSign_any HE.out H.out.p.s H.out.p.B h2 _).mono ?_;rintro e w5 ⟨b1,a5,rfl,hb1,p1,p2,hp⟩
    cases b1 with
    |true=>
     obtain⟨rfl,hlt⟩:=p1 rfl;clear p1 p2;replace H:=aM (H.out.step hp (fun h=>h) (Nat.le_succ _));clear hp hb1;go_wp2_with fail;refine(name_any HE.out H.out.p.s H.out.p.B hlt).mono ?_;rintro e w6 ⟨s,a5,c5,rfl,hs,r1,r2,r3,r4,hp⟩;obtain⟨x,An,cn,Ak,ck,ox,gx,ho⟩:=H.out.step hp (fun h0=>(r4 h0).1) r1;have OX:=aM ox;have GX:=aM gx;have HO:=aM ho;have R4:=aM r4;clear H hp ox gx ho r4 r3;obtain⟨y0,y1,y2,y3,y4,y5,y6⟩:=bC7 HO.out.v3;have H0:=aM HO.out.drew;have HN:=aM ((HIH.out a5 (by omega) r2).arguments (by omega));have HX:=aM (H0.out.alloc (.cells #[.int .i64 x.k,.string x.s,.float .f64 x.x,.int .i64 x.n,.bool x.b,(.slice An x.names.length cn),(.slice Ak x.kids.length ck)] 27));have KX0:=aM (KR.lit1 H0.out.trx (blk_lt H0.out.v3));have HSZ:=aM (blk_lt HO.out.v3);obtain⟨ya0,ya1,ya2,ya3,ya4,ya5,ya6⟩:=bC7 (HX.out.v3);go_upto_region 14 with fail
     go_region_law (first|(refine KR.cat_stepd (by rfl) (.tmp 44) (.tmp 46) (by rfl) (by rfl) KXA.out (by rfl) HYA.out (by(have:=HSZ.out);simp;omega) (blk_lt H2.out.v3) (by simp;omega) HP.out HE.out HB0.out (by have:=HN0.out;omega) H2.out.p ?_;intro A9 c9 w9 k9 p9 v9 g9;have K9:=aM k9;have P9:=aM p9;have U9:=aM (v9 _ _ (by omega) H2.out.v2);have V9:=aM (v9 _ _ (by omega) H2.out.v3);have rr0:=bC V9.out 0;have rr1:=bC V9.out 1;have rr2:=bC V9.out 2;have rr3:=bC V9.out 3;have rr4:=bC V9.out 4;have rr5:=bC V9.out 5;have rr6:=bC V9.out 6;have fr0:=bF V9.out 0;have fr1:=bF V9.out 1;have fr2:=bF V9.out 2;have fr3:=bF V9.out 3;have fr4:=bF V9.out 4;have fr5:=bF V9.out 5;have fr6:=bF V9.out 6;clear k9 p9 v9 g9)|(refine KR.cat_stepd (by rfl) (.tmp 44) (.tmp 46) (by rfl) (by rfl) KXB.out (by rfl) HYB.out (by(have:=HSZ.out);simp;omega) (blk_lt H3.out.v3) (by simp;omega) HP.out HE.out HB0.out (by have:=HN0.out;omega) H3.out.p ?_;intro A9 c9 w9 k9 p9 v9 g9;have K9:=aM k9;have P9:=aM p9;have U9:=aM (v9 _ _ (by omega) H3.out.v2);have V9:=aM (v9 _ _ (by omega) H3.out.v3);have rr0:=bC V9.out 0;have rr1:=bC V9.out 1;have rr2:=bC V9.out 2;have rr3:=bC V9.out 3;have rr4:=bC V9.out 4;have rr5:=bC V9.out 5;have rr6:=bC V9.out 6;have fr0:=bF V9.out 0;have fr1:=bF V9.out 1;have fr2:=bF V9.out 2;have fr3:=bF V9.out 3;have fr4:=bF V9.out 4;have fr5:=bF V9.out 5;have fr6:=bF V9.out 6;clear k9 p9 v9 g9)|(go_simp;go_at_call 148;refine(HN.out _ _ HX.out.p.s HX.out.p.B).mono ?_;rintro e w8 ⟨ys,Ay,cy,a6,c6,rfl,ky,oy,ly,my,hp⟩;have H2:=aM (HX.out.step hp);have KXA:=aM (KX0.out.keep HX.out.p.s hp);have HYA:=aM (ky.younger' (j:=w6.drew.heap.size) (by simp));have r0:=bC H2.out.v3 0;have r1:=bC H2.out.v3 1;have r2:=bC H2.out.v3 2;have r3:=bC H2.out.v3 3;have r4:=bC H2.out.v3 4;have r5:=bC H2.out.v3 5;have r6:=bC H2.out.v3 6;have OY:=aM oy;have MY:=aM my;clear hp ky oy my)|(go_simp;go_at_call 148;refine(HN.out _ _ H0.out.p.s H0.out.p.B).mono ?_;rintro e w8 ⟨ys,Ay,cy,a6,c6,rfl,ky,oy,ly,my,hp⟩;have H2:=aM (H0.out.step hp);have KXB:=aM (KR.lit1 H2.out.trx (blk_lt H2.out.v3));have HYB:=aM (ky.elder (.cells #[.int .i64 x.k,.string x.s,.float .f64 x.x,.int .i64 x.n,.bool x.b,(.slice An x.names.length cn),(.slice Ak x.kids.length ck)] 27));have H3:=aM (H2.out.alloc (.cells #[.int .i64 x.k,.string x.s,.float .f64 x.x,.int .i64 x.n,.bool x.b,(.slice An x.names.length cn),(.slice Ak x.kids.length ck)] 27));have r0:=bC H2.out.v3 0;have r1:=bC H2.out.v3 1;have r2:=bC H2.out.v3 2;have r3:=bC H2.out.v3 3;have r4:=bC H2.out.v3 4;have r5:=bC H2.out.v3 5;have r6:=bC H2.out.v3 6;have OY:=aM oy;have MY:=aM my;clear hp ky oy my))
     all_goals
      go_wp2
      go_roundg (E.n-a6)
      case measure=>have:=MY.out.le;omega
      case rel=>exact⟨a6,c6,rfl,by have:=MY.out.le;omega,MY.out.lt,⟨fun _=>by have:=MY.out.le;omega⟩,⟨PxR.mk (x:=ndC 30 s x ys) (.call (.inr rfl) (fun h0=>⟨hs,fun h=>absurd h (by simp[ndC]),fun _=>(R4.out (MY.out.good h0).1).2.2.2,fun h=>absurd h (by simp[ndC]),fun nm h=>by simp[ndC] at h⟩) rfl (OX.out.mono (fun h0=>(MY.out.good h0).1)) OY.out) (fun h0=>⟨(GX.out (MY.out.good h0).1).1,by have:=(GX.out (MY.out.good h0).1).2;have:=(MY.out.good h0).2;have:=MY.out.le;simp[wt_mk,ndC,wts];omega⟩) (by simp[ndC];omega) (Ou.assign P9.out U9.out V9.out rfl (NR.nil _ _) K9.out HE.out HP.out HB0.out (by have:=HN0.out;omega) (by omega) (by omega) 30 s 0 0 false)⟩⟩
    |false=>
     obtain rfl:=p2 rfl;replace H:=aM (H.out.step hp (fun h=>h) (Nat.le_refl _));clear p1 p2 hp hb1;go_upto_region 15 with fail
     go_cut [49] from 49 to 61 (fun v wc=>∃b:Bool,v = .bool b/\Aside0 (b=true->(E.tk a5).k≠6)/\Aside0 (PxR E w wc n0 n1 (n1+1) a c a5 c2))
     case first=>
      go_wp2_with fail;refine(isSign_q HE.out H.out.p.s h2 _).mono ?_;rintro e w6 ⟨rfl,hb⟩;replace H:=aM (H.out.below hb);clear hb;obtain⟨b1,hb1⟩:∃b,E.isS a5 ⟨#[40]⟩=b:=⟨_,rfl⟩;rw[hb1];have HB1:=aM hb1;clear hb1
      cases b1 with
      |true=>
       go_wp2_with fail;go_meet
       case rel=>exact⟨_,rfl,⟨fun _=>by rw[isS_k HB1.out];decide⟩,H⟩
      |false=>
       go_wp2_with fail;refine(isSign_q HE.out H.out.p.s h2 _).mono ?_;rintro e w7 ⟨rfl,hb⟩;replace H:=aM (H.out.below hb);clear hb;obtain⟨b2,hb2⟩:∃b,E.isS a5 ⟨#[123]⟩=b:=⟨_,rfl⟩;rw[hb2];have HB2:=aM hb2;clear hb2
       cases b2 with
       |true=>
        go_wp2_with fail;go_meet
        case rel=>exact⟨_,rfl,⟨fun _=>by rw[isS_k HB2.out];decide⟩,H⟩
       |false=>
        go_wp2_with fail;refine(now_q HE.out H.out.p.s h2).mono ?_;rintro e w8 ⟨rfl,hb⟩;replace H:=aM (H.out.below hb);clear hb;obtain⟨b3,hb3⟩:∃b,((E.tk a5).k==5)=b:=⟨_,rfl⟩;have HB3:=aM hb3;go_wp2_with fail;go_meet
        case rel=>exact⟨b3,rfl,⟨fun h=>by have:=HB3.out;rw[h] at this;rw[eq_of_beq this];decide⟩,H⟩
     clear H;obtain⟨b49,rfl,K6,H⟩:=hcut
     cases b49 with
     |true=>
      have hk6:(E.tk a5).k≠6:=by first|exact K6.out rfl|exact K6.out trivial
      have hlt:=Env.not_end HE.out h2 hk6;have hmid:a<a5:=PR.out (by omega);clear K6 hk6;obtain⟨x,An,cn,Ak,ck,ox,gx,ho⟩:=H.out;have OX:=aM ox;have GX:=aM gx;have HO:=aM ho;clear H ox gx ho;obtain⟨y0,y1,y2,y3,y4,y5,y6⟩:=bC7 HO.out.v3;have H0:=aM HO.out.drew;have HN:=aM ((HIH.out a5 hmid h2).arguments (by omega));have HX:=aM (H0.out.alloc (.cells #[.int .i64 x.k,.string x.s,.float .f64 x.x,.int .i64 x.n,.bool x.b,(.slice An x.names.length cn),(.slice Ak x.kids.length ck)] 27));have KX0:=aM (KR.lit1 H0.out.trx (blk_lt H0.out.v3));have HSZ:=aM (blk_lt HO.out.v3);obtain⟨ya0,ya1,ya2,ya3,ya4,ya5,ya6⟩:=bC7 (HX.out.v3);go_upto_region 16 with fail
      go_region_law (first|(refine KR.cat_stepd (by rfl) (.tmp 63) (.tmp 65) (by rfl) (by rfl) KXA.out (by rfl) HYA.out (by(have:=HSZ.out);simp;omega) (blk_lt H2.out.v3) (by simp;omega) HP.out HE.out HB0.out (by have:=HN0.out;omega) H2.out.p ?_;intro A9 c9 w9 k9 p9 v9 g9;have K9:=aM k9;have P9:=aM p9;have U9:=aM (v9 _ _ (by omega) H2.out.v2);have V9:=aM (v9 _ _ (by omega) H2.out.v3);have rr0:=bC V9.out 0;have rr1:=bC V9.out 1;have rr2:=bC V9.out 2;have rr3:=bC V9.out 3;have rr4:=bC V9.out 4;have rr5:=bC V9.out 5;have rr6:=bC V9.out 6;have fr0:=bF V9.out 0;have fr1:=bF V9.out 1;have fr2:=bF V9.out 2;have fr3:=bF V9.out 3;have fr4:=bF V9.out 4;have fr5:=bF V9.out 5;have fr6:=bF V9.out 6;clear k9 p9 v9 g9)|(refine KR.cat_stepd (by rfl) (.tmp 63) (.tmp 65) (by rfl) (by rfl) KXB.out (by rfl) HYB.out (by(have:=HSZ.out);simp;omega) (blk_lt H3.out.v3) (by simp;omega) HP.out HE.out HB0.out (by have:=HN0.out;omega) H3.out.p ?_;intro A9 c9 w9 k9 p9 v9 g9;have K9:=aM k9;have P9:=aM p9;have U9:=aM (v9 _ _ (by omega) H3.out.v2);have V9:=aM (v9 _ _ (by omega) H3.out.v3);have rr0:=bC V9.out 0;have rr1:=bC V9.out 1;have rr2:=bC V9.out 2;have rr3:=bC V9.out 3;have rr4:=bC V9.out 4;have rr5:=bC V9.out 5;have rr6:=bC V9.out 6;have fr0:=bF V9.out 0;have fr1:=bF V9.out 1;have fr2:=bF V9.out 2;have fr3:=bF V9.out 3;have fr4:=bF V9.out 4;have fr5:=bF V9.out 5;have fr6:=bF V9.out 6;clear k9 p9 v9 g9)|(go_simp;go_at_call 148;refine(HN.out _ _ HX.out.p.s HX.out.p.B).mono ?_;rintro e w8 ⟨ys,Ay,cy,a6,c6,rfl,ky,oy,ly,my,hp⟩;have H2:=aM (HX.out.step hp);have KXA:=aM (KX0.out.keep HX.out.p.s hp);have HYA:=aM (ky.younger' (j:=wc.drew.heap.size) (by simp));have r0:=bC H2.out.v3 0;have r1:=bC H2.out.v3 1;have r2:=bC H2.out.v3 2;have r3:=bC H2.out.v3 3;have r4:=bC H2.out.v3 4;have r5:=bC H2.out.v3 5;have r6:=bC H2.out.v3 6;have OY:=aM oy;have MY:=aM my;clear hp ky oy my)|(go_simp;go_at_call 148;refine(HN.out _ _ H0.out.p.s H0.out.p.B).mono ?_;rintro e w8 ⟨ys,Ay,cy,a6,c6,rfl,ky,oy,ly,my,hp⟩;have H2:=aM (H0.out.step hp);have KXB:=aM (KR.lit1 H2.out.trx (blk_lt H2.out.v3));have HYB:=aM (ky.elder (.cells #[.int .i64 x.k,.string x.s,.float .f64 x.x,.int .i64 x.n,.bool x.b,(.slice An x.names.length cn),(.slice Ak x.kids.length ck)] 27));have H3:=aM (H2.out.alloc (.cells #[.int .i64 x.k,.string x.s,.float .f64 x.x,.int .i64 x.n,.bool x.b,(.slice An x.names.length cn),(.slice Ak x.kids.length ck)] 27));have r0:=bC H2.out.v3 0;have r1:=bC H2.out.v3 1;have r2:=bC H2.out.v3 2;have r3:=bC H2.out.v3 3;have r4:=bC H2.out.v3 4;have r5:=bC H2.out.v3 5;have r6:=bC H2.out.v3 6;have OY:=aM oy;have MY:=aM my;clear hp ky oy my))
      all_goals
       go_wp2
       go_roundg (E.n-a6)
       case measure=>have:=MY.out.le;have:=MY.out.pr rfl hlt;omega
       case rel=>exact⟨a6,c6,rfl,by have:=MY.out.le;omega,MY.out.lt,⟨fun _=>by have:=MY.out.le;omega⟩,⟨PxR.mk (x:=ndC 29 ⟨#[]⟩ x ys) (.call (.inl rfl) (fun h0=>Tx.bare (by decide)) rfl (OX.out.mono (fun h0=>(MY.out.good h0).1)) OY.out) (fun h0=>⟨(GX.out (MY.out.good h0).1).1,by have:=(GX.out (MY.out.good h0).1).2;have:=(MY.out.good h0).2;have:=MY.out.le;simp[wt_mk,ndC,wts];omega⟩) (by simp[ndC];omega) (Ou.assign P9.out U9.out V9.out rfl (NR.nil _ _) K9.out HE.out HP.out HB0.out (by have:=HN0.out;omega) (by omega) (by omega) 29 ⟨#[]⟩ 0 0 false)⟩⟩
     |false=>
      obtain⟨x,An,cn,Ak,ck,ox,gx,ho⟩:=H.out;have OX:=aM ox;have GX:=aM gx;have HO:=aM ho;clear H ox gx ho;obtain⟨y0,y1,y2,y3,y4,y5,y6⟩:=bC7 HO.out.v3;obtain⟨z0,z1,z2,z3,z4,z5,z6⟩:=bC7 HO.out.v2;obtain⟨fz0,fz1,fz2,fz3,fz4,fz5,fz6⟩:=bF7 HO.out.v2;go_wp2_with fail;have HF:=aM (HO.out.fin HE.out HP.out HB0.out HN0.out (by omega));generalize (((((((wc.setCell ⟨n0,0,none⟩ (.int .i64 x.k)).setCell ⟨n0,1,none⟩ (.string x.s)).setCell ⟨n0,2,none⟩ (.float .f64 x.x)).setCell ⟨n0,3,none⟩ (.int .i64 x.n)).setCell ⟨n0,4,none⟩ (.bool x.b)).setCell ⟨n0,5,none⟩ (.slice An x.names.length cn)).setCell ⟨n0,6,none⟩ (.slice Ak x.kids.length ck))=WF at HF|-;obtain⟨qq0,qq1,qq2,qq3,qq4,qq5,qq6⟩:=bC7 HF.out.2.2;refine bodyPost_ret (v:= .agg #[.int .i64 x.k,.string x.s,.float .f64 x.x,.int .i64 x.n,.bool x.b,.slice An x.names.length cn,.slice Ak x.kids.length ck]) (by simp[results,Tryz.results127,go_sem,qq0,qq1,qq2,qq3,qq4,qq5,qq6]) rfl ?_;exact⟨x,An,cn,Ak,ck,a5,c2,rfl,(nd_eta x)▸HF.out.2.1,OX.out,trivial,⟨h1,h2,fun _ h=>PR.out h,fun h0=>GX.out h0⟩,HF.out.1⟩
end
end Go.Proofs.YtoimaaonloibfaaGreatDoor.Pa
namespace Go.Proofs.YtoimaaonloibfaaGreatDoor.Lx
open Go.RowKit W1 W2 PF
set_option maxRecDepth 10000 in
set_option maxHeartbeats 4000000 in
theorem power_q(s:ByteArray)(w:World):Calls Tryz.prog 122 #[.string s] w fun e w'=>∃l r:Int,e = .returned (.tuple #[.int .i64 l,.int .i64 r])/\0<=l/\0<=r/\(s=⟨#[]⟩->l=0)/\Drawn0 w w':=by
 go_enter Tryz.func122,Tryz.ntmps122
 by_cases hs:s=⟨#[]⟩
 ·subst hs
  have e:(⟨#[]⟩:ByteArray).toList=[]:=by simp[ByteArray.toList_eq]
  go_wp2_with fail
  go_ret2
  exact⟨0,0,rfl,by decide,by decide,by simp,Drawn0.refl _⟩
 have HS:=aM hs;clear hs;go_wp2_with fail
 all_goals(go_ret2;exact⟨_,_,rfl,by decide,by decide,fun h=>absurd h HS.out,Drawn0.refl _⟩)
end Go.Proofs.YtoimaaonloibfaaGreatDoor.Lx
namespace Go.Proofs.YtoimaaonloibfaaGreatDoor.Pa
open Go.RowKit W1 W2 PF Wf Lx
attribute [local go_sem] run_store_float fld49_0 fld49_1 fld49_3
def ndU(s:ByteArray)(x:Nd):Nd:=⟨32,s,0,0,false,[],[x]⟩
def ndB(s:ByteArray)(x y:Nd):Nd:=⟨31,s,0,0,false,[],[x,y]⟩
section
variable {E:Env} {w wr w1 w2:World} {a a' n0 n1 b q:Nat} {c c':Int}
theorem op_text(hE:E.Fine)(hlt:a+1<E.n)(hk:(E.tk a).k=3\/(E.tk a).k=2):bytesOf (E.tk a).s∈wordsL\/bytesOf (E.tk a).s∈signsL:=by
 rcases hE.wt a hlt with⟨h,_⟩|⟨_,h⟩|⟨_,h⟩|⟨h,_⟩|h
 ·omega
 ·exact .inl h
 ·exact .inr h
 ·omega
 ·omega
theorem op_not_end(hk:(E.tk a).k=3\/(E.tk a).k=2):(E.tk a).k≠6:=by omega
theorem PxR.of{x:Nd}{An Ak:Option Addr}{cn ck:Nat}(hp:Pt E w wr a' c')(hv2:Vb wr n0 #[.int .i64 0,.string ⟨#[]⟩,.float .f64 0,.int .i64 0,.bool false,.slice none 0 0,.slice none 0 0]){cs:Array Value}(hv3:Vb wr n1 cs)(hcs:cs.size=7)(hT:Tr wr b x (.slice An x.names.length cn) (.slice Ak x.kids.length ck))
  (hE:E.Fine) {a0:Nat} {c0:Int} (h0:Ps E w a0 c0) (hB:E.w0.heap.size<=w.heap.size) (hwn:w.heap.size<=n1) (hn1:n1<b) (hne:n0≠n1) (ox:Ok (c'=0) .e x) (gx:c'=0->c=0/\x.wt+1<=3*(a'-a)):
  PxR E w (((((((wr.setCell ⟨n1,0,none⟩ (.int .i64 x.k)).setCell ⟨n1,1,none⟩ (.string x.s)).setCell ⟨n1,2,none⟩ (.float .f64 x.x)).setCell ⟨n1,3,none⟩ (.int .i64 x.n)).setCell ⟨n1,4,none⟩ (.bool x.b)).setCell ⟨n1,5,none⟩ (.slice An x.names.length cn)).setCell ⟨n1,6,none⟩ (.slice Ak x.kids.length ck)) n0 n1 b a c a' c':=
 ⟨x,An,cn,Ak,ck,ox,gx,Ou.assign hp hv2 hv3 hcs hT.rows.1 hT.rows.2 hE h0 hB hwn hn1 hne x.k x.s x.x x.n x.b⟩
set_option maxRecDepth 10000 in
set_option maxHeartbeats 8000000 in
theorem expression_any(hE:E.Fine)(IH:∀b,a<b->b<E.n->All E b)(ha:a<E.n)(hS:NC E 121 #[.pointer (some ⟨E.g,0,none⟩)] a .e 1 0 (fun _=>True))(l:Int)(hl:0<=l):NC E 94 #[.pointer (some ⟨E.g,0,none⟩),.int .i64 l] a .e 1 0 (fun _=>True):=by
 intro w c h hB;have HE:=aM hE;have HIH:=aM IH;have HS:=aM hS;have hpos:=hE.pos;have hlen:=hE.len;have HP:=aM h;have HB0:=aM hB.size;obtain⟨n0,hn0⟩:∃n0,w.heap.size=n0:=⟨_,rfl⟩;have e1:(w.alloc (.cells #[.int .i64 0,.string ⟨#[]⟩,.float .f64 0,.int .i64 0,.bool false,.slice none 0 0,.slice none 0 0] 27)).heap.size=n0+1:=by simp[hn0]
 have HV2:=aM (show Vb ((w.alloc (.cells #[.int .i64 0,.string ⟨#[]⟩,.float .f64 0,.int .i64 0,.bool false,.slice none 0 0,.slice none 0 0] 27)).alloc (.cells #[.int .i64 0,.string ⟨#[]⟩,.float .f64 0,.int .i64 0,.bool false,.slice none 0 0,.slice none 0 0] 27)) n0 #[.int .i64 0,.string ⟨#[]⟩,.float .f64 0,.int .i64 0,.bool false,.slice none 0 0,.slice none 0 0] by have:=(Vb.new w #[.int .i64 0,.string ⟨#[]⟩,.float .f64 0,.int .i64 0,.bool false,.slice none 0 0,.slice none 0 0]).alloc (.cells #[.int .i64 0,.string ⟨#[]⟩,.float .f64 0,.int .i64 0,.bool false,.slice none 0 0,.slice none 0 0] 27);rwa[hn0] at this);have HV3:=aM (show Vb ((w.alloc (.cells #[.int .i64 0,.string ⟨#[]⟩,.float .f64 0,.int .i64 0,.bool false,.slice none 0 0,.slice none 0 0] 27)).alloc (.cells #[.int .i64 0,.string ⟨#[]⟩,.float .f64 0,.int .i64 0,.bool false,.slice none 0 0,.slice none 0 0] 27)) (n0+1) #[.int .i64 0,.string ⟨#[]⟩,.float .f64 0,.int .i64 0,.bool false,.slice none 0 0,.slice none 0 0] by have:=Vb.new (w.alloc (.cells #[.int .i64 0,.string ⟨#[]⟩,.float .f64 0,.int .i64 0,.bool false,.slice none 0 0,.slice none 0 0] 27)) #[.int .i64 0,.string ⟨#[]⟩,.float .f64 0,.int .i64 0,.bool false,.slice none 0 0,.slice none 0 0];rwa[e1] at this);have H:=aM (((Pt.start h hB).alloc (.cells #[.int .i64 0,.string ⟨#[]⟩,.float .f64 0,.int .i64 0,.bool false,.slice none 0 0,.slice none 0 0] 27)).alloc (.cells #[.int .i64 0,.string ⟨#[]⟩,.float .f64 0,.int .i64 0,.bool false,.slice none 0 0,.slice none 0 0] 27));have HN0:=aM hn0;clear hE IH h hB e1 hS;go_enter Tryz.func94,Tryz.ntmps94
 go_wp2_with fail;generalize ((w.alloc (.cells #[.int .i64 0,.string ⟨#[]⟩,.float .f64 0,.int .i64 0,.bool false,.slice none 0 0,.slice none 0 0] 27)).alloc (.cells #[.int .i64 0,.string ⟨#[]⟩,.float .f64 0,.int .i64 0,.bool false,.slice none 0 0,.slice none 0 0] 27))=wz at H HV2 HV3|-;clear hn0;obtain⟨n1,hn1⟩:∃n1,n0+1=n1:=⟨_,rfl⟩;rw[hn1] at HV3|-;refine(operator_q HE.out H.out.s ha).mono ?_;rintro e w1 ⟨s,rfl,hs,hb⟩;replace H:=aM (H.out.below hb);replace HV2:=aM (HV2.out.below hb);replace HV3:=aM (HV3.out.below hb);have HSS:=aM hs;clear hb hs
 go_upto_block 0 with fail
 go_cut [] from 16 to 26 (fun wc=>∃(a':Nat) (c':Int),a<=a'/\a'<E.n/\Aside0 (a+1<E.n->a<a')/\Aside0 (PxR E w wc n0 n1 (n1+1) a c a' c'))
 case first=>
  by_cases hse:s=⟨#[]⟩
  ·subst hse
   have HSZ:=aM (blk_lt HV3.out);go_wp2_with fail;refine(HS.out _ _ H.out.s H.out.B).mono ?_;rintro e w4 ⟨x,An,cn,Ak,ck,a2,c2,rfl,tx,ox,_,mx,hp⟩;replace HV2:=aM (HV2.out.keep H.out.s hp);replace HV3:=aM (HV3.out.keep H.out.s hp);replace H:=aM (H.out.step hp);have TX:=aM (tx.lower (b':=n1+1) HSZ.out);have OX:=aM ox;have MX:=aM mx;clear tx ox mx hp;obtain⟨y0,y1,y2,y3,y4,y5,y6⟩:=bC7 HV3.out;obtain⟨fy0,fy1,fy2,fy3,fy4,fy5,fy6⟩:=bF7 HV3.out;go_wp2_with fail;go_meet
   case rel=>exact⟨a2,c2,MX.out.le,MX.out.lt,⟨MX.out.pr rfl⟩,⟨PxR.of H.out HV2.out HV3.out rfl TX.out HE.out HP.out HB0.out (by have:=HN0.out;omega) (by omega) (by omega) OX.out MX.out.good⟩⟩
  ·obtain⟨b1,hb1⟩:∃b:Bool,(s.toList==([110,111,116]:List UInt8))=b:=⟨_,rfl⟩
   obtain⟨b2,hb2⟩:∃b:Bool,(s.toList==([45]:List UInt8))=b:=⟨_,rfl⟩;obtain⟨b3,hb3⟩:∃b:Bool,(s.toList==([35]:List UInt8))=b:=⟨_,rfl⟩;have HSE:=aM hse;clear hse
   cases b1 with
   |true=>
    have hne:s≠⟨#[]⟩:=HSE.out;have hkk:((E.tk a).k=3\/(E.tk a).k=2)/\s=(E.tk a).s:=HSS.out.resolve_left hne;have HKK:=aM hkk;have hlt:=Env.not_end HE.out ha (op_not_end hkk.1);clear hkk hne;go_wp2_with fail;refine(take_any HE.out H.out.s H.out.B ha).mono ?_;rw[if_neg (op_not_end HKK.out.1)];rintro e w2 ⟨rfl,h2⟩;replace HV2:=aM (HV2.out.keep H.out.s h2);replace HV3:=aM (HV3.out.keep H.out.s h2);replace H:=aM (H.out.step h2);clear h2;have HSZ:=aM (blk_lt HV3.out);go_wp2_with fail;refine((HIH.out (a+1) (by omega) hlt).expression 8 (by decide) _ _ H.out.s H.out.B).mono ?_;rintro e w4 ⟨x,An,cn,Ak,ck,a2,c2,rfl,tx,ox,_,mx,hp⟩;replace HV2:=aM (HV2.out.keep H.out.s hp);replace HV3:=aM (HV3.out.keep H.out.s hp);replace H:=aM (H.out.step hp);have HK:=aM (KR.lit1 (tx.lower (b':=n1+1) HSZ.out) (blk_lt HV3.out));have OX:=aM ox;have MX:=aM mx;clear tx ox mx hp;have HV:=aM (HV3.out.alloc (.cells #[.int .i64 x.k,.string x.s,.float .f64 x.x,.int .i64 x.n,.bool x.b,(.slice An x.names.length cn),(.slice Ak x.kids.length ck)] 27));obtain⟨y0,y1,y2,y3,y4,y5,y6⟩:=bC7 HV.out;obtain⟨fy0,fy1,fy2,fy3,fy4,fy5,fy6⟩:=bF7 HV.out;go_wp2_with fail;go_meet
    case rel=>exact⟨a2,c2,by have:=MX.out.le;omega,MX.out.lt,⟨fun _=>by have:=MX.out.le;omega⟩,⟨PxR.mk (x:=ndU s x) (.un (.inl rfl) (fun h0=>⟨by rw[HKK.out.2];exact HE.out.size a,fun h=>absurd h (by simp[ndU]),fun h=>absurd h (by simp[ndU]),fun _=>by have:=op_text HE.out hlt HKK.out.1;rw[<-HKK.out.2] at this;exact this,fun nm h=>by simp[ndU] at h⟩) rfl OX.out) (fun h0=>⟨(MX.out.good h0).1,by have:=(MX.out.good h0).2;have:=MX.out.le;simp[wt_mk,ndU,wts];omega⟩) rfl (Ou.assign (H.out.alloc _) (HV2.out.alloc _) HV.out rfl (NR.nil _ _) HK.out HE.out HP.out HB0.out (by have:=HN0.out;omega) (by omega) (by omega) 32 s 0 0 false)⟩⟩
   |false=>
    cases b2 with
    |true=>
     have hne:s≠⟨#[]⟩:=HSE.out;have hkk:((E.tk a).k=3\/(E.tk a).k=2)/\s=(E.tk a).s:=HSS.out.resolve_left hne;have HKK:=aM hkk;have hlt:=Env.not_end HE.out ha (op_not_end hkk.1);clear hkk hne;go_wp2_with fail;refine(take_any HE.out H.out.s H.out.B ha).mono ?_;rw[if_neg (op_not_end HKK.out.1)];rintro e w2 ⟨rfl,h2⟩;replace HV2:=aM (HV2.out.keep H.out.s h2);replace HV3:=aM (HV3.out.keep H.out.s h2);replace H:=aM (H.out.step h2);clear h2;have HSZ:=aM (blk_lt HV3.out);go_wp2_with fail;refine((HIH.out (a+1) (by omega) hlt).expression 8 (by decide) _ _ H.out.s H.out.B).mono ?_;rintro e w4 ⟨x,An,cn,Ak,ck,a2,c2,rfl,tx,ox,_,mx,hp⟩;replace HV2:=aM (HV2.out.keep H.out.s hp);replace HV3:=aM (HV3.out.keep H.out.s hp);replace H:=aM (H.out.step hp);have HK:=aM (KR.lit1 (tx.lower (b':=n1+1) HSZ.out) (blk_lt HV3.out));have OX:=aM ox;have MX:=aM mx;clear tx ox mx hp;have HV:=aM (HV3.out.alloc (.cells #[.int .i64 x.k,.string x.s,.float .f64 x.x,.int .i64 x.n,.bool x.b,(.slice An x.names.length cn),(.slice Ak x.kids.length ck)] 27));obtain⟨y0,y1,y2,y3,y4,y5,y6⟩:=bC7 HV.out;obtain⟨fy0,fy1,fy2,fy3,fy4,fy5,fy6⟩:=bF7 HV.out;go_wp2_with fail;go_meet
     case rel=>exact⟨a2,c2,by have:=MX.out.le;omega,MX.out.lt,⟨fun _=>by have:=MX.out.le;omega⟩,⟨PxR.mk (x:=ndU s x) (.un (.inl rfl) (fun h0=>⟨by rw[HKK.out.2];exact HE.out.size a,fun h=>absurd h (by simp[ndU]),fun h=>absurd h (by simp[ndU]),fun _=>by have:=op_text HE.out hlt HKK.out.1;rw[<-HKK.out.2] at this;exact this,fun nm h=>by simp[ndU] at h⟩) rfl OX.out) (fun h0=>⟨(MX.out.good h0).1,by have:=(MX.out.good h0).2;have:=MX.out.le;simp[wt_mk,ndU,wts];omega⟩) rfl (Ou.assign (H.out.alloc _) (HV2.out.alloc _) HV.out rfl (NR.nil _ _) HK.out HE.out HP.out HB0.out (by have:=HN0.out;omega) (by omega) (by omega) 32 s 0 0 false)⟩⟩
    |false=>
     cases b3 with
     |true=>
      have hne:s≠⟨#[]⟩:=HSE.out;have hkk:((E.tk a).k=3\/(E.tk a).k=2)/\s=(E.tk a).s:=HSS.out.resolve_left hne;have HKK:=aM hkk;have hlt:=Env.not_end HE.out ha (op_not_end hkk.1);clear hkk hne;go_wp2_with fail;refine(take_any HE.out H.out.s H.out.B ha).mono ?_;rw[if_neg (op_not_end HKK.out.1)];rintro e w2 ⟨rfl,h2⟩;replace HV2:=aM (HV2.out.keep H.out.s h2);replace HV3:=aM (HV3.out.keep H.out.s h2);replace H:=aM (H.out.step h2);clear h2;have HSZ:=aM (blk_lt HV3.out);go_wp2_with fail;refine((HIH.out (a+1) (by omega) hlt).expression 8 (by decide) _ _ H.out.s H.out.B).mono ?_;rintro e w4 ⟨x,An,cn,Ak,ck,a2,c2,rfl,tx,ox,_,mx,hp⟩;replace HV2:=aM (HV2.out.keep H.out.s hp);replace HV3:=aM (HV3.out.keep H.out.s hp);replace H:=aM (H.out.step hp);have HK:=aM (KR.lit1 (tx.lower (b':=n1+1) HSZ.out) (blk_lt HV3.out));have OX:=aM ox;have MX:=aM mx;clear tx ox mx hp;have HV:=aM (HV3.out.alloc (.cells #[.int .i64 x.k,.string x.s,.float .f64 x.x,.int .i64 x.n,.bool x.b,(.slice An x.names.length cn),(.slice Ak x.kids.length ck)] 27));obtain⟨y0,y1,y2,y3,y4,y5,y6⟩:=bC7 HV.out;obtain⟨fy0,fy1,fy2,fy3,fy4,fy5,fy6⟩:=bF7 HV.out;go_wp2_with fail;go_meet
      case rel=>exact⟨a2,c2,by have:=MX.out.le;omega,MX.out.lt,⟨fun _=>by have:=MX.out.le;omega⟩,⟨PxR.mk (x:=ndU s x) (.un (.inl rfl) (fun h0=>⟨by rw[HKK.out.2];exact HE.out.size a,fun h=>absurd h (by simp[ndU]),fun h=>absurd h (by simp[ndU]),fun _=>by have:=op_text HE.out hlt HKK.out.1;rw[<-HKK.out.2] at this;exact this,fun nm h=>by simp[ndU] at h⟩) rfl OX.out) (fun h0=>⟨(MX.out.good h0).1,by have:=(MX.out.good h0).2;have:=MX.out.le;simp[wt_mk,ndU,wts];omega⟩) rfl (Ou.assign (H.out.alloc _) (HV2.out.alloc _) HV.out rfl (NR.nil _ _) HK.out HE.out HP.out HB0.out (by have:=HN0.out;omega) (by omega) (by omega) 32 s 0 0 false)⟩⟩
     |false=>
      have HSZ:=aM (blk_lt HV3.out);go_wp2_with fail;refine(HS.out _ _ H.out.s H.out.B).mono ?_;rintro e w4 ⟨x,An,cn,Ak,ck,a2,c2,rfl,tx,ox,_,mx,hp⟩;replace HV2:=aM (HV2.out.keep H.out.s hp);replace HV3:=aM (HV3.out.keep H.out.s hp);replace H:=aM (H.out.step hp);have TX:=aM (tx.lower (b':=n1+1) HSZ.out);have OX:=aM ox;have MX:=aM mx;clear tx ox mx hp;obtain⟨y0,y1,y2,y3,y4,y5,y6⟩:=bC7 HV3.out;obtain⟨fy0,fy1,fy2,fy3,fy4,fy5,fy6⟩:=bF7 HV3.out;go_wp2_with fail;go_meet
      case rel=>exact⟨a2,c2,MX.out.le,MX.out.lt,⟨MX.out.pr rfl⟩,⟨PxR.of H.out HV2.out HV3.out rfl TX.out HE.out HP.out HB0.out (by have:=HN0.out;omega) (by omega) (by omega) OX.out MX.out.good⟩⟩
 clear H HV2 HV3 HSS;obtain⟨a2,c2,h1,h2,PR,H⟩:=hcut;go_wp2_with fail;go_loopg [] (E.n-a2) (fun k wr=>∃(a':Nat) (c':Int),k=E.n-a'/\a<=a'/\a'<E.n/\Aside0 (a+1<E.n->a<a')/\Aside0 (PxR E w wr n0 n1 (n1+1) a c a' c'))
 case atStart=>exact⟨a2,c2,rfl,h1,h2,PR,H⟩
 case round=>
  clear H PR h1 h2;obtain⟨a2,c2,hk,h1,h2,PR,H⟩:=hrel;go_wp2_with fail;refine(operator_q HE.out H.out.p.s h2).mono ?_;rintro e w3 ⟨op,rfl,hop,hb⟩;replace H:=aM (H.out.below hb);have HOP:=aM hop;clear hb hop;go_wp2_with fail;refine(power_q op w3).mono ?_;rintro e w4 ⟨pl,pr,rfl,hp0,hp1,hp2,⟨k4,rfl⟩⟩;replace H:=aM (H.out.below (pD (bR _ _) k4));have HP2:=aM hp2;clear hp2;generalize w3.drewN k4=w4 at H|-
  by_cases hlim:pl<=l
  ·have hlb:decide (pl<=l)=true:=decide_eq_true hlim
   obtain⟨x,An,cn,Ak,ck,ox,gx,ho⟩:=H.out;have OX:=aM ox;have GX:=aM gx;have HO:=aM ho;clear H ox gx ho;obtain⟨y0,y1,y2,y3,y4,y5,y6⟩:=bC7 HO.out.v3;obtain⟨z0,z1,z2,z3,z4,z5,z6⟩:=bC7 HO.out.v2;obtain⟨fz0,fz1,fz2,fz3,fz4,fz5,fz6⟩:=bF7 HO.out.v2;go_wp2_with fail;have HF:=aM (HO.out.fin HE.out HP.out HB0.out HN0.out (by omega));generalize (((((((w4.setCell ⟨n0,0,none⟩ (.int .i64 x.k)).setCell ⟨n0,1,none⟩ (.string x.s)).setCell ⟨n0,2,none⟩ (.float .f64 x.x)).setCell ⟨n0,3,none⟩ (.int .i64 x.n)).setCell ⟨n0,4,none⟩ (.bool x.b)).setCell ⟨n0,5,none⟩ (.slice An x.names.length cn)).setCell ⟨n0,6,none⟩ (.slice Ak x.kids.length ck))=WF at HF|-;obtain⟨qq0,qq1,qq2,qq3,qq4,qq5,qq6⟩:=bC7 HF.out.2.2;refine bodyPost_ret (v:= .agg #[.int .i64 x.k,.string x.s,.float .f64 x.x,.int .i64 x.n,.bool x.b,.slice An x.names.length cn,.slice Ak x.kids.length ck]) (by simp[results,Tryz.results94,go_sem,qq0,qq1,qq2,qq3,qq4,qq5,qq6]) rfl ?_;exact⟨x,An,cn,Ak,ck,a2,c2,rfl,(nd_eta x)▸HF.out.2.1,OX.out,trivial,⟨h1,h2,fun _ h=>PR.out h,fun h0=>GX.out h0⟩,HF.out.1⟩
  ·have hlb:decide (pl<=l)=false:=decide_eq_false hlim
   have hne:op≠⟨#[]⟩:=fun h=>by have:=HP2.out h;omega
   have hkk:((E.tk a2).k=3\/(E.tk a2).k=2)/\op=(E.tk a2).s:=HOP.out.resolve_left hne;have HKK:=aM hkk;have hlt:=Env.not_end HE.out h2 (op_not_end hkk.1);have hmid:a<a2:=PR.out (by omega);clear hkk hne HOP HP2;go_wp2_with fail;refine(take_any HE.out H.out.p.s H.out.p.B h2).mono ?_;rw[if_neg (op_not_end HKK.out.1)];rintro e w5 ⟨rfl,h5⟩;obtain⟨x,An,cn,Ak,ck,ox,gx,ho⟩:=H.out.step h5 (fun h=>h) (Nat.le_succ _);have OX:=aM ox;have GX:=aM gx;have HO:=aM ho;clear H h5 ox gx ho;obtain⟨y0,y1,y2,y3,y4,y5,y6⟩:=bC7 HO.out.v3;have H0:=aM HO.out.drew;have HN:=aM ((HIH.out (a2+1) (by omega) hlt).expression pr hp1 _ _ H0.out.p.s H0.out.p.B);have HSZ:=aM (blk_lt H0.out.v3);go_upto_region 15 with fail
   go_region_law (go_simp;go_at_call 94;refine HN.out.mono ?_;rintro e w8 ⟨z,Zn,zn,Zk,zk,a4,c4,rfl,tz,oz,_,mz,hp⟩;have H2:=aM (H0.out.step hp);have r0:=bC H2.out.v3 0;have r1:=bC H2.out.v3 1;have r2:=bC H2.out.v3 2;have r3:=bC H2.out.v3 3;have r4:=bC H2.out.v3 4;have r5:=bC H2.out.v3 5;have r6:=bC H2.out.v3 6;have OZ:=aM oz;have MZ:=aM mz;have H3:=aM (H2.out.alloc (.cells #[.int .i64 x.k,.string x.s,.float .f64 x.x,.int .i64 x.n,.bool x.b,(.slice An x.names.length cn),(.slice Ak x.kids.length ck),.int .i64 z.k,.string z.s,.float .f64 z.x,.int .i64 z.n,.bool z.b,(.slice Zn z.names.length zn),(.slice Zk z.kids.length zk)] 27));have KY:=aM (KR.lit2 H2.out.trx (tz.lower (b':=n1+1) HSZ.out) (blk_lt H2.out.v3));have rr0:=bC H3.out.v3 0;have rr1:=bC H3.out.v3 1;have rr2:=bC H3.out.v3 2;have rr3:=bC H3.out.v3 3;have rr4:=bC H3.out.v3 4;have rr5:=bC H3.out.v3 5;have rr6:=bC H3.out.v3 6;have fr0:=bF H3.out.v3 0;have fr1:=bF H3.out.v3 1;have fr2:=bF H3.out.v3 2;have fr3:=bF H3.out.v3 3;have fr4:=bF H3.out.v3 4;have fr5:=bF H3.out.v3 5;have fr6:=bF H3.out.v3 6;clear hp oz mz tz)
   all_goals
    go_wp2
    go_roundg (E.n-a4)
    case measure=>have:=MZ.out.le;omega
    case rel=>exact⟨a4,c4,rfl,by have:=MZ.out.le;omega,MZ.out.lt,⟨fun _=>by have:=MZ.out.le;omega⟩,⟨PxR.mk (x:=ndB op x z) (.bin rfl (fun h0=>⟨by rw[show(ndB op x z).s=op from rfl,HKK.out.2];exact HE.out.size a2,fun h=>absurd h (by simp[ndB]),fun h=>absurd h (by simp[ndB]),fun _=>by have:=op_text HE.out hlt HKK.out.1;rw[<-HKK.out.2] at this;exact this,fun nm h=>by simp[ndB] at h⟩) rfl (OX.out.mono (fun h0=>(MZ.out.good h0).1)) OZ.out) (fun h0=>⟨(GX.out (MZ.out.good h0).1).1,by have:=(GX.out (MZ.out.good h0).1).2;have:=(MZ.out.good h0).2;have:=MZ.out.le;simp[wt_mk,ndB,wts];omega⟩) rfl (Ou.assign H3.out.p H3.out.v2 H3.out.v3 rfl (NR.nil _ _) KY.out HE.out HP.out HB0.out (by have:=HN0.out;omega) (by omega) (by omega) 31 op 0 0 false)⟩⟩
end
structure Bo(E:Env)(w ws:World)(r0:Option Nat)(wr:World)(n0 n1 a:Nat)(c:Int)(fl:Bool)(ns:List ByteArray)(ks:List Nd)(vn vk:Value):Prop where
 p:Pt E w wr a c
 v2:Vb wr n0 #[.int .i64 0,.string ⟨#[]⟩,.float .f64 0,.int .i64 0,.bool false,.slice none 0 0,.slice none 0 0]
 v3:Vb wr n1 #[.int .i64 26,.string ⟨#[]⟩,.float .f64 0,.int .i64 0,.bool fl,vn,vk]
 nr:NR wr w.heap.size vn ns
 kr:KR wr (n1+1) vk ks
 kb:KeepBut ws wr E.g r0
 ow:vn.ownBlock=r0\/∃k,vn.ownBlock=some k/\ws.heap.size<=k
 g0:ws.heap.size<=n0
 g1:ws.heap.size<=n1
section
variable {E:Env} {w ws wr w1 w2:World} {r0:Option Nat} {a a' b b2 n0 n1 q:Nat} {c c':Int} {fl:Bool} {ns:List ByteArray} {ks:List Nd} {v vn vk un uk:Value} {cs:Array Value}
variable {ops:Array Oper} {rest:List Oper} {o:Oper} {act:Act} {Q:Exit->Act->World->Prop} {K:Act->World->Prop}
theorem NR.set(h:NR wr b v ns)(hv:Vb wr q cs)(j:Nat)(u:Value):NR (wr.setCell ⟨q,j,none⟩ u) b v ns:=Kd.R_set h hv (by decide) j u
theorem Vb.set(h:Vb wr q cs)(j:Nat)(u:Value):Vb (wr.setCell ⟨q,j,none⟩ u) q (cs.setIfInBounds j u):=blk_set h j u
theorem Vb.off(h:Vb wr q cs)(hne:q≠b)(j:Nat)(u:Value):Vb (wr.setCell ⟨b,j,none⟩ u) q cs:=blk_far h (p:=⟨b,j,none⟩) hne u
theorem KR.off(h:KR wr b v ks)(hq:q<b)(j:Nat)(u:Value):KR (wr.setCell ⟨q,j,none⟩ u) b v ks:=h.far (fun k hk=>Below.heap_setCell wr ⟨q,j,none⟩ u k hk) hq
theorem NR.push_stepd(hw:Region.wanted o (yielded ops act.tmps)=true)(s p:Operand)(ho:o.op = .call {callee:= .builtin .append,args:= #[s,p],argTypes:= #[24,24]})
  (hs:act.eval s=v) (h:NR wr b v ns) {N:Nat} (hp:act.eval p = .slice (some ⟨N,0,none⟩) 1 1) (hN:wr.heap.size=N) (t:ByteArray)
  (hb0:b<=wr.heap.size) (hl:ns.length<=100000)
  (h0:Ps E w a' c') (hE:E.Fine) (hB:E.w0.heap.size<=w.heap.size) (hwb:w.heap.size<=b) (hP:Pt E w wr a c)
  (hK:∀A1 c1 w1,NR w1 b (.slice A1 (ns.length+1) c1) (ns++[t])->Pt E w w1 a c->(∀q cs,Vb wr q cs->Vb w1 q cs)->wr.grownBy w1 v.ownBlock->((Value.slice A1 (ns.length+1) c1).ownBlock=v.ownBlock\/∃b,(Value.slice A1 (ns.length+1) c1).ownBlock=some b/\wr.heap.size<=b)->K (act.put o.dst (.slice A1 (ns.length+1) c1)) w1):
  if Region.wanted o (yielded ops act.tmps)=true then Oper.wp Tryz.prog o act (wr.alloc (.cells #[.string t] 9)) K Q else K (act.put o.dst undef) (wr.alloc (.cells #[.string t] 9)):=by
 subst hN;refine Kd.R_append_step (P:=Tryz.prog) Kd.string (w0:=wr) b hw s p 24 9 (.string ⟨#[]⟩) 16 ho Tryz.underlying24 info9 rfl (by decide) (by decide) v ns t [.string t] (fun _=>True) (fun _=>False) hs hp
  rfl (fun k hk=>hk.elim) (fun k hk=>trivial) h (bR _ _) hb0 (by omega) ?_
 intro v1 w1 hR _ hg ho;obtain⟨A1,c1,rfl⟩:=Kd.R_slice hR;rw[List.length_append,List.length_singleton] at hR ho|-;have hr:∀k,v.ownBlock=some k->b<=k:=fun k hk=>Kd.R_base h k hk
 exact hK A1 c1 w1 hR (hP.grown h0 hE hB hg (fun k hk=>Nat.le_trans hwb (hr k hk))) (fun q cs hV=>blk_grown hV hg (Kd.R_ne h hV (by decide))) hg ho
theorem Pt.setg(h:Pt E w wr a c)(hE:E.Fine)(va:Bool):Pt E w (wr.setCell ⟨E.g,3,none⟩ (.bool va)) a c:=by
 obtain⟨va',lo,h1,h2⟩:=h.s;refine⟨⟨va,lo,blk_set h1 3 _,?_⟩,h.k.set hE.hg 3 _⟩;rw[Below.heap_setCell wr ⟨E.g,3,none⟩ _ E.tb hE.ne];exact h2
theorem Pt.setl(h:Pt E w wr a c)(hE:E.Fine)(lo:Int):Pt E w (wr.setCell ⟨E.g,4,none⟩ (.int .i64 lo)) a c:=by
 obtain⟨va,lo',h1,h2⟩:=h.s;refine⟨⟨va,lo,blk_set h1 4 _,?_⟩,h.k.set hE.hg 4 _⟩;rw[Below.heap_setCell wr ⟨E.g,4,none⟩ _ E.tb hE.ne];exact h2
theorem kb_none{g:Nat}(h:KeepBut wr w1 g none)(r:Option Nat):KeepBut wr w1 g r:=⟨h.1,fun i hi hg _=>h.2 i hi hg (by simp)⟩
theorem kb_put{g:Nat}(h:KeepBut ws wr g r0)(hq:ws.heap.size<=q)(j:Nat)(u:Value):KeepBut ws (wr.setCell ⟨q,j,none⟩ u) g r0:=
 ⟨by simpa[World.setCell] using h.1,fun i hi hg hr=>(Below.heap_setCell wr ⟨q,j,none⟩ u i (by show i≠q;omega)).trans (h.2 i hi hg hr)⟩
theorem Bo.step(h:Bo E w ws r0 wr n0 n1 a c fl ns ks vn vk)(h2:Pt E wr w1 a' c'):Bo E w ws r0 w1 n0 n1 a' c' fl ns ks vn vk:=
 ⟨h.p.step h2,h.v2.keep h.p.s h2,h.v3.keep h.p.s h2,h.nr.keep h.p.s h2,h.kr.keep h.p.s h2,KeepBut.trans h.kb (kb_none h2.k.k r0) (.inl rfl),h.ow,h.g0,h.g1⟩
theorem Bo.below(h:Bo E w ws r0 wr n0 n1 a c fl ns ks vn vk)(hb:Below wr.heap.size wr w1):Bo E w ws r0 w1 n0 n1 a c fl ns ks vn vk:=
 ⟨h.p.below hb,h.v2.below hb,h.v3.below hb,h.nr.below hb,h.kr.below hb,KeepBut.trans h.kb (KeepBut.of_below hb E.g r0) (.inl rfl),h.ow,h.g0,h.g1⟩
theorem Bo.drew(h:Bo E w ws r0 wr n0 n1 a c fl ns ks vn vk):Bo E w ws r0 wr.drew n0 n1 a c fl ns ks vn vk:=h.below (below_drew (bR _ _))
theorem Vb.sg(h:Vb wr q cs)(hne:q≠E.g)(j:Nat)(u:Value):Vb (wr.setCell ⟨E.g,j,none⟩ u) q cs:=blk_far h (p:=⟨E.g,j,none⟩) hne u
theorem NR.sg(h:NR wr b v ns)(hs:Ps E wr a c)(j:Nat)(u:Value):NR (wr.setCell ⟨E.g,j,none⟩ u) b v ns:=by
 obtain⟨cs,hg⟩:=hs.typed;exact Kd.R_set h hg (by decide) j u
theorem KR.sg(h:KR wr b v ks)(hs:Ps E wr a c)(j:Nat)(u:Value):KR (wr.setCell ⟨E.g,j,none⟩ u) b v ks:=by
 obtain⟨cs,hg⟩:=hs.typed;exact Kd.R_set h hg (by decide) j u
theorem Bo.setg(h:Bo E w ws r0 wr n0 n1 a c fl ns ks vn vk)(hE:E.Fine)(va:Bool):Bo E w ws r0 (wr.setCell ⟨E.g,3,none⟩ (.bool va)) n0 n1 a c fl ns ks vn vk:=by
 obtain⟨cs,hg⟩:=h.p.s.typed;exact⟨h.p.setg hE va,h.v2.sg (blk_ne h.v2 hg (by decide)) _ _,h.v3.sg (blk_ne h.v3 hg (by decide)) _ _,h.nr.sg h.p.s _ _,h.kr.sg h.p.s _ _,KeepBut.set_ h.kb _ _,h.ow,h.g0,h.g1⟩
theorem Bo.setl(h:Bo E w ws r0 wr n0 n1 a c fl ns ks vn vk)(hE:E.Fine)(lo:Int):Bo E w ws r0 (wr.setCell ⟨E.g,4,none⟩ (.int .i64 lo)) n0 n1 a c fl ns ks vn vk:=by
 obtain⟨cs,hg⟩:=h.p.s.typed;exact⟨h.p.setl hE lo,h.v2.sg (blk_ne h.v2 hg (by decide)) _ _,h.v3.sg (blk_ne h.v3 hg (by decide)) _ _,h.nr.sg h.p.s _ _,h.kr.sg h.p.s _ _,KeepBut.set_ h.kb _ _,h.ow,h.g0,h.g1⟩
theorem Bo.flag(h:Bo E w ws r0 wr n0 n1 a c fl ns ks vn vk)(hE:E.Fine)(h0:Ps E w a' c')(hB:E.w0.heap.size<=w.heap.size)(hwn:w.heap.size<=n1)(hne:n0≠n1)(b:Bool):Bo E w ws r0 (wr.setCell ⟨n1,4,none⟩ (.bool b)) n0 n1 a c b ns ks vn vk:=
 ⟨h.p.put hE h0 hB hwn 4 _,h.v2.off hne 4 _,h.v3.set 4 _,h.nr.set h.v3 4 _,h.kr.off (by omega) 4 _,kb_put h.kb h.g1 4 _,h.ow,h.g0,h.g1⟩
theorem Bo.named(hp:Pt E w wr a c)(hv2:Vb wr n0 #[.int .i64 0,.string ⟨#[]⟩,.float .f64 0,.int .i64 0,.bool false,.slice none 0 0,.slice none 0 0])(hv3:Vb wr n1 #[.int .i64 26,.string ⟨#[]⟩,.float .f64 0,.int .i64 0,.bool fl,vn,.slice none 0 0])(hn:NR wr w.heap.size v ns)(kb:KeepBut ws wr E.g r0)(ow:v.ownBlock=r0\/∃k,v.ownBlock=some k/\ws.heap.size<=k)(g0:ws.heap.size<=n0)(g1:ws.heap.size<=n1)(hE:E.Fine)(h0:Ps E w a' c')(hB:E.w0.heap.size<=w.heap.size)(hwn:w.heap.size<=n1)(hne:n0≠n1):Bo E w ws r0 (wr.setCell ⟨n1,5,none⟩ v) n0 n1 a c fl ns [] v (.slice none 0 0):=
 ⟨hp.put hE h0 hB hwn 5 _,hv2.off hne 5 _,hv3.set 5 _,hn.set hv3 5 _,KR.nil _ _,kb_put kb g1 5 _,ow,g0,g1⟩
theorem Bo.kids(h:Bo E w ws r0 wr n0 n1 a c fl ns [] vn vk)(hk:KR wr (n1+1) uk ks)(hE:E.Fine)(h0:Ps E w a' c')(hB:E.w0.heap.size<=w.heap.size)(hwn:w.heap.size<=n1)(hne:n0≠n1):Bo E w ws r0 (wr.setCell ⟨n1,6,none⟩ uk) n0 n1 a c fl ns ks vn uk:=
 ⟨h.p.put hE h0 hB hwn 6 _,h.v2.off hne 6 _,h.v3.set 6 _,h.nr.set h.v3 6 _,hk.off (by omega) 6 _,kb_put h.kb h.g1 6 _,h.ow,h.g0,h.g1⟩
theorem Bo.grown_kb(h:Bo E w ws r0 wr n0 n1 a c fl ns ks vn vk)(hg:wr.grownBy w1 vn.ownBlock):KeepBut ws w1 E.g r0:=KeepBut.trans h.kb (KeepBut.of_grown hg E.g) h.ow
theorem Bo.grown_ow(h:Bo E w ws r0 wr n0 n1 a c fl ns ks vn vk)(ho:v.ownBlock=vn.ownBlock\/∃b,v.ownBlock=some b/\wr.heap.size<=b):v.ownBlock=r0\/∃k,v.ownBlock=some k/\ws.heap.size<=k:=by
 rcases ho with ho|⟨b,h1,h2⟩
 ·rw[ho]
  exact h.ow
 ·exact .inr ⟨b,h1,Nat.le_trans h.kb.1 h2⟩
theorem NR.set7(h:NR wr b v ns)(hv:Vb wr q cs)(u0 u1 u2 u3 u4 u5 u6:Value):NR (((((((wr.setCell ⟨q,0,none⟩ u0).setCell ⟨q,1,none⟩ u1).setCell ⟨q,2,none⟩ u2).setCell ⟨q,3,none⟩ u3).setCell ⟨q,4,none⟩ u4).setCell ⟨q,5,none⟩ u5).setCell ⟨q,6,none⟩ u6) b v ns:=
 ((((((h.set hv 0 u0).set (hv.set 0 u0) 1 u1).set ((hv.set 0 u0).set 1 u1) 2 u2).set (((hv.set 0 u0).set 1 u1).set 2 u2) 3 u3).set ((((hv.set 0 u0).set 1 u1).set 2 u2).set 3 u3) 4 u4).set (((((hv.set 0 u0).set 1 u1).set 2 u2).set 3 u3).set 4 u4) 5 u5).set ((((((hv.set 0 u0).set 1 u1).set 2 u2).set 3 u3).set 4 u4).set 5 u5) 6 u6
theorem Bo.fin(h:Bo E w ws r0 wr n0 n1 a c fl ns ks vn vk)(hE:E.Fine)(h0:Ps E w a' c')(hB:E.w0.heap.size<=w.heap.size)(hwn:w.heap.size<=n0)(hn:n0<n1):
  (Pt E w (((((((wr.setCell ⟨n0,0,none⟩ (.int .i64 26)).setCell ⟨n0,1,none⟩ (.string ⟨#[]⟩)).setCell ⟨n0,2,none⟩ (.float .f64 0)).setCell ⟨n0,3,none⟩ (.int .i64 0)).setCell ⟨n0,4,none⟩ (.bool fl)).setCell ⟨n0,5,none⟩ vn).setCell ⟨n0,6,none⟩ vk) a c/\KeepBut ws (((((((wr.setCell ⟨n0,0,none⟩ (.int .i64 26)).setCell ⟨n0,1,none⟩ (.string ⟨#[]⟩)).setCell ⟨n0,2,none⟩ (.float .f64 0)).setCell ⟨n0,3,none⟩ (.int .i64 0)).setCell ⟨n0,4,none⟩ (.bool fl)).setCell ⟨n0,5,none⟩ vn).setCell ⟨n0,6,none⟩ vk) E.g r0)/\
  Tr (((((((wr.setCell ⟨n0,0,none⟩ (.int .i64 26)).setCell ⟨n0,1,none⟩ (.string ⟨#[]⟩)).setCell ⟨n0,2,none⟩ (.float .f64 0)).setCell ⟨n0,3,none⟩ (.int .i64 0)).setCell ⟨n0,4,none⟩ (.bool fl)).setCell ⟨n0,5,none⟩ vn).setCell ⟨n0,6,none⟩ vk) w.heap.size ⟨26,⟨#[]⟩,0,0,fl,ns,ks⟩ vn vk/\
  (((((((wr.setCell ⟨n0,0,none⟩ (.int .i64 26)).setCell ⟨n0,1,none⟩ (.string ⟨#[]⟩)).setCell ⟨n0,2,none⟩ (.float .f64 0)).setCell ⟨n0,3,none⟩ (.int .i64 0)).setCell ⟨n0,4,none⟩ (.bool fl)).setCell ⟨n0,5,none⟩ vn).setCell ⟨n0,6,none⟩ vk).heap[n0]? = some (.cells #[.int .i64 26,.string ⟨#[]⟩,.float .f64 0,.int .i64 0,.bool fl,vn,vk] 27 (0,0)):=by
 obtain⟨h1,h2,h3⟩:=h.p.put7 hE h0 hB (b:=n0) hwn h.v2 rfl (.int .i64 26) (.string ⟨#[]⟩) (.float .f64 0) (.int .i64 0) (.bool fl) vn vk;exact⟨⟨h1,kb_put (kb_put (kb_put (kb_put (kb_put (kb_put (kb_put h.kb h.g0 0 _) h.g0 1 _) h.g0 2 _) h.g0 3 _) h.g0 4 _) h.g0 5 _) h.g0 6 _⟩,Tr.mk (h.nr.set7 h.v2 _ _ _ _ _ _ _) ((h.kr.far h3 (by omega)).lower (by omega)),h2⟩
end
section
variable {E:Env} {a:Nat}
set_option maxRecDepth 10000 in
set_option maxHeartbeats 8000000 in
theorem body_any(hE:E.Fine)(IH:∀b,a<b->b<E.n->All E b)(ha:a<E.n)(hBE:NC E 20 #[.pointer (some ⟨E.g,0,none⟩)] (E.n-1) .b 0 1 (fun _=>True)):BC E a:=by
 intro wb w c A cp ns a0 c0 hP0 hBw hPw hN hok hln;have HE:=aM hE;have HIH:=aM IH;have hpos:=hE.pos;have hlen:=hE.len;have HP:=aM hPw;have HB0:=aM hBw;have HOK:=aM hok;have HBLK:=aM (show ∀b,(a<b\/b=E.n-1)->b<E.n->NC E 20 #[.pointer (some ⟨E.g,0,none⟩)] b .b 0 1 (fun _=>True) from fun b h hb=>h.elim (fun h=>(IH b h hb).block) (fun h=>h▸hBE));obtain⟨r0,hr0⟩:∃r,(Value.slice A ns.length cp).ownBlock=r:=⟨_,rfl⟩;simp only[hr0];obtain⟨n0,hn0⟩:∃n0,w.heap.size=n0:=⟨_,rfl⟩;have HN0:=aM (show wb.heap.size<=n0 by rw[<-hn0];exact hP0.size);have e1:(w.alloc (.cells #[.int .i64 0,.string ⟨#[]⟩,.float .f64 0,.int .i64 0,.bool false,.slice none 0 0,.slice none 0 0] 27)).heap.size=n0+1:=by simp[hn0]
 have H:=aM (show Bo E wb w r0 ((w.alloc (.cells #[.int .i64 0,.string ⟨#[]⟩,.float .f64 0,.int .i64 0,.bool false,.slice none 0 0,.slice none 0 0] 27)).alloc (.cells #[.int .i64 26,.string ⟨#[]⟩,.float .f64 0,.int .i64 0,.bool false,.slice A ns.length cp,.slice none 0 0] 27)) n0 (n0+1) a c false ns [] (.slice A ns.length cp) (.slice none 0 0) from⟨(hP0.alloc _).alloc _,by have:=(Vb.new w #[.int .i64 0,.string ⟨#[]⟩,.float .f64 0,.int .i64 0,.bool false,.slice none 0 0,.slice none 0 0]).alloc (.cells #[.int .i64 26,.string ⟨#[]⟩,.float .f64 0,.int .i64 0,.bool false,.slice A ns.length cp,.slice none 0 0] 27);rwa[hn0] at this,by have:=Vb.new (w.alloc (.cells #[.int .i64 0,.string ⟨#[]⟩,.float .f64 0,.int .i64 0,.bool false,.slice none 0 0,.slice none 0 0] 27)) #[.int .i64 26,.string ⟨#[]⟩,.float .f64 0,.int .i64 0,.bool false,.slice A ns.length cp,.slice none 0 0];rwa[e1] at this,(hN.alloc _).alloc _,KR.nil _ _,KeepBut.of_below (bA (bA (bR _ _) _) _) _ _,.inl hr0,by omega,by omega⟩);clear hE IH hP0 hBw hPw hN hok hBE e1 hr0;go_enter Tryz.func126,Tryz.ntmps126
 go_wp2_with fail;generalize ((w.alloc (.cells #[.int .i64 0,.string ⟨#[]⟩,.float .f64 0,.int .i64 0,.bool false,.slice none 0 0,.slice none 0 0] 27)).alloc (.cells #[.int .i64 26,.string ⟨#[]⟩,.float .f64 0,.int .i64 0,.bool false,.slice A ns.length cp,.slice none 0 0] 27))=wz at H|-;clear hn0;obtain⟨n1,hn1⟩:∃n1,n0+1=n1:=⟨_,rfl⟩;rw[hn1] at H|-;refine(sign_any HE.out H.out.p.s H.out.p.B ha _).mono ?_;rintro e w1 ⟨a1,c1,rfl,h1,h2,h3,h4,h5⟩;replace H:=aM (H.out.step h5);have G:=aM (show c1=0->c=0/\a+ns.length<=a1/\∀nm∈ns,NameT nm/\nm.size<=2000 from fun h0=>⟨(h4 h0).1,by have:=(h4 h0).2.1;omega,HOK.out⟩);have PR:=aM h3;clear h5 h4 h3
 go_upto_block 0 with fail
 go_cut [] from 12 to 35 (fun wc=>∃(a':Nat) (c':Int) (fl:Bool) (A:Option Addr) (cp:Nat) (ns:List ByteArray),a<=a'/\a'<E.n/\Aside0 (a+1<E.n->a<a')/\Aside0 (c'=0->c=0/\a+ns.length<=a'/\∀nm∈ns,NameT nm/\nm.size<=2000)/\Aside0 (Bo E wb w r0 wc n0 n1 a' c' fl ns [] (.slice A ns.length cp) (.slice none 0 0)))
 case first=>
  go_wp2_with fail;go_loopg [] (E.n-a1) (fun k wr=>∃(a':Nat) (c':Int) (A:Option Addr) (cp:Nat) (ns:List ByteArray),k=E.n-a'/\a<=a'/\a'<E.n/\ns.length<=a'+1/\Aside0 (a+1<E.n->a<a')/\Aside0 (c'=0->c=0/\a+ns.length<=a'/\∀nm∈ns,NameT nm/\nm.size<=2000)/\Aside0 (Bo E wb w r0 wr n0 n1 a' c' false ns [] (.slice A ns.length cp) (.slice none 0 0)))
  case atStart=>exact⟨a1,c1,A,cp,ns,rfl,h1,h2,by omega,PR,G,H⟩
  case round=>
   clear H G PR h1 h2;obtain⟨a2,c2,A2,cp2,ns2,hk,h1,h2,hl,PR,G,H⟩:=hrel;go_wp2_with fail;refine(isSign_q HE.out H.out.p.s h2 _).mono ?_;rintro e w2 ⟨rfl,hb⟩;replace H:=aM (H.out.below hb);clear hb;obtain⟨b1,hb1⟩:∃b,E.isS a2 ⟨#[41]⟩=b:=⟨_,rfl⟩;rw[hb1]
   cases b1 with
   |true=>
    go_wp2_with fail;go_meet
    case rel=>exact⟨a2,c2,false,A2,cp2,ns2,h1,h2,PR,G,H⟩
   |false=>
    go_wp2_with fail;refine(hasSign_any HE.out H.out.p.s H.out.p.B h2 _).mono ?_;rintro e w3 ⟨b2,a3,rfl,_,p1,p2,hp⟩;replace H:=aM (H.out.step hp);clear hp hb1
    cases b2 with
    |true=>
     obtain⟨rfl,hlt⟩:=p1 rfl;clear p1 p2;have y4:=bC H.out.v3 4;have fy4:=bF H.out.v3 4;go_wp2_with fail;go_meet
     case rel=>exact⟨a2+1,c2,true,A2,cp2,ns2,by omega,hlt,⟨fun _=>by omega⟩,⟨fun h0=>⟨(G.out h0).1,by have:=(G.out h0).2.1;omega,(G.out h0).2.2⟩⟩,⟨H.out.flag HE.out HP.out HB0.out (by have:=HN0.out;omega) (by omega) true⟩⟩
    |false=>
     obtain rfl:=p2 rfl;clear p1 p2;have y5:=bC H.out.v3 5;have H0:=aM H.out.drew;have HN:=aM (name_any HE.out H0.out.p.s H0.out.p.B h2);go_upto_region 6 with fail
     go_cut [] from 18 to 24 (fun wc=>∃(a':Nat) (c':Int) (A:Option Addr) (cp:Nat) (ns:List ByteArray),a3<=a'/\a'<E.n/\Aside0 (a3+1<E.n->a3<a')/\ns.length=ns2.length+1/\Aside0 (c'=0->c=0/\a+ns.length<=a'/\∀nm∈ns,NameT nm/\nm.size<=2000)/\Aside0 (Bo E wb w r0 wc n0 n1 a' c' false ns [] (.slice A ns.length cp) (.slice none 0 0)))
     case first=>
      go_region_law (first|(refine NR.push_stepd (by rfl) (.tmp 19) (.tmp 22) (by rfl) (by rfl) H2.out.nr (by rfl) (by rfl) s (H2.out.p.size) (by omega) HP.out HE.out HB0.out (Nat.le_refl _) H2.out.p ?_;intro A9 c9 w9 k9 p9 v9 g9 o9;have B9:=aM (H2.out.grown_kb g9);have O9:=aM (H2.out.grown_ow o9);have N9:=aM k9;have P9:=aM p9;have U9:=aM (v9 _ _ H2.out.v2);have V9:=aM (v9 _ _ H2.out.v3);have rr5:=bC V9.out 5;have fr5:=bF V9.out 5;clear k9 p9 v9 g9 o9)|(go_simp;go_at_call 123;refine HN.out.mono ?_;rintro e w8 ⟨s,a4,c4,rfl,hs,q1,q2,q3,q4,hp⟩;have H2:=aM (H0.out.step hp);have r5:=bC H2.out.v3 5;have r5a:=fun(ob:Obj)=>bC (H2.out.v3.alloc ob) 5;have Q4:=aM q4;clear hp q4))
      all_goals
       have G9:=aM (show c4=0->c=0/\a+(ns2++[s]).length<=a4/\∀nm∈ns2++[s],NameT nm/\nm.size<=2000 from fun h0=>by
        obtain⟨r1,r2,r3,r4⟩:=Q4.out h0;obtain⟨s1,s2,s3⟩:=G.out r1;refine⟨s1,by simp;omega,fun nm hm=> ?_⟩;rcases List.mem_append.1 hm with hm|hm
        ·exact s3 nm hm
        ·simp at hm
         subst hm;exact⟨r4,hs⟩)
       have H9:=aM (Bo.named P9.out U9.out V9.out N9.out B9.out O9.out H2.out.g0 H2.out.g1 HE.out HP.out HB0.out (by have:=HN0.out;omega) (by omega));have l9:(ns2++[s]).length=ns2.length+1:=by simp
       rw[<-l9] at H9
       go_wp2
       go_meet
       rw[<-l9]
       case rel=>exact⟨a4,c4,A9,c9,ns2++[s],q1,q2,⟨q3⟩,rfl,G9,H9⟩
     clear H H0 HN G y5;obtain⟨a4,c4,A4,cp4,ns4,q1,q2,q3,ql,G,H⟩:=hcut;go_wp2_with fail;refine(hasSign_any HE.out H.out.p.s H.out.p.B q2 _).mono ?_;rintro e w5 ⟨b5,a5,rfl,_,p1,p2,hp⟩;replace H:=aM (H.out.step hp);clear hp
     cases b5 with
     |false=>
      obtain rfl:=p2 rfl;clear p1 p2;go_wp2_with fail;go_meet
      case rel=>exact⟨a5,c4,false,A4,cp4,ns4,by omega,q2,⟨fun h=>by have:=PR.out h;omega⟩,G,H⟩
     |true=>
      obtain⟨rfl,hlt⟩:=p1 rfl;clear p1 p2;go_wp2_with fail;refine(isSign_q HE.out H.out.p.s hlt _).mono ?_;rintro e w6 ⟨rfl,hb⟩;replace H:=aM (H.out.below hb);clear hb;generalize E.isS (a4+1) ⟨#[41]⟩=b6
      go_upto_if 29 with fail
      go_cut [] from 29 to 31 (fun wc=>∃(a':Nat) (c':Int),a4+1<=a'/\a'<E.n/\Aside0 (c'=0->c4=0)/\Aside0 (Bo E wb w r0 wc n0 n1 a' c' false ns4 [] (.slice A4 ns4.length cp4) (.slice none 0 0)))
      case first=>
       cases b6 with
       |true=>
        go_wp2_with fail;refine(tell_any HE.out H.out.p.s H.out.p.B 1).mono ?_;rintro e w7 ⟨rfl,hp⟩;replace H:=aM (H.out.step hp);clear hp;go_wp2_with fail;go_meet
        case rel=>exact⟨E.n-1,_,by omega,by omega,⟨tell_g (by decide)⟩,H⟩
       |false=>
        go_wp2_with fail;go_meet
        case rel=>exact⟨a4+1,c4,Nat.le_refl _,hlt,⟨fun h=>h⟩,H⟩
      clear H;obtain⟨a6,c6,r1,r2,r3,H⟩:=hcut;replace G:=aM (show c6=0->c=0/\a+ns4.length<=a6/\∀nm∈ns4,NameT nm/\nm.size<=2000 from fun h0=>⟨(G.out (r3.out h0)).1,by have:=(G.out (r3.out h0)).2.1;omega,(G.out (r3.out h0)).2.2⟩);go_wp2_with fail;refine(now_q HE.out H.out.p.s r2).mono ?_;rintro e w8 ⟨rfl,hb⟩;replace H:=aM (H.out.below hb);clear hb;obtain⟨b8,hb8⟩:∃b:Bool,((E.tk a6).k==6)=b:=⟨_,rfl⟩
      cases b8 with
      |true=>
       go_wp2_with fail;go_meet
       case rel=>exact⟨a6,c6,false,A4,cp4,ns4,by omega,r2,⟨fun _=>by omega⟩,G,H⟩
      |false=>
       go_wp2_with fail;go_roundg (E.n-a6)
       case measure=>omega
       case rel=>exact⟨a6,c6,A4,cp4,ns4,rfl,by omega,r2,by omega,⟨fun _=>by omega⟩,G,H⟩
 clear H G PR h1 h2;obtain⟨a2,c2,fl,A2,cp2,ns2,h1,h2,PR,G,H⟩:=hcut;go_wp2_with fail;refine(sign_any HE.out H.out.p.s H.out.p.B h2 _).mono ?_;rintro e w3 ⟨a3,c3,rfl,q1,q2,q3,q4,hp⟩;replace H:=aM (H.out.step hp);replace G:=aM (show c3=0->c=0/\a+ns2.length+1<=a3/\∀nm∈ns2,NameT nm/\nm.size<=2000 from fun h0=>⟨(G.out (q4 h0).1).1,by have:=(G.out (q4 h0).1).2.1;have:=(q4 h0).2.1;omega,(G.out (q4 h0).1).2.2⟩);clear hp q4;obtain⟨va,lo,g3,g4⟩:∃(va:Bool) (lo:Int),w3.cell? ⟨E.g,3,none⟩=some (.bool va)/\w3.cell? ⟨E.g,4,none⟩=some (.int .i64 lo):=by
  obtain⟨va,lo,g1,g2⟩:=H.out.p.s;exact⟨va,lo,bC g1 3,bC g1 4⟩
 go_upto_region 12 with fail
 go_region_held3 (fun w'=>w'.cell? ⟨E.g,3,none⟩=some (.bool va)/\w'.cell? ⟨E.g,4,none⟩=some (.int .i64 lo)) (go_keep) (fail)
 replace H:=aM H.out.drew;clear g3 g4;generalize w3.drew=w4 at H|-;have y4:=bC H.out.v3 4;obtain⟨f3,f4⟩:w4.frozen? ⟨E.g,3,none⟩=false/\w4.frozen? ⟨E.g,4,none⟩=false:=by
  obtain⟨va,lo,g1,g2⟩:=H.out.p.s;exact⟨bF g1 3,bF g1 4⟩
 obtain⟨va3,lo3,g3,g4⟩:∃(va:Bool) (lo:Int),w4.cell? ⟨E.g,3,none⟩=some (.bool va)/\w4.cell? ⟨E.g,4,none⟩=some (.int .i64 lo):=by
  obtain⟨va,lo,g1,g2⟩:=H.out.p.s;exact⟨va,lo,bC g1 3,bC g1 4⟩
 go_wp2_with fail;have H2:=aM ((H.out.setg HE.out fl).setl HE.out 0);generalize (w4.setCell ⟨E.g,3,none⟩ (.bool fl)).setCell ⟨E.g,4,none⟩ (.int .i64 0)=w5 at H2|-;clear H y4 f3 f4 g3 g4;have hor:a<a3\/a3=E.n-1:=by
  rcases Nat.lt_or_ge (a+1) E.n with h|h
  ·exact .inl (Nat.lt_of_lt_of_le (PR.out h) q1)
  ·exact .inr (by omega)
 refine(HBLK.out a3 hor q2 _ _ H2.out.p.s H2.out.p.B).mono ?_;rintro e w6 ⟨x,An,cn,Ak,ck,a5,c5,rfl,tx,ox,_,mx,hp⟩;have HSZ:=blk_lt H2.out.v3;have H:=aM (H2.out.step hp);have HK:=aM (KR.lit1 (tx.lower (b':=n1+1) HSZ) (blk_lt H.out.v3));have OX:=aM ox;have MX:=aM mx;have hA:=mx.lt;clear H2 tx ox mx hp HSZ hor;have HX:=aM (H.out.below (bA (bR _ _) (.cells #[.int .i64 x.k,.string x.s,.float .f64 x.x,.int .i64 x.n,.bool x.b,(.slice An x.names.length cn),(.slice Ak x.kids.length ck)] 27)));have y6:=bC HX.out.v3 6;have fy6:=bF HX.out.v3 6;have HG:=aM (HX.out.kids HK.out HE.out HP.out HB0.out (by have:=HN0.out;omega) (by omega));have hgn:¬n1=E.g:=fun e=>by
  obtain⟨va,lo,g1,g2⟩:=H.out.p.s;have:=blk_ne H.out.v3 g1 (by decide);exact this e
 obtain⟨va4,lo4,g3,g4,f3,f4⟩:∃(va:Bool) (lo:Int),((w6.alloc (.cells #[.int .i64 x.k,.string x.s,.float .f64 x.x,.int .i64 x.n,.bool x.b,(.slice An x.names.length cn),(.slice Ak x.kids.length ck)] 27)).setCell ⟨n1,6,none⟩ (.slice (some ⟨w6.heap.size,0,none⟩) 1 1)).cell? ⟨E.g,3,none⟩=some (.bool va)/\((w6.alloc (.cells #[.int .i64 x.k,.string x.s,.float .f64 x.x,.int .i64 x.n,.bool x.b,(.slice An x.names.length cn),(.slice Ak x.kids.length ck)] 27)).setCell ⟨n1,6,none⟩ (.slice (some ⟨w6.heap.size,0,none⟩) 1 1)).cell? ⟨E.g,4,none⟩=some (.int .i64 lo)/\((w6.alloc (.cells #[.int .i64 x.k,.string x.s,.float .f64 x.x,.int .i64 x.n,.bool x.b,(.slice An x.names.length cn),(.slice Ak x.kids.length ck)] 27)).setCell ⟨n1,6,none⟩ (.slice (some ⟨w6.heap.size,0,none⟩) 1 1)).frozen? ⟨E.g,3,none⟩=false/\((w6.alloc (.cells #[.int .i64 x.k,.string x.s,.float .f64 x.x,.int .i64 x.n,.bool x.b,(.slice An x.names.length cn),(.slice Ak x.kids.length ck)] 27)).setCell ⟨n1,6,none⟩ (.slice (some ⟨w6.heap.size,0,none⟩) 1 1)).frozen? ⟨E.g,4,none⟩=false:=by
  obtain⟨va,lo,g1,g2⟩:=HG.out.p.s;exact⟨va,lo,bC g1 3,bC g1 4,bF g1 3,bF g1 4⟩
 go_upto_region 15 with fail;generalize ((w6.alloc (.cells #[.int .i64 x.k,.string x.s,.float .f64 x.x,.int .i64 x.n,.bool x.b,(.slice An x.names.length cn),(.slice Ak x.kids.length ck)] 27)).setCell ⟨n1,6,none⟩ (.slice (some ⟨w6.heap.size,0,none⟩) 1 1))=w7 at HG g3 g4 f3 f4|-;clear H HK HX y6 fy6 hgn;generalize (Value.slice (some ⟨w6.heap.size,0,none⟩) 1 1)=vk at HG|-;obtain⟨Ak2,ck2,rfl⟩:∃A cp,vk = .slice A 1 cp:=HG.out.kr.sl;go_wp2_with fail;have H2:=aM ((HG.out.setg HE.out va).setl HE.out lo);generalize (w7.setCell ⟨E.g,3,none⟩ (.bool va)).setCell ⟨E.g,4,none⟩ (.int .i64 lo)=w8 at H2|-;clear HG g3 g4 f3 f4;refine(word_any HE.out H2.out.p.s H2.out.p.B hA _).mono ?_;rintro e w9 ⟨a6,c6,rfl,r1,r2,r3,r4,hp⟩;have H:=aM (H2.out.step hp);have R4:=aM r4;clear H2 hp r4 r3;obtain⟨y0,y1,y2,y3,y4,y5,y6⟩:=bC7 H.out.v3;obtain⟨z0,z1,z2,z3,z4,z5,z6⟩:=bC7 H.out.v2;obtain⟨fz0,fz1,fz2,fz3,fz4,fz5,fz6⟩:=bF7 H.out.v2;go_wp2_with fail;have HF:=aM (H.out.fin HE.out HP.out HB0.out HN0.out (by omega));generalize (((((((w9.setCell ⟨n0,0,none⟩ (.int .i64 26)).setCell ⟨n0,1,none⟩ (.string ⟨#[]⟩)).setCell ⟨n0,2,none⟩ (.float .f64 0)).setCell ⟨n0,3,none⟩ (.int .i64 0)).setCell ⟨n0,4,none⟩ (.bool fl)).setCell ⟨n0,5,none⟩ (.slice A2 ns2.length cp2)).setCell ⟨n0,6,none⟩ (.slice Ak2 1 ck2))=WF at HF|-;obtain⟨qq0,qq1,qq2,qq3,qq4,qq5,qq6⟩:=bC7 HF.out.2.2;refine bodyPost_ret (v:= .agg #[.int .i64 26,.string ⟨#[]⟩,.float .f64 0,.int .i64 0,.bool fl,.slice A2 ns2.length cp2,.slice Ak2 1 ck2]) (by simp[results,Tryz.results126,go_sem,qq0,qq1,qq2,qq3,qq4,qq5,qq6]) rfl ?_;refine⟨⟨26,⟨#[]⟩,0,0,fl,ns2,[x]⟩,A2,cp2,Ak2,ck2,a6,c6,rfl,HF.out.2.1,.fn rfl (fun h0=>Tx.none (Nat.zero_le _) (by simp) (G.out (MX.out.good (R4.out h0).1).1).2.2) rfl (OX.out.mono (fun h0=>(R4.out h0).1)),rfl,⟨by have:=MX.out.le;omega,r2,fun _ h=>by have:=PR.out h;have:=MX.out.le;omega,fun h0=> ?_⟩,HF.out.1⟩;obtain⟨s1,s2,s3⟩:=R4.out h0;obtain⟨t1,t2⟩:=MX.out.good s1;obtain⟨u1,u2,u3⟩:=G.out t1;have:=MX.out.le;refine⟨u1,?_⟩;simp only[wt_mk,wts];omega
end
end Go.Proofs.YtoimaaonloibfaaGreatDoor.Pa
