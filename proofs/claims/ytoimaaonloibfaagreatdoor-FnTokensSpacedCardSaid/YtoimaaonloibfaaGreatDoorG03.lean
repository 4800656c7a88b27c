/- FnTokensSpaced (part 3): joined texts of this seat: Tn, Leaf9, To, Tp, Tq, Ua, Ub, Uc, Ud, Ue, Uf, Ug, Tz. -/
import Derived.Test.YtoimaaonloibfaaGreatDoorG02
import Derived.Test.YtoimaaonloibfaaGreatDoorG01
set_option linter.unusedVariables false
set_option linter.unusedSimpArgs false
namespace Go.Proofs.YtoimaaonloibfaaGreatDoor.Tk
open Go.RowKit W1 W2 PF Wf
section
variable {w w1 w2:World} {k:Sk} {N b:Nat} {l u r g:List Int}
theorem RS.slt(h:RS w k l):∀x,k.S x->x<w.heap.size:=by
 obtain⟨i,r,n,lb,lr,hb,hf⟩:=h.b;obtain⟨s,ln,co,hg⟩:=h.g;obtain⟨A,hA,_⟩:=hb.r;obtain⟨p,hp⟩:=hb.s;rintro x (rfl|rfl|rfl|rfl)
 ·exact blk_lt hg
 ·exact blk_lt hb.d
 ·exact blk_lt hA
 ·exact blk_lt hp
theorem RS.fresh(h:RS w k l):Bu (w.alloc (.cells #[.slice none 0 0,.int .i64 0,.int .i8 0] 96)) k w.heap.size w.heap.size []:=
 ⟨Lib.fresh_isBuffer 96 5 w,by simp,h.slt,h.E.lt⟩
theorem RS.alloc(h:RS w k l)(o:Obj):RS (w.alloc o) k l:=h.low ((bR w.heap.size w).alloc (Nat.le_refl _) o) h.slt h.E.lt
theorem Kb.new(h:Kb w w1 k N)(o:Obj)(hB:k.B<=w1.heap.size):Kb w (w1.alloc o) k N:=⟨h.b.alloc hB o,h.k.alloc o⟩
theorem Kb.later(h:Kb w w1 k w.heap.size)(h2:Kb w1 w2 k N)(hN:w.heap.size<=N):Kb w w2 k w.heap.size:=h.trans ⟨h2.b,h2.k.mono (fun x hx=>hx.imp id (fun e=>Nat.le_trans hN e))⟩
set_option maxRecDepth 10000 in
set_option maxHeartbeats 2000000 in
theorem skipLine_q{c:List Int}(hc:∀y∈c,y≠10)(h9:hd (c++10::g)≠91)(h:RS w k (c++10::g)):Calls Tryz.prog 44 #[.pointer (some ⟨k.g,0,none⟩),.int .i64 45] w fun e w'=>e = .returned .nilIface/\RS w' k g/\Kb w w' k w.heap.size:=by
 have HH:=aM h;have HK:=aM (Kb.refl w k w.heap.size);have HC0:=aM hc;have y9:(hd (c++10::g)==91)=false:=beq_eq_false_iff_ne.mpr h9;generalize hq:hd (c++10::g)=q at y9;have HQ:=aM hq;clear h hc h9 hq;go_enter Tryz.func44,Tryz.ntmps44
 go_wp2_with fail;refine(peek_q HH.out).mono ?_;rw[HQ.out];rintro e w5 ⟨rfl,h5,k5⟩;replace HK:=aM (HK.out.trans k5.g.kb);replace HH:=aM h5;clear h5 k5;go_wp2_with fail;go_loopg [1] (c.length+2) (fun q v1 wr=>∃(cc:Int) (l2:List Int),v1 = .int .i64 cc/\Aside0 ((cc=10/\l2=g)\/(cc≠10/\∃c2:List Int,l2=c2++10::g/\(∀y∈c2,y≠10)/\q=c2.length+2))/\Aside0 (0<=cc/\cc≠13)/\Aside0 (RS wr k l2)/\Aside0 (Kb w wr k w.heap.size))
 case atStart=>exact⟨45,_,rfl,⟨.inr ⟨by decide,c,rfl,HC0.out,rfl⟩⟩,⟨by decide,by decide⟩,HH,HK⟩
 case round=>
  clear HH HK;obtain⟨cc,l2,rfl,HA,HR,HH,HK⟩:=hrel;have y1:(cc==13)=false:=beq_eq_false_iff_ne.mpr HR.out.2;have y2:¬cc<0:=by have:=HR.out.1;omega
  rcases HA.out with⟨h1,h2⟩|⟨h1,c2,h2,h3,h4⟩
  ·subst h1
   go_wp2_with fail;go_ret;rw[h2] at HH;exact⟨rfl,HH.out,HK.out⟩
  ·have y3:(cc==10)=false:=beq_eq_false_iff_ne.mpr h1
   have HC2:=aM h3;have HQ2:=aM h4;clear h1 h3 h4 HA
   match c2,h2,HC2,HQ2 with
   |[],h2,HC2,HQ2=>
    subst h2;have HH2:Aside0 (RS wr k (10::g)):=HH;clear HH;have HH:=HH2;clear HH2;have HQ:=aM (show hd (10::g)=10 from rfl);have HT:=aM (show(10::g).tail=g from rfl);go_wp2_with fail;refine(next_q HH.out).mono ?_;rw[HQ.out];rintro e w5 ⟨rfl,h5,k5⟩;rw[HT.out] at h5;replace HK:=aM (HK.out.trans k5.kb);replace HH:=aM h5;clear h5 k5;go_wp2_with fail;go_roundg 0
    case measure=>have:=HQ2.out;omega
    case rel=>exact⟨10,g,rfl,⟨.inl ⟨rfl,rfl⟩⟩,⟨by decide,by decide⟩,HH,HK⟩
   |c3::c4,h2,HC2,HQ2=>
    subst h2;have HH2:Aside0 (RS wr k (c3::(c4++10::g))):=HH;clear HH;have HH:=HH2;clear HH2;have HR2:=aM (show 0<=c3/\c3≠13 from⟨(hd_ne HH.out).1,HH.out.c c3 (by simp)⟩);have HQ:=aM (show hd (c3::(c4++10::g))=c3 from rfl);have HT:=aM (show(c3::(c4++10::g)).tail=c4++10::g from rfl);go_wp2_with fail;refine(next_q HH.out).mono ?_;rw[HQ.out];rintro e w5 ⟨rfl,h5,k5⟩;rw[HT.out] at h5;replace HK:=aM (HK.out.trans k5.kb);replace HH:=aM h5;clear h5 k5;go_wp2_with fail;go_roundg (c4.length+2)
    case measure=>have:=HQ2.out;simp at this;omega
    case rel=>exact⟨c3,c4++10::g,rfl,⟨.inr ⟨HC2.out c3 (by simp),c4,rfl,fun y hy=>HC2.out y (by simp[hy]),rfl⟩⟩,HR2,HH,HK⟩
set_option maxRecDepth 10000 in
set_option maxHeartbeats 2000000 in
theorem skipLong_q(n:Nat)(x:Int)(L:List Int)(hx:x≠10)(hm:mend n none (x::l)=some r)(hL:L=List.replicate n 61++91::x::l)(h:RS w k (91::L)):Calls Tryz.prog 44 #[.pointer (some ⟨k.g,0,none⟩),.int .i64 45] w fun e w'=>e = .returned .nilIface/\RS w' k r/\Kb w w' k w.heap.size:=by
 have HH:=aM h;have HK:=aM (Kb.refl w k w.heap.size);have HLL:=aM (show L.length<=2001 by have:=len_of h;simp at this;omega);have HX:=aM hx;have HM:=aM hm;have HL:=aM hL;have HQ:=aM (show hd (91::L)=91 from rfl);have HT:=aM (show(91::L).tail=L from rfl);have hq:hd L=91\/hd L=61:=by
  rw[hL]
  cases n with
  |zero=>exact .inl rfl
  |succ n=>exact .inr rfl
 generalize hq0:hd L=q at hq;have HQ0:=aM hq0;clear h hx hm hL hq0;rcases hq with rfl|rfl
 ·go_enter Tryz.func44,Tryz.ntmps44
  go_wp2_with fail;refine(peek_q HH.out).mono ?_;rw[HQ.out];rintro e w5 ⟨rfl,h5,k5⟩;replace HK:=aM (HK.out.trans k5.g.kb);replace HH:=aM h5;clear h5 k5;go_wp2_with fail;refine(next_q HH.out).mono ?_;rw[HQ.out];rintro e w5 ⟨rfl,h5,k5⟩;rw[HT.out] at h5;replace HK:=aM (HK.out.trans k5.kb);replace HH:=aM h5;clear h5 k5;go_wp2_with fail;refine(peek_q HH.out).mono ?_;rw[HQ0.out];rintro e w5 ⟨rfl,h5,k5⟩;replace HK:=aM (HK.out.trans k5.g.kb);replace HH:=aM h5;clear h5 k5;have HSZ:=aM HK.out.b.size;go_wp2_with fail;have HU:=aM HH.out.fresh;have HHn:=aM (HH.out.alloc (.cells #[.slice none 0 0,.int .i64 0,.int .i8 0] 96));have HKn:=aM (HK.out.new (.cells #[.slice none 0 0,.int .i64 0,.int .i8 0] 96) HH.out.E.lt);clear HH HK;refine(next_q HHn.out).mono ?_;rw[HQ0.out];rintro e w6 ⟨rfl,h5,k5⟩;have HK:=aM (HKn.out.trans k5.kb);have HU2:=aM (HU.out.kg k5);have HH:=aM h5;clear h5 k5 HHn HKn HU;have HSM:=aM (scanMulti_q n x L HX.out HM.out HL.out HH.out HLL.out HU2.out (by simp));rw[HQ0.out] at HSM;go_wp2_with fail;refine HSM.out.mono ?_;rintro e w7 ⟨rfl,h5,_,k5⟩;have HKn:=aM (HK.out.later k5 HSZ.out);have HHn:=aM h5;clear h5 k5;go_wp2_with fail;go_ret;exact⟨rfl,HHn.out,HKn.out⟩
 ·go_enter Tryz.func44,Tryz.ntmps44
  go_wp2_with fail;refine(peek_q HH.out).mono ?_;rw[HQ.out];rintro e w5 ⟨rfl,h5,k5⟩;replace HK:=aM (HK.out.trans k5.g.kb);replace HH:=aM h5;clear h5 k5;go_wp2_with fail;refine(next_q HH.out).mono ?_;rw[HQ.out];rintro e w5 ⟨rfl,h5,k5⟩;rw[HT.out] at h5;replace HK:=aM (HK.out.trans k5.kb);replace HH:=aM h5;clear h5 k5;go_wp2_with fail;refine(peek_q HH.out).mono ?_;rw[HQ0.out];rintro e w5 ⟨rfl,h5,k5⟩;replace HK:=aM (HK.out.trans k5.g.kb);replace HH:=aM h5;clear h5 k5;go_wp2_with fail;refine(peek_q HH.out).mono ?_;rw[HQ0.out];rintro e w5 ⟨rfl,h5,k5⟩;replace HK:=aM (HK.out.trans k5.g.kb);replace HH:=aM h5;clear h5 k5;have HSZ:=aM HK.out.b.size;go_wp2_with fail;have HU:=aM HH.out.fresh;have HHn:=aM (HH.out.alloc (.cells #[.slice none 0 0,.int .i64 0,.int .i8 0] 96));have HKn:=aM (HK.out.new (.cells #[.slice none 0 0,.int .i64 0,.int .i8 0] 96) HH.out.E.lt);clear HH HK;refine(next_q HHn.out).mono ?_;rw[HQ0.out];rintro e w6 ⟨rfl,h5,k5⟩;have HK:=aM (HKn.out.trans k5.kb);have HU2:=aM (HU.out.kg k5);have HH:=aM h5;clear h5 k5 HHn HKn HU;have HSM:=aM (scanMulti_q n x L HX.out HM.out HL.out HH.out HLL.out HU2.out (by simp));rw[HQ0.out] at HSM;go_wp2_with fail;refine HSM.out.mono ?_;rintro e w7 ⟨rfl,h5,_,k5⟩;have HKn:=aM (HK.out.later k5 HSZ.out);have HHn:=aM h5;clear h5 k5;go_wp2_with fail;go_ret;exact⟨rfl,HHn.out,HKn.out⟩
end
end Go.Proofs.YtoimaaonloibfaaGreatDoor.Tk
namespace Go.Proofs.YtoimaaonloibfaaGreatDoor.PF
open Go.RowKit W1 W2 W3
attribute [local go_sem] max2_int min2_int max_two min_two max_three min_three max_four min_four
def impl_word.f(a0:Int):Option (ByteArray):=if a0=57346 then(some (⟨#[97,110,100]⟩:ByteArray)) else(if a0=57347 then(some (⟨#[98,114,101,97,107]⟩:ByteArray)) else(if a0=57348 then(some (⟨#[100,111]⟩:ByteArray)) else(if a0=57349 then(some (⟨#[101,108,115,101]⟩:ByteArray)) else(if a0=57350 then(some (⟨#[101,108,115,101,105,102]⟩:ByteArray)) else(if a0=57351 then(some (⟨#[101,110,100]⟩:ByteArray)) else(if a0=57352 then(some (⟨#[102,97,108,115,101]⟩:ByteArray)) else(if a0=57353 then(some (⟨#[102,111,114]⟩:ByteArray)) else(if a0=57354 then(some (⟨#[102,117,110,99,116,105,111,110]⟩:ByteArray)) else(if a0=57355 then(some (⟨#[105,102]⟩:ByteArray)) else(if a0=57356 then(some (⟨#[105,110]⟩:ByteArray)) else(if a0=57357 then(some (⟨#[108,111,99,97,108]⟩:ByteArray)) else(if a0=57358 then(some (⟨#[110,105,108]⟩:ByteArray)) else(if a0=57359 then(some (⟨#[110,111,116]⟩:ByteArray)) else(if a0=57360 then(some (⟨#[111,114]⟩:ByteArray)) else(if a0=57361 then(some (⟨#[114,101,116,117,114,110]⟩:ByteArray)) else(if a0=57362 then(some (⟨#[114,101,112,101,97,116]⟩:ByteArray)) else(if a0=57363 then(some (⟨#[116,104,101,110]⟩:ByteArray)) else(if a0=57364 then(some (⟨#[116,114,117,101]⟩:ByteArray)) else(if a0=57365 then(some (⟨#[117,110,116,105,108]⟩:ByteArray)) else(if a0=57366 then(some (⟨#[119,104,105,108,101]⟩:ByteArray)) else(some (⟨#[]⟩:ByteArray))))))))))))))))))))))
set_option maxHeartbeats 8000000 in
set_option maxRecDepth 100000 in
theorem impl_word.calls(a0:Int)(r:ByteArray)(w:World)(h:impl_word.f a0=some r):
  Calls Tryz.prog 51 #[.int .i64 a0] w fun e w'=>e = .returned (.string r)/\Drawn0 w w':=by
 have H:(if a0=57346 then(some (⟨#[97,110,100]⟩:ByteArray)) else(if a0=57347 then(some (⟨#[98,114,101,97,107]⟩:ByteArray)) else(if a0=57348 then(some (⟨#[100,111]⟩:ByteArray)) else(if a0=57349 then(some (⟨#[101,108,115,101]⟩:ByteArray)) else(if a0=57350 then(some (⟨#[101,108,115,101,105,102]⟩:ByteArray)) else(if a0=57351 then(some (⟨#[101,110,100]⟩:ByteArray)) else(if a0=57352 then(some (⟨#[102,97,108,115,101]⟩:ByteArray)) else(if a0=57353 then(some (⟨#[102,111,114]⟩:ByteArray)) else(if a0=57354 then(some (⟨#[102,117,110,99,116,105,111,110]⟩:ByteArray)) else(if a0=57355 then(some (⟨#[105,102]⟩:ByteArray)) else(if a0=57356 then(some (⟨#[105,110]⟩:ByteArray)) else(if a0=57357 then(some (⟨#[108,111,99,97,108]⟩:ByteArray)) else(if a0=57358 then(some (⟨#[110,105,108]⟩:ByteArray)) else(if a0=57359 then(some (⟨#[110,111,116]⟩:ByteArray)) else(if a0=57360 then(some (⟨#[111,114]⟩:ByteArray)) else(if a0=57361 then(some (⟨#[114,101,116,117,114,110]⟩:ByteArray)) else(if a0=57362 then(some (⟨#[114,101,112,101,97,116]⟩:ByteArray)) else(if a0=57363 then(some (⟨#[116,104,101,110]⟩:ByteArray)) else(if a0=57364 then(some (⟨#[116,114,117,101]⟩:ByteArray)) else(if a0=57365 then(some (⟨#[117,110,116,105,108]⟩:ByteArray)) else(if a0=57366 then(some (⟨#[119,104,105,108,101]⟩:ByteArray)) else(some (⟨#[]⟩:ByteArray)))))))))))))))))))))))=some r:=h;clear h
 by_cases c2:a0=57346
 ·rw[if_pos c2] at H
  have c2b0:(a0==57346)=true:=beq_iff_eq.mpr c2;have c2b1:(a0 != 57346)=false:=bne_eq_false_iff_eq.mpr c2;clear c2;obtain rfl:=Option.some.inj H;go_enter Tryz.func51,Tryz.ntmps51
  go_wp2
  go_ret;exact⟨by first|rfl|(simp;done)|(simp[*];done),by repeat (first|exact Drawn0.refl _|apply Drawn0.step)⟩
 ·rw[if_neg c2] at H
  have c2b0:(a0==57346)=false:=beq_eq_false_iff_ne.mpr c2;have c2b1:(a0 != 57346)=true:=bne_iff_ne.mpr c2
  by_cases c3:a0=57347
  ·rw[if_pos c3] at H
   have c3b0:(a0==57347)=true:=beq_iff_eq.mpr c3;have c3b1:(a0 != 57347)=false:=bne_eq_false_iff_eq.mpr c3;clear c3;obtain rfl:=Option.some.inj H;go_enter Tryz.func51,Tryz.ntmps51
   go_wp2
   go_ret;exact⟨by first|rfl|(simp;done)|(simp[*];done),by repeat (first|exact Drawn0.refl _|apply Drawn0.step)⟩
  ·rw[if_neg c3] at H
   have c3b0:(a0==57347)=false:=beq_eq_false_iff_ne.mpr c3;have c3b1:(a0 != 57347)=true:=bne_iff_ne.mpr c3
   by_cases c4:a0=57348
   ·rw[if_pos c4] at H
    have c4b0:(a0==57348)=true:=beq_iff_eq.mpr c4;have c4b1:(a0 != 57348)=false:=bne_eq_false_iff_eq.mpr c4;clear c4;obtain rfl:=Option.some.inj H;go_enter Tryz.func51,Tryz.ntmps51
    go_wp2
    go_ret;exact⟨by first|rfl|(simp;done)|(simp[*];done),by repeat (first|exact Drawn0.refl _|apply Drawn0.step)⟩
   ·rw[if_neg c4] at H
    have c4b0:(a0==57348)=false:=beq_eq_false_iff_ne.mpr c4;have c4b1:(a0 != 57348)=true:=bne_iff_ne.mpr c4
    by_cases c5:a0=57349
    ·rw[if_pos c5] at H
     have c5b0:(a0==57349)=true:=beq_iff_eq.mpr c5;have c5b1:(a0 != 57349)=false:=bne_eq_false_iff_eq.mpr c5;clear c5;obtain rfl:=Option.some.inj H;go_enter Tryz.func51,Tryz.ntmps51
     go_wp2
     go_ret;exact⟨by first|rfl|(simp;done)|(simp[*];done),by repeat (first|exact Drawn0.refl _|apply Drawn0.step)⟩
    ·rw[if_neg c5] at H
     have c5b0:(a0==57349)=false:=beq_eq_false_iff_ne.mpr c5;have c5b1:(a0 != 57349)=true:=bne_iff_ne.mpr c5
     by_cases c6:a0=57350
     ·rw[if_pos c6] at H
      have c6b0:(a0==57350)=true:=beq_iff_eq.mpr c6;have c6b1:(a0 != 57350)=false:=bne_eq_false_iff_eq.mpr c6;clear c6;obtain rfl:=Option.some.inj H;go_enter Tryz.func51,Tryz.ntmps51
      go_wp2
      go_ret;exact⟨by first|rfl|(simp;done)|(simp[*];done),by repeat (first|exact Drawn0.refl _|apply Drawn0.step)⟩
     ·rw[if_neg c6] at H
      have c6b0:(a0==57350)=false:=beq_eq_false_iff_ne.mpr c6;have c6b1:(a0 != 57350)=true:=bne_iff_ne.mpr c6
      by_cases c7:a0=57351
      ·rw[if_pos c7] at H
       have c7b0:(a0==57351)=true:=beq_iff_eq.mpr c7;have c7b1:(a0 != 57351)=false:=bne_eq_false_iff_eq.mpr c7;clear c7;obtain rfl:=Option.some.inj H;go_enter Tryz.func51,Tryz.ntmps51
       go_wp2
       go_ret;exact⟨by first|rfl|(simp;done)|(simp[*];done),by repeat (first|exact Drawn0.refl _|apply Drawn0.step)⟩
      ·rw[if_neg c7] at H
       have c7b0:(a0==57351)=false:=beq_eq_false_iff_ne.mpr c7;have c7b1:(a0 != 57351)=true:=bne_iff_ne.mpr c7
       by_cases c8:a0=57352
       ·rw[if_pos c8] at H
        have c8b0:(a0==57352)=true:=beq_iff_eq.mpr c8;have c8b1:(a0 != 57352)=false:=bne_eq_false_iff_eq.mpr c8;clear c8;obtain rfl:=Option.some.inj H;go_enter Tryz.func51,Tryz.ntmps51
        go_wp2
        go_ret;exact⟨by first|rfl|(simp;done)|(simp[*];done),by repeat (first|exact Drawn0.refl _|apply Drawn0.step)⟩
       ·rw[if_neg c8] at H
        have c8b0:(a0==57352)=false:=beq_eq_false_iff_ne.mpr c8;have c8b1:(a0 != 57352)=true:=bne_iff_ne.mpr c8
        by_cases c9:a0=57353
        ·rw[if_pos c9] at H
         have c9b0:(a0==57353)=true:=beq_iff_eq.mpr c9;have c9b1:(a0 != 57353)=false:=bne_eq_false_iff_eq.mpr c9;clear c9;obtain rfl:=Option.some.inj H;go_enter Tryz.func51,Tryz.ntmps51
         go_wp2
         go_ret;exact⟨by first|rfl|(simp;done)|(simp[*];done),by repeat (first|exact Drawn0.refl _|apply Drawn0.step)⟩
        ·rw[if_neg c9] at H
         have c9b0:(a0==57353)=false:=beq_eq_false_iff_ne.mpr c9;have c9b1:(a0 != 57353)=true:=bne_iff_ne.mpr c9
         by_cases c10:a0=57354
         ·rw[if_pos c10] at H
          have c10b0:(a0==57354)=true:=beq_iff_eq.mpr c10;have c10b1:(a0 != 57354)=false:=bne_eq_false_iff_eq.mpr c10;clear c10;obtain rfl:=Option.some.inj H;go_enter Tryz.func51,Tryz.ntmps51
          go_wp2
          go_ret;exact⟨by first|rfl|(simp;done)|(simp[*];done),by repeat (first|exact Drawn0.refl _|apply Drawn0.step)⟩
         ·rw[if_neg c10] at H
          have c10b0:(a0==57354)=false:=beq_eq_false_iff_ne.mpr c10;have c10b1:(a0 != 57354)=true:=bne_iff_ne.mpr c10
          by_cases c11:a0=57355
          ·rw[if_pos c11] at H
           have c11b0:(a0==57355)=true:=beq_iff_eq.mpr c11;have c11b1:(a0 != 57355)=false:=bne_eq_false_iff_eq.mpr c11;clear c11;obtain rfl:=Option.some.inj H;go_enter Tryz.func51,Tryz.ntmps51
           go_wp2
           go_ret;exact⟨by first|rfl|(simp;done)|(simp[*];done),by repeat (first|exact Drawn0.refl _|apply Drawn0.step)⟩
          ·rw[if_neg c11] at H
           have c11b0:(a0==57355)=false:=beq_eq_false_iff_ne.mpr c11;have c11b1:(a0 != 57355)=true:=bne_iff_ne.mpr c11
           by_cases c12:a0=57356
           ·rw[if_pos c12] at H
            have c12b0:(a0==57356)=true:=beq_iff_eq.mpr c12;have c12b1:(a0 != 57356)=false:=bne_eq_false_iff_eq.mpr c12;clear c12;obtain rfl:=Option.some.inj H;go_enter Tryz.func51,Tryz.ntmps51
            go_wp2
            go_ret;exact⟨by first|rfl|(simp;done)|(simp[*];done),by repeat (first|exact Drawn0.refl _|apply Drawn0.step)⟩
           ·rw[if_neg c12] at H
            have c12b0:(a0==57356)=false:=beq_eq_false_iff_ne.mpr c12;have c12b1:(a0 != 57356)=true:=bne_iff_ne.mpr c12
            by_cases c13:a0=57357
            ·rw[if_pos c13] at H
             have c13b0:(a0==57357)=true:=beq_iff_eq.mpr c13;have c13b1:(a0 != 57357)=false:=bne_eq_false_iff_eq.mpr c13;clear c13;obtain rfl:=Option.some.inj H;go_enter Tryz.func51,Tryz.ntmps51
             go_wp2
             go_ret;exact⟨by first|rfl|(simp;done)|(simp[*];done),by repeat (first|exact Drawn0.refl _|apply Drawn0.step)⟩
            ·rw[if_neg c13] at H
             have c13b0:(a0==57357)=false:=beq_eq_false_iff_ne.mpr c13;have c13b1:(a0 != 57357)=true:=bne_iff_ne.mpr c13
             by_cases c14:a0=57358
             ·rw[if_pos c14] at H
              have c14b0:(a0==57358)=true:=beq_iff_eq.mpr c14;have c14b1:(a0 != 57358)=false:=bne_eq_false_iff_eq.mpr c14;clear c14;obtain rfl:=Option.some.inj H;go_enter Tryz.func51,Tryz.ntmps51
              go_wp2
              go_ret;exact⟨by first|rfl|(simp;done)|(simp[*];done),by repeat (first|exact Drawn0.refl _|apply Drawn0.step)⟩
             ·rw[if_neg c14] at H
              have c14b0:(a0==57358)=false:=beq_eq_false_iff_ne.mpr c14;have c14b1:(a0 != 57358)=true:=bne_iff_ne.mpr c14
              by_cases c15:a0=57359
              ·rw[if_pos c15] at H
               have c15b0:(a0==57359)=true:=beq_iff_eq.mpr c15;have c15b1:(a0 != 57359)=false:=bne_eq_false_iff_eq.mpr c15;clear c15;obtain rfl:=Option.some.inj H;go_enter Tryz.func51,Tryz.ntmps51
               go_wp2
               go_ret;exact⟨by first|rfl|(simp;done)|(simp[*];done),by repeat (first|exact Drawn0.refl _|apply Drawn0.step)⟩
              ·rw[if_neg c15] at H
               have c15b0:(a0==57359)=false:=beq_eq_false_iff_ne.mpr c15;have c15b1:(a0 != 57359)=true:=bne_iff_ne.mpr c15
               by_cases c16:a0=57360
               ·rw[if_pos c16] at H
                have c16b0:(a0==57360)=true:=beq_iff_eq.mpr c16;have c16b1:(a0 != 57360)=false:=bne_eq_false_iff_eq.mpr c16;clear c16;obtain rfl:=Option.some.inj H;go_enter Tryz.func51,Tryz.ntmps51
                go_wp2
                go_ret;exact⟨by first|rfl|(simp;done)|(simp[*];done),by repeat (first|exact Drawn0.refl _|apply Drawn0.step)⟩
               ·rw[if_neg c16] at H
                have c16b0:(a0==57360)=false:=beq_eq_false_iff_ne.mpr c16;have c16b1:(a0 != 57360)=true:=bne_iff_ne.mpr c16
                by_cases c17:a0=57361
                ·rw[if_pos c17] at H
                 have c17b0:(a0==57361)=true:=beq_iff_eq.mpr c17;have c17b1:(a0 != 57361)=false:=bne_eq_false_iff_eq.mpr c17;clear c17;obtain rfl:=Option.some.inj H;go_enter Tryz.func51,Tryz.ntmps51
                 go_wp2
                 go_ret;exact⟨by first|rfl|(simp;done)|(simp[*];done),by repeat (first|exact Drawn0.refl _|apply Drawn0.step)⟩
                ·rw[if_neg c17] at H
                 have c17b0:(a0==57361)=false:=beq_eq_false_iff_ne.mpr c17;have c17b1:(a0 != 57361)=true:=bne_iff_ne.mpr c17
                 by_cases c18:a0=57362
                 ·rw[if_pos c18] at H
                  have c18b0:(a0==57362)=true:=beq_iff_eq.mpr c18;have c18b1:(a0 != 57362)=false:=bne_eq_false_iff_eq.mpr c18;clear c18;obtain rfl:=Option.some.inj H;go_enter Tryz.func51,Tryz.ntmps51
                  go_wp2
                  go_ret;exact⟨by first|rfl|(simp;done)|(simp[*];done),by repeat (first|exact Drawn0.refl _|apply Drawn0.step)⟩
                 ·rw[if_neg c18] at H
                  have c18b0:(a0==57362)=false:=beq_eq_false_iff_ne.mpr c18;have c18b1:(a0 != 57362)=true:=bne_iff_ne.mpr c18
                  by_cases c19:a0=57363
                  ·rw[if_pos c19] at H
                   have c19b0:(a0==57363)=true:=beq_iff_eq.mpr c19;have c19b1:(a0 != 57363)=false:=bne_eq_false_iff_eq.mpr c19;clear c19;obtain rfl:=Option.some.inj H;go_enter Tryz.func51,Tryz.ntmps51
                   go_wp2
                   go_ret;exact⟨by first|rfl|(simp;done)|(simp[*];done),by repeat (first|exact Drawn0.refl _|apply Drawn0.step)⟩
                  ·rw[if_neg c19] at H
                   have c19b0:(a0==57363)=false:=beq_eq_false_iff_ne.mpr c19;have c19b1:(a0 != 57363)=true:=bne_iff_ne.mpr c19
                   by_cases c20:a0=57364
                   ·rw[if_pos c20] at H
                    have c20b0:(a0==57364)=true:=beq_iff_eq.mpr c20;have c20b1:(a0 != 57364)=false:=bne_eq_false_iff_eq.mpr c20;clear c20;obtain rfl:=Option.some.inj H;go_enter Tryz.func51,Tryz.ntmps51
                    go_wp2
                    go_ret;exact⟨by first|rfl|(simp;done)|(simp[*];done),by repeat (first|exact Drawn0.refl _|apply Drawn0.step)⟩
                   ·rw[if_neg c20] at H
                    have c20b0:(a0==57364)=false:=beq_eq_false_iff_ne.mpr c20;have c20b1:(a0 != 57364)=true:=bne_iff_ne.mpr c20
                    by_cases c21:a0=57365
                    ·rw[if_pos c21] at H
                     have c21b0:(a0==57365)=true:=beq_iff_eq.mpr c21;have c21b1:(a0 != 57365)=false:=bne_eq_false_iff_eq.mpr c21;clear c21;obtain rfl:=Option.some.inj H;go_enter Tryz.func51,Tryz.ntmps51
                     go_wp2
                     go_ret;exact⟨by first|rfl|(simp;done)|(simp[*];done),by repeat (first|exact Drawn0.refl _|apply Drawn0.step)⟩
                    ·rw[if_neg c21] at H
                     have c21b0:(a0==57365)=false:=beq_eq_false_iff_ne.mpr c21;have c21b1:(a0 != 57365)=true:=bne_iff_ne.mpr c21
                     by_cases c22:a0=57366
                     ·rw[if_pos c22] at H
                      have c22b0:(a0==57366)=true:=beq_iff_eq.mpr c22;have c22b1:(a0 != 57366)=false:=bne_eq_false_iff_eq.mpr c22;clear c22;obtain rfl:=Option.some.inj H;go_enter Tryz.func51,Tryz.ntmps51
                      go_wp2
                      go_ret;exact⟨by first|rfl|(simp;done)|(simp[*];done),by repeat (first|exact Drawn0.refl _|apply Drawn0.step)⟩
                     ·rw[if_neg c22] at H
                      have c22b0:(a0==57366)=false:=beq_eq_false_iff_ne.mpr c22;have c22b1:(a0 != 57366)=true:=bne_iff_ne.mpr c22;obtain rfl:=Option.some.inj H;go_enter Tryz.func51,Tryz.ntmps51
                      go_wp2
                      go_ret;exact⟨by first|rfl|(simp;done)|(simp[*];done),by repeat (first|exact Drawn0.refl _|apply Drawn0.step)⟩
end Go.Proofs.YtoimaaonloibfaaGreatDoor.PF
namespace Go.Proofs.YtoimaaonloibfaaGreatDoor.Tk
open Go.RowKit W1 W2 PF Wf
section
variable {w w1 w2:World} {k:Sk} {N b:Nat} {l u r g:List Int}
def sgn(c:Int):ByteArray:=if c=57368 then⟨#[61,61]⟩ else if c=57369 then⟨#[126,61]⟩ else if c=57370 then⟨#[60,61]⟩ else if c=57371 then⟨#[62,61]⟩ else if c=57372 then⟨#[46,46]⟩ else if c=57373 then⟨#[46,46,46]⟩ else Utf8.encode c
set_option maxRecDepth 10000 in
theorem sign_q(c:Int)(h0: -1<=c)(h1:c<=100000):Calls Tryz.prog 52 #[.int .i64 c] w fun e w'=>e = .returned (.string (sgn c))/\Below w.heap.size w w':=by
 obtain⟨S,hS⟩:∃S,S=sgn c:=⟨_,rfl⟩;rw[<-hS];have HS:=aM hS;have HC:=aM h0;clear hS h0;go_enter Tryz.func52,Tryz.ntmps52
 go_wp2_with fail
 all_goals
  go_ret;refine⟨?_,bR _ _⟩;rw[HS.out];have hw:wrap32 c=c:=IntWalk.wrap32_in _ (by have:=HC.out;omega);unfold sgn
  simp_all
set_option maxRecDepth 10000 in
theorem tokName_q(c:Int)(h0: -1<=c)(h1:c<=100000)(hT:∀j,j<56->∃s,w.cell? ⟨1,j,none⟩=some (.string s)):Calls Tryz.prog 50 #[.int .i64 c] w fun e w'=>(∃s,e = .returned (.string s))/\Below w.heap.size w w':=by
 have hcv:∀v:Int,(convert 41 9 (.slice (some ⟨w.heap.size,0,none⟩) 1 1)).run Tryz.prog (w.alloc (.cells #[.int .u8 v] 5)) = .ok (.string (strOfNums [v])) (w.alloc (.cells #[.int .u8 v] 5)):=fun v=>
  own_string (P:=Tryz.prog) Tryz.underlying41 Tryz.underlying5 Tryz.underlying9 (own_lit w w.heap.size 5 .u8 [v] (Nat.le_refl _) (by simp))
 have HB:Aside0 (∀o,Below w.heap.size w (w.alloc o)):=⟨fun o=>(bR _ w).alloc (Nat.le_refl _) o⟩
 by_cases hc:57346<=c/\c<57402
 ·obtain⟨j,hj,rfl⟩:∃j:Nat,j<56/\c=57346+(j:Int):=⟨(c-57346).toNat,by omega,by omega⟩
  obtain⟨s,hs⟩:=hT j hj;have q1:IntKind.i64.wrap (57346+(j:Int)-57346)=(j:Int):=by rw[show 57346+(j:Int)-57346=j by omega];exact IntWalk.i64_in _ (by omega)
  have y1:(57346+(j:Int))>=57346:=by omega
  have y2:(j:Int)<56:=by omega
  have y3:(0:Int)<=(j:Int):=by omega
  have y4:((j:Int)).toNat=j:=by omega
  clear hc h0 h1 hT;go_enter Tryz.func50,Tryz.ntmps50
  go_wp2_with fail
  all_goals
   go_ret
   first|exact⟨⟨_,rfl⟩,HB.out _⟩|exact⟨⟨_,rfl⟩,bR _ _⟩
 ·by_cases hc2:57346<=c
  ·have y1:c>=57346:=hc2
   have q1:IntKind.i64.wrap (c-57346)=c-57346:=IntWalk.i64_in _ (by omega);have y2:¬c-57346<56:=by omega
   clear hc hT;go_enter Tryz.func50,Tryz.ntmps50
   go_wp2_with fail
   all_goals
    go_ret
    first|exact⟨⟨_,rfl⟩,HB.out _⟩|exact⟨⟨_,rfl⟩,bR _ _⟩
  ·have y1:¬c>=57346:=hc2
   clear hc hT;go_enter Tryz.func50,Tryz.ntmps50
   go_wp2_with fail
   all_goals
    go_ret
    first|exact⟨⟨_,rfl⟩,HB.out _⟩|exact⟨⟨_,rfl⟩,bR _ _⟩
theorem some_ite{α:Type}{p:Prop}[Decidable p]{a b:Option α}(ha:∃r,a=some r)(hb:∃r,b=some r):∃r,(if p then a else b)=some r:=by
 split
 ·exact ha
 ·exact hb
theorem word_some(c:Int):∃r,impl_word.f c=some r:=by
 unfold impl_word.f
 repeat' (first|exact⟨_,rfl⟩|refine some_ite ?_ ?_)
def wdF(c:Int):ByteArray:=(impl_word.f c).getD ⟨#[]⟩
theorem word_f(c:Int):impl_word.f c=some (wdF c):=by
 obtain⟨r,h⟩:=word_some c;unfold wdF;rw[h]
 rfl
def tkF(c:Int)(s:ByteArray):Int×ByteArray:=if c=57375 then(1,s) else if c=57376 then(4,s) else if c=57377 then(5,s) else if(wdF c).toList.isEmpty=false then(2,wdF c) else(3,sgn c)
theorem res19{W:World}{R:Nat}{a:Int}{s:ByteArray}(hv:W.heap[R]? = some (.cells #[.int .i64 a,.string s,.int .i64 0] 51 (0,0)))(tmps:Array Value)(h4:tmps.getD 4 undef = .pointer (some ⟨R,0,none⟩)):(results Tryz.f19 tmps).run Tryz.prog W = .ok (.agg #[.int .i64 a,.string s,.int .i64 0]) W:=by
 have v0:W.cell? ⟨R,0,none⟩=some (.int .i64 a):=bC hv 0;have v1:W.cell? ⟨R,1,none⟩=some (.string s):=bC hv 1;have v2:W.cell? ⟨R,2,none⟩=some (.int .i64 0):=bC hv 2;have h4':tmps[4]?.getD undef = .pointer (some ⟨R,0,none⟩):=by simpa using h4
 simp[results,Tryz.results19,go_sem,h4',v0,v1,v2]
set_option maxRecDepth 10000 in
set_option maxHeartbeats 1000000 in
theorem token_q(c:Int)(s:ByteArray)(h0: -1<=c)(h1:c<=100000):Calls Tryz.prog 19 #[.int .i64 c,.string s] w fun e w'=>e = .returned (.agg #[.int .i64 (tkF c s).1,.string (tkF c s).2,.int .i64 0])/\Below w.heap.size w w':=by
 have HW:=aM (word_f c);have HSG:=aM (fun(w1:World)=>sign_q (w:=w1) c h0 h1);have HV:=aM (blk_new w (.cells #[.int .i64 0,.string ⟨#[]⟩,.int .i64 0] 51));have HB:=aM ((bR _ w).alloc (Nat.le_refl _) (.cells #[.int .i64 0,.string ⟨#[]⟩,.int .i64 0] 51));obtain⟨K,hK⟩:∃K,K=(tkF c s).1:=⟨_,rfl⟩;obtain⟨S,hS⟩:∃S,S=(tkF c s).2:=⟨_,rfl⟩;rw[<-hK,<-hS];have HK:=aM hK;have HS:=aM hS;clear hK hS;go_enter Tryz.func19,Tryz.ntmps19
 go_wp2_with fail;generalize hR:w.heap.size=R at HV HB|-;have HR:=aM hR;clear hR;generalize w.alloc _=wA at HV HB|-;refine(impl_word.calls c _ _ HW.out).mono ?_;rintro e w5 ⟨rfl,⟨nd,rfl⟩⟩;have HB2:=aM (pD HB.out nd);have HVd:Aside0 ((wA.drewN nd).heap[R]? = some (.cells #[.int .i64 0,.string ⟨#[]⟩,.int .i64 0] 51 (0,0))):=⟨HV.out⟩;obtain⟨v0,v1,v2⟩:=bC3 HV.out;obtain⟨f0,f1,f2⟩:=bF3 HV.out;go_wp2_with fail
 ·refine bodyPost_ret (res19 (blk_set (blk_set (blk_set HVd.out 0 _) 1 _) 2 _) _ rfl) rfl ?_
  refine⟨?_,?_⟩
  ·rw[HK.out,HS.out]
   unfold tkF
   simp_all
  ·have h1:=HB2.out
   have h2:=HR.out;subst h2;exact((h1.setCell (p:=⟨_,0,none⟩) (Nat.le_refl _) _).setCell (p:=⟨_,1,none⟩) (Nat.le_refl _) _).setCell (p:=⟨_,2,none⟩) (Nat.le_refl _) _
 ·refine bodyPost_ret (res19 (blk_set (blk_set (blk_set HVd.out 0 _) 1 _) 2 _) _ rfl) rfl ?_
  refine⟨?_,?_⟩
  ·rw[HK.out,HS.out]
   unfold tkF
   simp_all
  ·have h1:=HB2.out
   have h2:=HR.out;subst h2;exact((h1.setCell (p:=⟨_,0,none⟩) (Nat.le_refl _) _).setCell (p:=⟨_,1,none⟩) (Nat.le_refl _) _).setCell (p:=⟨_,2,none⟩) (Nat.le_refl _) _
 ·refine bodyPost_ret (res19 (blk_set (blk_set (blk_set HVd.out 0 _) 1 _) 2 _) _ rfl) rfl ?_
  refine⟨?_,?_⟩
  ·rw[HK.out,HS.out]
   unfold tkF
   simp_all
  ·have h1:=HB2.out
   have h2:=HR.out;subst h2;exact((h1.setCell (p:=⟨_,0,none⟩) (Nat.le_refl _) _).setCell (p:=⟨_,1,none⟩) (Nat.le_refl _) _).setCell (p:=⟨_,2,none⟩) (Nat.le_refl _) _
 ·refine bodyPost_ret (res19 (blk_set (blk_set (blk_set HVd.out 0 _) 1 _) 2 _) _ rfl) rfl ?_
  refine⟨?_,?_⟩
  ·rw[HK.out,HS.out]
   unfold tkF
   simp_all
  ·have h1:=HB2.out
   have h2:=HR.out;subst h2;exact((h1.setCell (p:=⟨_,0,none⟩) (Nat.le_refl _) _).setCell (p:=⟨_,1,none⟩) (Nat.le_refl _) _).setCell (p:=⟨_,2,none⟩) (Nat.le_refl _) _
 refine(HSG.out _).mono ?_;rintro e w6 ⟨rfl,hb⟩;have HB3:=aM (HB2.out.trans (hb.mono (Nat.le_of_lt (blk_lt HV.out))));have HV3:=aM (blk_below (w:=wA.drewN nd) HV.out hb);clear v0 v1 v2 f0 f1 f2 hb HB2;obtain⟨v0,v1,v2⟩:=bC3 HV3.out;obtain⟨f0,f1,f2⟩:=bF3 HV3.out;go_wp2_with fail;refine bodyPost_ret (res19 (blk_set (blk_set (blk_set HV3.out 0 _) 1 _) 2 _) _ rfl) rfl ?_;refine⟨?_,?_⟩
 ·rw[HK.out,HS.out]
  unfold tkF
  simp_all
 ·have h1:=HB3.out
  have h2:=HR.out;subst h2;exact((h1.setCell (p:=⟨_,0,none⟩) (Nat.le_refl _) _).setCell (p:=⟨_,1,none⟩) (Nat.le_refl _) _).setCell (p:=⟨_,2,none⟩) (Nat.le_refl _) _
end
theorem least{P:Nat->Prop}:∀n,P n->∃m,P m/\∀j,P j->m<=j:=by
 intro n
 induction n using Nat.strongRecOn with
 |_ n ih=>
  intro h
  by_cases hx:∃j,j<n/\P j
  ·obtain⟨j,hj,hp⟩:=hx
   exact ih j hj hp
  ·refine⟨n,h,fun j hj=> ?_⟩
   rcases Nat.lt_or_ge j n with hlt|hge
   ·exact absurd ⟨j,hlt,hj⟩ hx
   ·exact hge
section
variable {P:Program} {a:Act} {w:World} {Q:Exit->Act->World->Prop}
theorem wp_scope_ghost'{c y:Code}(l:Nat)(J:Nat->Act->World->Prop)(hf:findLabel c l=some (Code.skip.seq y))
  (first:(∀k a w,J k a w->y.wp P (Exit.jump l (fun a' w'=>∃m,J m a' w') Q) a w)->c.wp P (Exit.jump l (fun a' w'=>∃m,J m a' w') Q) a w)
  (pass:∀k a w,J k a w->y.wp P (Exit.jump l (fun a' w'=>∃m,m<k/\J m a' w') Q) a w):(Code.scope c).wp P Q a w:=by
 classical
 have key:∀a w,(∃k,J k a w)->∃m,J m a w/\∀j,J j a w->m<=j:=fun a w ⟨k,h⟩=>least k h
 refine wp_scope_jumps l (fun a w=>∃k,J k a w) (fun a w=>if h:∃k,J k a w then Classical.choose (key a w h) else 0) hf ?_ ?_
 ·refine first (fun k a w h=>wp_mono (pass k a w h) ?_)
  intro e a' w' h
  cases e with
  |goto l'=>exact⟨h.1,by obtain⟨m,_,hj⟩:=h.2;exact⟨m,hj⟩⟩
  |_=>exact h
 ·intro a w hJ
  have hc:=Classical.choose_spec (key a w hJ);refine wp_seq (wp_skip (wp_mono (pass _ a w hc.1) ?_));intro e a' w' h
  cases e with
  |goto l'=>
   obtain⟨h1,m,hm,hj⟩:=h;refine⟨h1,⟨m,hj⟩,?_⟩;have hx:∃k,J k a' w':=⟨m,hj⟩;rw[dif_pos hx,dif_pos hJ];exact Nat.lt_of_le_of_lt ((Classical.choose_spec (key a' w' hx)).2 m hj) hm
  |_=>exact h
end
inductive Gap:List Int->Prop
 |nil:Gap []
 |ws {x:Int} {g:List Int}:x=32\/x=9\/x=10->Gap g->Gap (x::g)
 |line {c g:List Int}:(∀y∈c,y≠10)->hd (c++[10])≠91->Gap g->Gap (45::45::(c++10::g))
 |long {n:Nat} {x:Int} {c g:List Int}:x≠10->(∀r,mend n none (x::(c++r))=some r)->Gap g->Gap (45::45::91::(List.replicate n 61++91::x::(c++g)))
inductive Rest:List Int->Prop
 |nil:Rest []
 |line {c g:List Int}:(∀y∈c,y≠10)->hd (c++[10])≠91->Gap g->Rest (45::45::(c++10::g))
 |long {n:Nat} {x:Int} {c g:List Int}:x≠10->(∀r,mend n none (x::(c++r))=some r)->Gap g->Rest (45::45::91::(List.replicate n 61++91::x::(c++g)))
def wsB(x:Int):Bool:=x==32||x==9||x==10
theorem Gap.split{g:List Int}(h:Gap g):∃a g2,g=a++g2/\(∀y∈a,wsB y=true)/\Rest g2:=by
 induction h with
 |nil=>exact⟨[],[],rfl,by simp,.nil⟩
 |ws hx hg ih=>
  rename_i x g;obtain⟨a,g2,rfl,h1,h2⟩:=ih;refine⟨x::a,g2,rfl,?_,h2⟩;intro y hy;rcases List.mem_cons.1 hy with rfl|hy
  ·rcases hx with rfl|rfl|rfl<;>rfl
  ·exact h1 y hy
 |line h1 h2 h3 _=>exact⟨[],_,rfl,by simp,.line h1 h2 h3⟩
 |long h1 h2 h3 _=>exact⟨[],_,rfl,by simp,.long h1 h2 h3⟩
theorem drop_congr{P Q:Int->Bool}:∀l:List Int,(∀y∈l,P y=Q y)->l.dropWhile P=l.dropWhile Q
 |[],_=>rfl
 |c::l,h=>by
  have hc:=h c (by simp);rw[List.dropWhile_cons,List.dropWhile_cons,hc,drop_congr l (fun y hy=>h y (List.mem_cons_of_mem _ hy))]
def w1B(x:Int):Bool:=x==32||x==9
theorem drop1:∀(a m:List Int),(∀y∈a,wsB y=true)->w1B (hd m)=false->((a++m).dropWhile w1B=m\/∃a2,(a++m).dropWhile w1B=10::(a2++m)/\∀y∈a2,wsB y=true)
 |[],m,_,h=>by
  have:=(drop_all (P:=w1B) [] m (by simp) h).1;exact .inl this
 |y::a,m,ha,h=>by
  have hy:=ha y (by simp)
  by_cases h1:w1B y=true
  ·rw[List.cons_append,List.dropWhile_cons,if_pos h1]
   exact drop1 a m (fun z hz=>ha z (List.mem_cons_of_mem _ hz)) h
  ·have:y=10:=by simp[wsB,w1B] at hy h1;omega
   subst this;exact .inr ⟨a,by rw[List.cons_append,List.dropWhile_cons,if_neg h1],fun z hz=>ha z (List.mem_cons_of_mem _ hz)⟩
theorem tstw1(x:Int)(h0: -1<=x)(h1:x<=255):tst 4294967808 x=w1B x:=by rw[tst1 x h0 h1,Bool.eq_iff_iff];simp[w1B]
theorem tstw2(x:Int)(h0: -1<=x)(h1:x<=255)(h2:x≠13):tst 4294977024 x=wsB x:=by
 rw[tst2 x h0 h1];simp[wsB];rw[Bool.eq_iff_iff];simp;omega
inductive TokAt(res:ByteArray->Option Int):List Int->Int->ByteArray->List Int->Prop
 |eof:TokAt res [] (-1) ⟨#[]⟩ []
 |ident {c:Int} {t r:List Int}:isLt c=true->(∀y∈t,isWy y=true)->isWy (hd r)=false->TokAt res (c::(t++r)) ((res (strOfNums (c::t))).getD 57375) (strOfNums (c::t)) r
 |numd {c:Int} {t r:List Int}:isDg c=true->(∀y∈t,isDg y=true)->isDg (hd r)=false->(c=48->t=[]/\hd r≠120/\hd r≠88)->hd r≠46/\hd r≠101/\hd r≠69->TokAt res (c::(t++r)) 57376 (strOfNums (c::t)) r
 |nume {c e1:Int} {t es r:List Int}:isDg c=true->(∀y∈t,isDg y=true)->(c=48->t=[])->(∀y∈e1::es,isDg y=true)->isDg (hd r)=false->TokAt res (c::(t++101::e1::(es++r))) 57376 (strOfNums (c::(t++101::e1::es))) r
 |numm {c e1:Int} {t es r:List Int}:isDg c=true->(∀y∈t,isDg y=true)->(c=48->t=[])->(∀y∈e1::es,isDg y=true)->isDg (hd r)=false->TokAt res (c::(t++101::45::e1::(es++r))) 57376 (strOfNums (c::(t++101::45::e1::es))) r
 |str {enc dec r:List Int}:Esc enc dec->TokAt res (34::(enc++34::r)) 57377 (strOfNums dec) r
 |one {c:Int} {r:List Int}:c∈[43,42,47,37,94,35,40,41,123,125,93,59,44]->TokAt res (c::r) c (Utf8.encode c) r
 |minus {r:List Int}:hd r≠45->TokAt res (45::r) 45 (Utf8.encode 45) r
 |brk {r:List Int}:hd r≠91->hd r≠61->TokAt res (91::r) 91 (Utf8.encode 91) r
 |op1 {c:Int} {r:List Int}:c∈[61,60,62]->hd r≠61->TokAt res (c::r) c (Utf8.encode c) r
 |colon {r:List Int}:hd r≠58->TokAt res (58::r) 58 (Utf8.encode 58) r
 |dot {r:List Int}:hd r≠46->isDg (hd r)=false->TokAt res (46::r) 46 ⟨#[]⟩ r
 |dot2 {r:List Int}:hd r≠46->TokAt res (46::46::r) 57372 ⟨#[46,46]⟩ r
 |dot3 {r:List Int}:TokAt res (46::46::46::r) 57373 ⟨#[46,46,46]⟩ r
 |eqeq {r:List Int}:TokAt res (61::61::r) 57368 ⟨#[61,61]⟩ r
 |neq {r:List Int}:TokAt res (126::61::r) 57369 ⟨#[126,61]⟩ r
 |le {r:List Int}:TokAt res (60::61::r) 57370 ⟨#[60,61]⟩ r
 |ge {r:List Int}:TokAt res (62::61::r) 57371 ⟨#[62,61]⟩ r
theorem Esc.rng{e d:List Int}(h:Esc e d):(∀y∈e,0<=y/\y<=255)->∀y∈d,0<=y/\y<=255:=by
 induction h with
 |nil=>intro _ y hy;simp at hy
 |raw _ _ _ _ ih=>
  intro he y hy;rcases List.mem_cons.1 hy with rfl|hy
  ·exact he _ (by simp)
  ·exact ih (fun z hz=>he z (by simp[hz])) y hy
 |q _ ih|b _ ih|n _ ih=>
  intro he y hy;rcases List.mem_cons.1 hy with rfl|hy
  ·omega
  ·exact ih (fun z hz=>he z (by simp[hz])) y hy
 |num h1 h2 h3 h4 h5 _ ih=>
  intro he y hy;rcases List.mem_cons.1 hy with rfl|hy
  ·omega
  ·exact ih (fun z hz=>he z (by simp[hz])) y hy
theorem buStr{w:World}{k:Sk}{N b:Nat}{u:List Int}(h:Bu w k N b u)(hu:∀y∈u,0<=y/\y<=255):Calls Tryz.prog 40 #[.pointer (some ⟨b,0,none⟩)] w fun e w'=>e = .returned (.string (strOfNums u))/\∃n,w'=w.drewN n:=by
 have e1:nc u=Lib.byteCells (u.map fun n=>UInt8.ofNat n.toNat):=by
  unfold nc Lib.byteCells;rw[List.map_map];refine List.map_congr_left (fun y hy=> ?_);have:=hu y hy;simp;omega
 have hi:=h.i;rw[e1] at hi;exact Tryz.Buffer_String N b _ w hi
def Lx(w:World)(x:Nat):Prop:=∃b:Bool,w.heap[x]? = some (.cells #[.pointer none,.slice none 0 0,.bool b,.int .i64 0,.string ⟨#[]⟩,.string ⟨#[]⟩,.string ⟨#[]⟩,.int .i64 0,.int .i64 0,.int .i64 0] 63 (0,0))
theorem size_nums(l:List Int):(strOfNums l).size=l.length:=by
 show(List.map _ _).toArray.size=_
 simp
structure Out(w:World)(k:Sk)(res:ByteArray->Option Int):Prop where
 m:∃bm,w.cell? ⟨0,0,none⟩=some (.map (some bm))/\∀w',Below k.B w w'->∀s,s.size<=100000->(Instr.lookup 102 (.map (some bm)) (.string s) true).run Tryz.prog w' = .ok (.tuple #[.int .i64 ((res s).getD 0),.bool (res s).isSome]) w'
 t:∀j,j<56->∃s,w.cell? ⟨1,j,none⟩=some (.string s)
 b:∀s v,res s=some v->0<=v/\v<=100000
structure Ks(w w':World)(k:Sk)(x:Nat):Prop where
 b:Below k.B w w'
 k:Kept w w' (fun y=>k.S y\/y=x)
def zTok:Array Value:= #[.int .i64 0,.string ⟨#[]⟩,.string ⟨#[]⟩,.string ⟨#[]⟩,.int .i64 0,.int .i64 0]
structure Sn(w0 wr:World)(k:Sk)(x R T:Nat)(cs:Array Value)(l:List Int):Prop where
 s:RS wr k l
 lx:Lx wr x
 r:wr.heap[R]? = some (.cells zTok 61 (0,0))
 t:wr.heap[T]? = some (.cells cs 61 (0,0))
 f:Ks w0 wr k x
 rt:R≠T
 r0:w0.heap.size<=R
 t0:w0.heap.size<=T
 xB:k.B<=x
 x0:x<w0.heap.size
section
variable {w0 w wr w1 w2:World} {k:Sk} {N b x R T:Nat} {l m u r g:List Int} {cs:Array Value} {res:ByteArray->Option Int}
theorem Out.on(h:Out w k res)(hb:Below k.B w w1)(hB:12<k.B):Out w1 k res:=by
 obtain⟨bm,h1,h2⟩:=h.m;refine⟨⟨bm,(hb.cell (by show 0<k.B;omega)).trans h1,fun w' hw' s=>h2 w' (hb.trans hw') s⟩,fun j hj=> ?_,h.b⟩;obtain⟨s,hs⟩:=h.t j hj;exact⟨s,(hb.cell (by show 1<k.B;omega)).trans hs⟩
theorem Ks.trans(h:Ks w w1 k x)(h2:Ks w1 w2 k x):Ks w w2 k x:=⟨h.b.trans h2.b,h.k.then_ h2.k (fun _ hx=> .inl hx)⟩
theorem Kg.ks(h:Kg w w1 k):Ks w w1 k x:=⟨h.b,h.k.mono (fun _ hx=> .inl hx)⟩
theorem Lx.nS(h:Lx w x)(hs:RS w k l):¬k.S x:=by
 obtain⟨b,hb⟩:=h;obtain⟨i,r,n,lb,lr,hf,_⟩:=hs.b;obtain⟨s,ln,co,hg⟩:=hs.g;rintro(rfl|rfl|rfl|rfl)
 ·rw[hg] at hb;simp at hb
 ·rw[hf.d] at hb;simp at hb
 ·obtain⟨A,hA,_⟩:=hf.r;rw[hA] at hb;simp at hb
 ·obtain⟨p,hp⟩:=hf.s;rw[hp] at hb;simp at hb
theorem blk_nS{q:Nat}{cs:Array Value}(h:w.heap[q]? = some (.cells cs 61 (0,0)))(hs:RS w k l):¬k.S q:=by
 obtain⟨i,r,n,lb,lr,hf,_⟩:=hs.b;obtain⟨s,ln,co,hg⟩:=hs.g;rintro(rfl|rfl|rfl|rfl)
 ·rw[hg] at h;simp at h
 ·rw[hf.d] at h;simp at h
 ·obtain⟨A,hA,_⟩:=hf.r;rw[hA] at h;simp at h
 ·obtain⟨p,hp⟩:=hf.s;rw[hp] at h;simp at h
theorem Sn.kg(h:Sn w0 wr k x R T cs l)(hs:RS w1 k m)(hk:Kg wr w1 k):Sn w0 w1 k x R T cs m:=by
 obtain⟨b,hb⟩:=h.lx;exact⟨hs,⟨b,blk_kept hb hk.k (h.lx.nS h.s)⟩,blk_kept h.r hk.k (blk_nS h.r h.s),blk_kept h.t hk.k (blk_nS h.t h.s),h.f.trans hk.ks,h.rt,h.r0,h.t0,h.xB,h.x0⟩
theorem Sn.kb(h:Sn w0 wr k x R T cs l)(hs:RS w1 k m)(hk:Kb wr w1 k N)(hR:R<N)(hT:T<N)(hw:w0.heap.size<=N):Sn w0 w1 k x R T cs m:=by
 obtain⟨b,hb⟩:=h.lx;have hx:¬(k.S x\/N<=x):=by rintro(e|e);exact h.lx.nS h.s e;have:=h.x0;omega
 have hr:¬(k.S R\/N<=R):=by rintro(e|e);exact blk_nS h.r h.s e;omega
 have ht:¬(k.S T\/N<=T):=by rintro(e|e);exact blk_nS h.t h.s e;omega
 exact⟨hs,⟨b,blk_kept hb hk.k hx⟩,blk_kept h.r hk.k hr,blk_kept h.t hk.k ht,⟨h.f.b.trans hk.b,h.f.k.then_ hk.k (fun y hy=>by
  rcases hy with hy|hy
  ·exact .inl (.inl hy)
  ·exact .inr (by omega))⟩,h.rt,h.r0,h.t0,h.xB,h.x0⟩
theorem Sn.below(h:Sn w0 wr k x R T cs l)(hk:Below wr.heap.size wr w1):Sn w0 w1 k x R T cs l:=
 h.kb (N:=wr.heap.size) (h.s.low hk h.s.slt h.s.E.lt) (Kb.of_below hk h.s.E.lt) (blk_lt h.r) (blk_lt h.t) h.f.b.size
theorem Sn.drewN(h:Sn w0 wr k x R T cs l)(n:Nat):Sn w0 (wr.drewN n) k x R T cs l:=h.below (pD (bR _ _) n)
theorem Sn.low(h:Sn w0 wr k x R T cs l)(hk:Below N wr w1)(hR:R<N)(hT:T<N)(hw:w0.heap.size<=N)(hS:∀y,k.S y->y<N)(hB:k.B<=N):Sn w0 w1 k x R T cs l:=
 h.kb (N:=N) (h.s.low hk hS hB) (Kb.of_below hk hB) hR hT hw
theorem RS.setO(h:RS w k l){q:Nat}(hq:¬k.S q)(hB:k.B<=q)(j:Nat)(u:Value):RS (w.setCell ⟨q,j,none⟩ u) k l:=by
 obtain⟨i,r,n,lb,lr,hb,hf⟩:=h.b;obtain⟨s,ln,co,hg⟩:=h.g;refine⟨h.E.on ((bR _ _).setCell (p:=⟨q,j,none⟩) hB u),⟨s,ln,co,(Below.heap_setCell _ _ _ _ (fun e=>hq (.inl e.symm))).trans hg⟩,⟨i,r,n,lb,lr,hb.away (p:=⟨q,j,none⟩) (fun e=>hq (Sk.DS e)) u,hf⟩,h.c⟩
theorem Sn.setT(h:Sn w0 wr k x R T cs l)(j:Nat)(u:Value):Sn w0 (wr.setCell ⟨T,j,none⟩ u) k x R T (cs.setIfInBounds j u) l:=by
 obtain⟨b,hb⟩:=h.lx;have hB:k.B<=T:=by have:=h.t0;have:=h.xB;have:=h.x0;omega
 have hxT:x≠T:=by have:=h.t0;have:=h.x0;omega
 exact⟨h.s.setO (blk_nS h.t h.s) hB j u,⟨b,(Below.heap_setCell _ _ _ _ hxT).trans hb⟩,(Below.heap_setCell _ _ _ _ h.rt).trans h.r,blk_set h.t j u,⟨h.f.b.setCell (p:=⟨T,j,none⟩) hB u,h.f.k.setCell (p:=⟨T,j,none⟩) (.inr h.t0) u⟩,h.rt,h.r0,h.t0,h.xB,h.x0⟩
theorem Sn.setX(h:Sn w0 wr k x R T cs l)(c:Bool):Sn w0 (wr.setCell ⟨x,2,none⟩ (.bool c)) k x R T cs l:=by
 obtain⟨b,hb⟩:=h.lx;have hxT:T≠x:=by have:=h.t0;have:=h.x0;omega
 have hxR:R≠x:=by have:=h.r0;have:=h.x0;omega
 exact⟨h.s.setO (h.lx.nS h.s) h.xB 2 _,⟨c,blk_set hb 2 _⟩,(Below.heap_setCell _ _ _ _ hxR).trans h.r,(Below.heap_setCell _ _ _ _ hxT).trans h.t,⟨h.f.b.setCell (p:=⟨x,2,none⟩) h.xB _,h.f.k.setCell (p:=⟨x,2,none⟩) (.inl (.inr rfl)) _⟩,h.rt,h.r0,h.t0,h.xB,h.x0⟩
end
set_option maxRecDepth 100000 in
theorem f283(v:Array Value):((List.range 283).map (fun i=>v.getD i undef)).toArray = #[v.getD 0 undef,v.getD 1 undef,v.getD 2 undef,v.getD 3 undef,v.getD 4 undef,v.getD 5 undef,v.getD 6 undef,v.getD 7 undef,v.getD 8 undef,v.getD 9 undef,v.getD 10 undef,v.getD 11 undef,v.getD 12 undef,v.getD 13 undef,v.getD 14 undef,v.getD 15 undef,v.getD 16 undef,v.getD 17 undef,v.getD 18 undef,v.getD 19 undef,v.getD 20 undef,v.getD 21 undef,v.getD 22 undef,v.getD 23 undef,v.getD 24 undef,v.getD 25 undef,v.getD 26 undef,v.getD 27 undef,v.getD 28 undef,v.getD 29 undef,v.getD 30 undef,v.getD 31 undef,v.getD 32 undef,v.getD 33 undef,v.getD 34 undef,v.getD 35 undef,v.getD 36 undef,v.getD 37 undef,v.getD 38 undef,v.getD 39 undef,v.getD 40 undef,v.getD 41 undef,v.getD 42 undef,v.getD 43 undef,v.getD 44 undef,v.getD 45 undef,v.getD 46 undef,v.getD 47 undef,v.getD 48 undef,v.getD 49 undef,v.getD 50 undef,v.getD 51 undef,v.getD 52 undef,v.getD 53 undef,v.getD 54 undef,v.getD 55 undef,v.getD 56 undef,v.getD 57 undef,v.getD 58 undef,v.getD 59 undef,v.getD 60 undef,v.getD 61 undef,v.getD 62 undef,v.getD 63 undef,v.getD 64 undef,v.getD 65 undef,v.getD 66 undef,v.getD 67 undef,v.getD 68 undef,v.getD 69 undef,v.getD 70 undef,v.getD 71 undef,v.getD 72 undef,v.getD 73 undef,v.getD 74 undef,v.getD 75 undef,v.getD 76 undef,v.getD 77 undef,v.getD 78 undef,v.getD 79 undef,v.getD 80 undef,v.getD 81 undef,v.getD 82 undef,v.getD 83 undef,v.getD 84 undef,v.getD 85 undef,v.getD 86 undef,v.getD 87 undef,v.getD 88 undef,v.getD 89 undef,v.getD 90 undef,v.getD 91 undef,v.getD 92 undef,v.getD 93 undef,v.getD 94 undef,v.getD 95 undef,v.getD 96 undef,v.getD 97 undef,v.getD 98 undef,v.getD 99 undef,v.getD 100 undef,v.getD 101 undef,v.getD 102 undef,v.getD 103 undef,v.getD 104 undef,v.getD 105 undef,v.getD 106 undef,v.getD 107 undef,v.getD 108 undef,v.getD 109 undef,v.getD 110 undef,v.getD 111 undef,v.getD 112 undef,v.getD 113 undef,v.getD 114 undef,v.getD 115 undef,v.getD 116 undef,v.getD 117 undef,v.getD 118 undef,v.getD 119 undef,v.getD 120 undef,v.getD 121 undef,v.getD 122 undef,v.getD 123 undef,v.getD 124 undef,v.getD 125 undef,v.getD 126 undef,v.getD 127 undef,v.getD 128 undef,v.getD 129 undef,v.getD 130 undef,v.getD 131 undef,v.getD 132 undef,v.getD 133 undef,v.getD 134 undef,v.getD 135 undef,v.getD 136 undef,v.getD 137 undef,v.getD 138 undef,v.getD 139 undef,v.getD 140 undef,v.getD 141 undef,v.getD 142 undef,v.getD 143 undef,v.getD 144 undef,v.getD 145 undef,v.getD 146 undef,v.getD 147 undef,v.getD 148 undef,v.getD 149 undef,v.getD 150 undef,v.getD 151 undef,v.getD 152 undef,v.getD 153 undef,v.getD 154 undef,v.getD 155 undef,v.getD 156 undef,v.getD 157 undef,v.getD 158 undef,v.getD 159 undef,v.getD 160 undef,v.getD 161 undef,v.getD 162 undef,v.getD 163 undef,v.getD 164 undef,v.getD 165 undef,v.getD 166 undef,v.getD 167 undef,v.getD 168 undef,v.getD 169 undef,v.getD 170 undef,v.getD 171 undef,v.getD 172 undef,v.getD 173 undef,v.getD 174 undef,v.getD 175 undef,v.getD 176 undef,v.getD 177 undef,v.getD 178 undef,v.getD 179 undef,v.getD 180 undef,v.getD 181 undef,v.getD 182 undef,v.getD 183 undef,v.getD 184 undef,v.getD 185 undef,v.getD 186 undef,v.getD 187 undef,v.getD 188 undef,v.getD 189 undef,v.getD 190 undef,v.getD 191 undef,v.getD 192 undef,v.getD 193 undef,v.getD 194 undef,v.getD 195 undef,v.getD 196 undef,v.getD 197 undef,v.getD 198 undef,v.getD 199 undef,v.getD 200 undef,v.getD 201 undef,v.getD 202 undef,v.getD 203 undef,v.getD 204 undef,v.getD 205 undef,v.getD 206 undef,v.getD 207 undef,v.getD 208 undef,v.getD 209 undef,v.getD 210 undef,v.getD 211 undef,v.getD 212 undef,v.getD 213 undef,v.getD 214 undef,v.getD 215 undef,v.getD 216 undef,v.getD 217 undef,v.getD 218 undef,v.getD 219 undef,v.getD 220 undef,v.getD 221 undef,v.getD 222 undef,v.getD 223 undef,v.getD 224 undef,v.getD 225 undef,v.getD 226 undef,v.getD 227 undef,v.getD 228 undef,v.getD 229 undef,v.getD 230 undef,v.getD 231 undef,v.getD 232 undef,v.getD 233 undef,v.getD 234 undef,v.getD 235 undef,v.getD 236 undef,v.getD 237 undef,v.getD 238 undef,v.getD 239 undef,v.getD 240 undef,v.getD 241 undef,v.getD 242 undef,v.getD 243 undef,v.getD 244 undef,v.getD 245 undef,v.getD 246 undef,v.getD 247 undef,v.getD 248 undef,v.getD 249 undef,v.getD 250 undef,v.getD 251 undef,v.getD 252 undef,v.getD 253 undef,v.getD 254 undef,v.getD 255 undef,v.getD 256 undef,v.getD 257 undef,v.getD 258 undef,v.getD 259 undef,v.getD 260 undef,v.getD 261 undef,v.getD 262 undef,v.getD 263 undef,v.getD 264 undef,v.getD 265 undef,v.getD 266 undef,v.getD 267 undef,v.getD 268 undef,v.getD 269 undef,v.getD 270 undef,v.getD 271 undef,v.getD 272 undef,v.getD 273 undef,v.getD 274 undef,v.getD 275 undef,v.getD 276 undef,v.getD 277 undef,v.getD 278 undef,v.getD 279 undef,v.getD 280 undef,v.getD 281 undef,v.getD 282 undef]:=rfl
def AtS(g x R:Nat)(J:Nat->World->Prop)(k:Nat)(a:Act)(w:World):Prop:=
 a.tmps.size=283/\a.defers=[]/\(a.tmps.getD 0 undef = .pointer (some ⟨g,0,none⟩)/\a.tmps.getD 1 undef = .pointer (some ⟨x,0,none⟩)/\a.tmps.getD 4 undef = .pointer (some ⟨R,0,none⟩))/\J k w
set_option maxRecDepth 100000 in
theorem AtS.open_{g x R:Nat}{J:Nat->World->Prop}{k:Nat}{a:Act}{w:World}(h:AtS g x R J k a w):(∃u:Nat->Value,a=⟨#[.pointer (some ⟨g,0,none⟩),.pointer (some ⟨x,0,none⟩),u 2,u 3,.pointer (some ⟨R,0,none⟩),u 5,u 6,u 7,u 8,u 9,u 10,u 11,u 12,u 13,u 14,u 15,u 16,u 17,u 18,u 19,u 20,u 21,u 22,u 23,u 24,u 25,u 26,u 27,u 28,u 29,u 30,u 31,u 32,u 33,u 34,u 35,u 36,u 37,u 38,u 39,u 40,u 41,u 42,u 43,u 44,u 45,u 46,u 47,u 48,u 49,u 50,u 51,u 52,u 53,u 54,u 55,u 56,u 57,u 58,u 59,u 60,u 61,u 62,u 63,u 64,u 65,u 66,u 67,u 68,u 69,u 70,u 71,u 72,u 73,u 74,u 75,u 76,u 77,u 78,u 79,u 80,u 81,u 82,u 83,u 84,u 85,u 86,u 87,u 88,u 89,u 90,u 91,u 92,u 93,u 94,u 95,u 96,u 97,u 98,u 99,u 100,u 101,u 102,u 103,u 104,u 105,u 106,u 107,u 108,u 109,u 110,u 111,u 112,u 113,u 114,u 115,u 116,u 117,u 118,u 119,u 120,u 121,u 122,u 123,u 124,u 125,u 126,u 127,u 128,u 129,u 130,u 131,u 132,u 133,u 134,u 135,u 136,u 137,u 138,u 139,u 140,u 141,u 142,u 143,u 144,u 145,u 146,u 147,u 148,u 149,u 150,u 151,u 152,u 153,u 154,u 155,u 156,u 157,u 158,u 159,u 160,u 161,u 162,u 163,u 164,u 165,u 166,u 167,u 168,u 169,u 170,u 171,u 172,u 173,u 174,u 175,u 176,u 177,u 178,u 179,u 180,u 181,u 182,u 183,u 184,u 185,u 186,u 187,u 188,u 189,u 190,u 191,u 192,u 193,u 194,u 195,u 196,u 197,u 198,u 199,u 200,u 201,u 202,u 203,u 204,u 205,u 206,u 207,u 208,u 209,u 210,u 211,u 212,u 213,u 214,u 215,u 216,u 217,u 218,u 219,u 220,u 221,u 222,u 223,u 224,u 225,u 226,u 227,u 228,u 229,u 230,u 231,u 232,u 233,u 234,u 235,u 236,u 237,u 238,u 239,u 240,u 241,u 242,u 243,u 244,u 245,u 246,u 247,u 248,u 249,u 250,u 251,u 252,u 253,u 254,u 255,u 256,u 257,u 258,u 259,u 260,u 261,u 262,u 263,u 264,u 265,u 266,u 267,u 268,u 269,u 270,u 271,u 272,u 273,u 274,u 275,u 276,u 277,u 278,u 279,u 280,u 281,u 282],[]⟩)/\J k w:=by
 obtain⟨tmps,defers⟩:=a;obtain⟨hs,hd,⟨h0,h1,h4⟩,hR⟩:=h;refine⟨⟨fun i=>tmps.getD i undef,?_⟩,hR⟩;have hd':defers=[]:=hd;subst hd';have k0:tmps.getD 0 undef = .pointer (some ⟨g,0,none⟩):=h0;have k1:tmps.getD 1 undef = .pointer (some ⟨x,0,none⟩):=h1;have k4:tmps.getD 4 undef = .pointer (some ⟨R,0,none⟩):=h4;have h:=frame_lit 283 tmps hs;have h2:=f283 tmps;rw[h2] at h;rw[k0,k1,k4] at h;exact congrArg (fun t=>Act.mk t []) h
def swF:Code->Option Code
 | .block n c=>some (.block n c)
 | .seq a b=>(swF a).orElse fun _=>swF b
 | .scope c=>swF c
 |_=>none
noncomputable def sw:Code:=((Tryz.f18.body).bind swF).getD .skip
def AtW(g R T N:Nat)(q:Int)(J:World->Prop)(a:Act)(w:World):Prop:=
 a.tmps.size=283/\a.defers=[]/\(a.tmps.getD 0 undef = .pointer (some ⟨g,0,none⟩)/\a.tmps.getD 4 undef = .pointer (some ⟨R,0,none⟩)/\a.tmps.getD 6 undef = .nilIface/\a.tmps.getD 7 undef = .pointer (some ⟨T,0,none⟩)/\a.tmps.getD 9 undef = .int .i64 q/\a.tmps.getD 10 undef = .pointer (some ⟨N,0,none⟩)/\a.tmps.getD 11 undef = .pointer (some ⟨N,0,none⟩))/\J w
set_option maxRecDepth 100000 in
theorem AtW.open_{g R T N:Nat}{q:Int}{J:World->Prop}{a:Act}{w:World}(h:AtW g R T N q J a w):(∃u:Nat->Value,a=⟨#[.pointer (some ⟨g,0,none⟩),u 1,u 2,u 3,.pointer (some ⟨R,0,none⟩),u 5,.nilIface,.pointer (some ⟨T,0,none⟩),u 8,.int .i64 q,.pointer (some ⟨N,0,none⟩),.pointer (some ⟨N,0,none⟩),u 12,u 13,u 14,u 15,u 16,u 17,u 18,u 19,u 20,u 21,u 22,u 23,u 24,u 25,u 26,u 27,u 28,u 29,u 30,u 31,u 32,u 33,u 34,u 35,u 36,u 37,u 38,u 39,u 40,u 41,u 42,u 43,u 44,u 45,u 46,u 47,u 48,u 49,u 50,u 51,u 52,u 53,u 54,u 55,u 56,u 57,u 58,u 59,u 60,u 61,u 62,u 63,u 64,u 65,u 66,u 67,u 68,u 69,u 70,u 71,u 72,u 73,u 74,u 75,u 76,u 77,u 78,u 79,u 80,u 81,u 82,u 83,u 84,u 85,u 86,u 87,u 88,u 89,u 90,u 91,u 92,u 93,u 94,u 95,u 96,u 97,u 98,u 99,u 100,u 101,u 102,u 103,u 104,u 105,u 106,u 107,u 108,u 109,u 110,u 111,u 112,u 113,u 114,u 115,u 116,u 117,u 118,u 119,u 120,u 121,u 122,u 123,u 124,u 125,u 126,u 127,u 128,u 129,u 130,u 131,u 132,u 133,u 134,u 135,u 136,u 137,u 138,u 139,u 140,u 141,u 142,u 143,u 144,u 145,u 146,u 147,u 148,u 149,u 150,u 151,u 152,u 153,u 154,u 155,u 156,u 157,u 158,u 159,u 160,u 161,u 162,u 163,u 164,u 165,u 166,u 167,u 168,u 169,u 170,u 171,u 172,u 173,u 174,u 175,u 176,u 177,u 178,u 179,u 180,u 181,u 182,u 183,u 184,u 185,u 186,u 187,u 188,u 189,u 190,u 191,u 192,u 193,u 194,u 195,u 196,u 197,u 198,u 199,u 200,u 201,u 202,u 203,u 204,u 205,u 206,u 207,u 208,u 209,u 210,u 211,u 212,u 213,u 214,u 215,u 216,u 217,u 218,u 219,u 220,u 221,u 222,u 223,u 224,u 225,u 226,u 227,u 228,u 229,u 230,u 231,u 232,u 233,u 234,u 235,u 236,u 237,u 238,u 239,u 240,u 241,u 242,u 243,u 244,u 245,u 246,u 247,u 248,u 249,u 250,u 251,u 252,u 253,u 254,u 255,u 256,u 257,u 258,u 259,u 260,u 261,u 262,u 263,u 264,u 265,u 266,u 267,u 268,u 269,u 270,u 271,u 272,u 273,u 274,u 275,u 276,u 277,u 278,u 279,u 280,u 281,u 282],[]⟩)/\J w:=by
 obtain⟨tmps,defers⟩:=a;obtain⟨hs,hd,⟨h0,h4,h6,h7,h9,h10,h11⟩,hR⟩:=h;refine⟨⟨fun i=>tmps.getD i undef,?_⟩,hR⟩;have hd':defers=[]:=hd;subst hd';have k0:tmps.getD 0 undef = .pointer (some ⟨g,0,none⟩):=h0;have k4:tmps.getD 4 undef = .pointer (some ⟨R,0,none⟩):=h4;have k6:tmps.getD 6 undef = .nilIface:=h6;have k7:tmps.getD 7 undef = .pointer (some ⟨T,0,none⟩):=h7;have k9:tmps.getD 9 undef = .int .i64 q:=h9;have k10:tmps.getD 10 undef = .pointer (some ⟨N,0,none⟩):=h10;have k11:tmps.getD 11 undef = .pointer (some ⟨N,0,none⟩):=h11;have h:=frame_lit 283 tmps hs;have h2:=f283 tmps;rw[h2] at h;rw[k0,k4,k6,k7,k9,k10,k11] at h;exact congrArg (fun t=>Act.mk t []) h
def AtV(R T:Nat)(J:World->Prop)(a:Act)(w:World):Prop:=
 a.tmps.size=283/\a.defers=[]/\(a.tmps.getD 4 undef = .pointer (some ⟨R,0,none⟩)/\a.tmps.getD 6 undef = .nilIface/\a.tmps.getD 7 undef = .pointer (some ⟨T,0,none⟩))/\J w
set_option maxRecDepth 100000 in
theorem AtV.open_{R T:Nat}{J:World->Prop}{a:Act}{w:World}(h:AtV R T J a w):(∃u:Nat->Value,a=⟨#[u 0,u 1,u 2,u 3,.pointer (some ⟨R,0,none⟩),u 5,.nilIface,.pointer (some ⟨T,0,none⟩),u 8,u 9,u 10,u 11,u 12,u 13,u 14,u 15,u 16,u 17,u 18,u 19,u 20,u 21,u 22,u 23,u 24,u 25,u 26,u 27,u 28,u 29,u 30,u 31,u 32,u 33,u 34,u 35,u 36,u 37,u 38,u 39,u 40,u 41,u 42,u 43,u 44,u 45,u 46,u 47,u 48,u 49,u 50,u 51,u 52,u 53,u 54,u 55,u 56,u 57,u 58,u 59,u 60,u 61,u 62,u 63,u 64,u 65,u 66,u 67,u 68,u 69,u 70,u 71,u 72,u 73,u 74,u 75,u 76,u 77,u 78,u 79,u 80,u 81,u 82,u 83,u 84,u 85,u 86,u 87,u 88,u 89,u 90,u 91,u 92,u 93,u 94,u 95,u 96,u 97,u 98,u 99,u 100,u 101,u 102,u 103,u 104,u 105,u 106,u 107,u 108,u 109,u 110,u 111,u 112,u 113,u 114,u 115,u 116,u 117,u 118,u 119,u 120,u 121,u 122,u 123,u 124,u 125,u 126,u 127,u 128,u 129,u 130,u 131,u 132,u 133,u 134,u 135,u 136,u 137,u 138,u 139,u 140,u 141,u 142,u 143,u 144,u 145,u 146,u 147,u 148,u 149,u 150,u 151,u 152,u 153,u 154,u 155,u 156,u 157,u 158,u 159,u 160,u 161,u 162,u 163,u 164,u 165,u 166,u 167,u 168,u 169,u 170,u 171,u 172,u 173,u 174,u 175,u 176,u 177,u 178,u 179,u 180,u 181,u 182,u 183,u 184,u 185,u 186,u 187,u 188,u 189,u 190,u 191,u 192,u 193,u 194,u 195,u 196,u 197,u 198,u 199,u 200,u 201,u 202,u 203,u 204,u 205,u 206,u 207,u 208,u 209,u 210,u 211,u 212,u 213,u 214,u 215,u 216,u 217,u 218,u 219,u 220,u 221,u 222,u 223,u 224,u 225,u 226,u 227,u 228,u 229,u 230,u 231,u 232,u 233,u 234,u 235,u 236,u 237,u 238,u 239,u 240,u 241,u 242,u 243,u 244,u 245,u 246,u 247,u 248,u 249,u 250,u 251,u 252,u 253,u 254,u 255,u 256,u 257,u 258,u 259,u 260,u 261,u 262,u 263,u 264,u 265,u 266,u 267,u 268,u 269,u 270,u 271,u 272,u 273,u 274,u 275,u 276,u 277,u 278,u 279,u 280,u 281,u 282],[]⟩)/\J w:=by
 obtain⟨tmps,defers⟩:=a;obtain⟨hs,hd,⟨h4,h6,h7⟩,hR⟩:=h;refine⟨⟨fun i=>tmps.getD i undef,?_⟩,hR⟩;have hd':defers=[]:=hd;subst hd';have k4:tmps.getD 4 undef = .pointer (some ⟨R,0,none⟩):=h4;have k6:tmps.getD 6 undef = .nilIface:=h6;have k7:tmps.getD 7 undef = .pointer (some ⟨T,0,none⟩):=h7;have h:=frame_lit 283 tmps hs;have h2:=f283 tmps;rw[h2] at h;rw[k4,k6,k7] at h;exact congrArg (fun t=>Act.mk t []) h
def SwOK(res:ByteArray->Option Int)(l:List Int)(ty:Int)(sy:ByteArray)(r:List Int):Prop:=
 ∀(w w7:World) (k:Sk) (x R T N:Nat) (src:ByteArray) (ln co:Int) (a:Act) (K:Act->World->Prop) (Q:Exit->Act->World->Prop),AtW k.g R T N (hd l) (fun _=>True) a w7->
  Sn w w7 k x R T #[.int .i64 0,.string ⟨#[]⟩,.string ⟨#[]⟩,.string src,.int .i64 ln,.int .i64 co] l.tail->Bu w7 k N N []->R<N/\T<N->Out w k res->
  (∀a' w',AtV R T (fun _=>True) a' w'->Sn w w' k x R T #[.int .i64 ty,.string ⟨#[]⟩,.string sy,.string src,.int .i64 ln,.int .i64 co] r->K a' w')->
  Code.wp Tryz.prog sw (Exit.then K Q) a w7
theorem Bu.setO{w:World}{k:Sk}{N b:Nat}{u:List Int}(h:Bu w k N b u){q:Nat}(hq:q<N)(j:Nat)(v:Value):Bu (w.setCell ⟨q,j,none⟩ v) k N b u:=
 h.old (fun y hy _=>Below.heap_setCell _ _ _ _ (by show y≠q;omega)) (by simp[World.setCell])
section
variable {r:List Int} {res:ByteArray->Option Int}
set_option maxRecDepth 100000 in
set_option maxHeartbeats 4000000 in
theorem sw_eof:SwOK res [] (-1) ⟨#[]⟩ []:=by
 intro w w7 k x R T N src ln co a K Q hA hS hB hN hO hK;have hA2:AtW k.g R T N (-1) (fun _=>True) a w7:=hA;obtain⟨⟨u,rfl⟩,_⟩:=hA2.open_;have HN:=aM hN;have HO:=aM hO;have HKK:=aM hK;have HA:Aside0 (Sn w w7 k x R T #[.int .i64 0,.string ⟨#[]⟩,.string ⟨#[]⟩,.string src,.int .i64 ln,.int .i64 co] ([])):=⟨hS⟩;have HB:=aM hB;clear hA hA2 hS hB hN hO hK
 conv=>arg 2;whnf
 have hl1:isLt (-1)=false:=rfl;have hl2:isDg (-1)=false:=rfl;go_wp2_with fail;refine(parse_isIdent.calls _ _ _ _ (ident0_f _)).mono ?_;rintro e wq ⟨rfl,⟨nd,rfl⟩⟩;go_wp2_with fail;refine(parse_isDecimal.calls _ _ _ (dec_f _)).mono ?_;rintro e wq2 ⟨rfl,⟨nd2,rfl⟩⟩;replace HA:=aM (HA.out.drewN (nd+nd2));replace HB:=aM (HB.out.drewN (nd+nd2));have t0:=bC HA.out.t 0;have f0:=bF HA.out.t 0;go_wp2_with fail;exact HKK.out _ _ ⟨rfl,rfl,⟨rfl,rfl,rfl⟩,trivial⟩ (HA.out.setT 0 (.int .i64 (-1)))
set_option maxRecDepth 100000 in
set_option maxHeartbeats 4000000 in
theorem sw_minus(a0:hd r≠45):SwOK res (45::r) (45) (Utf8.encode 45) r:=by
 intro w w7 k x R T N src ln co a K Q hA hS hB hN hO hK;have hA2:AtW k.g R T N (45) (fun _=>True) a w7:=hA;obtain⟨⟨u,rfl⟩,_⟩:=hA2.open_;have HN:=aM hN;have HO:=aM hO;have HKK:=aM hK;have HA:Aside0 (Sn w w7 k x R T #[.int .i64 0,.string ⟨#[]⟩,.string ⟨#[]⟩,.string src,.int .i64 ln,.int .i64 co] (r)):=⟨hS⟩;have HB:=aM hB;clear hA hA2 hS hB hN hO hK
 conv=>arg 2;whnf
 have hl1:isLt 45=false:=rfl;have hl2:isDg 45=false:=rfl;generalize hq4:hd r=q4 at a0;have HQ4:=aM hq4;clear hq4;have yq40:(q4==45)=false:=beq_eq_false_iff_ne.mpr a0;go_wp2_with fail;refine(parse_isIdent.calls _ _ _ _ (ident0_f _)).mono ?_;rintro e wq ⟨rfl,⟨nd,rfl⟩⟩;go_wp2_with fail;refine(parse_isDecimal.calls _ _ _ (dec_f _)).mono ?_;rintro e wq2 ⟨rfl,⟨nd2,rfl⟩⟩;replace HA:=aM (HA.out.drewN (nd+nd2));replace HB:=aM (HB.out.drewN (nd+nd2));go_wp2_with fail;refine(peek_q HA.out.s).mono ?_;rw[HQ4.out];rintro e wq ⟨rfl,h5,k5⟩;replace HA:=aM (HA.out.kg h5 k5.g);replace HB:=aM (HB.out.kg k5.g);clear h5 k5;have t0:=bC HA.out.t 0;have f0:=bF HA.out.t 0;have t2:=bC HA.out.t 2;have f2:=bF HA.out.t 2;go_wp2_with fail;exact HKK.out _ _ ⟨rfl,rfl,⟨rfl,rfl,rfl⟩,trivial⟩ ((HA.out.setT 0 (.int .i64 45)).setT 2 (.string (Utf8.encode 45)))
set_option maxRecDepth 100000 in
set_option maxHeartbeats 4000000 in
theorem sw_brk(a0:hd r≠91)(a1:hd r≠61):SwOK res (91::r) (91) (Utf8.encode 91) r:=by
 intro w w7 k x R T N src ln co a K Q hA hS hB hN hO hK;have hA2:AtW k.g R T N (91) (fun _=>True) a w7:=hA;obtain⟨⟨u,rfl⟩,_⟩:=hA2.open_;have HN:=aM hN;have HO:=aM hO;have HKK:=aM hK;have HA:Aside0 (Sn w w7 k x R T #[.int .i64 0,.string ⟨#[]⟩,.string ⟨#[]⟩,.string src,.int .i64 ln,.int .i64 co] (r)):=⟨hS⟩;have HB:=aM hB;clear hA hA2 hS hB hN hO hK
 conv=>arg 2;whnf
 have hl1:isLt 91=false:=rfl;have hl2:isDg 91=false:=rfl;generalize hq4:hd r=q4 at a0 a1;have HQ4:=aM hq4;clear hq4;have yq40:(q4==91)=false:=beq_eq_false_iff_ne.mpr a0;have yq41:(q4==61)=false:=beq_eq_false_iff_ne.mpr a1;go_wp2_with fail;refine(parse_isIdent.calls _ _ _ _ (ident0_f _)).mono ?_;rintro e wq ⟨rfl,⟨nd,rfl⟩⟩;go_wp2_with fail;refine(parse_isDecimal.calls _ _ _ (dec_f _)).mono ?_;rintro e wq2 ⟨rfl,⟨nd2,rfl⟩⟩;replace HA:=aM (HA.out.drewN (nd+nd2));replace HB:=aM (HB.out.drewN (nd+nd2));go_wp2_with fail;refine(peek_q HA.out.s).mono ?_;rw[HQ4.out];rintro e wq ⟨rfl,h5,k5⟩;replace HA:=aM (HA.out.kg h5 k5.g);replace HB:=aM (HB.out.kg k5.g);clear h5 k5;have t0:=bC HA.out.t 0;have f0:=bF HA.out.t 0;have t2:=bC HA.out.t 2;have f2:=bF HA.out.t 2;go_wp2_with fail;exact HKK.out _ _ ⟨rfl,rfl,⟨rfl,rfl,rfl⟩,trivial⟩ ((HA.out.setT 0 (.int .i64 91)).setT 2 (.string (Utf8.encode 91)))
set_option maxRecDepth 100000 in
set_option maxHeartbeats 4000000 in
theorem sw_colon(a0:hd r≠58):SwOK res (58::r) (58) (Utf8.encode 58) r:=by
 intro w w7 k x R T N src ln co a K Q hA hS hB hN hO hK;have hA2:AtW k.g R T N (58) (fun _=>True) a w7:=hA;obtain⟨⟨u,rfl⟩,_⟩:=hA2.open_;have HN:=aM hN;have HO:=aM hO;have HKK:=aM hK;have HA:Aside0 (Sn w w7 k x R T #[.int .i64 0,.string ⟨#[]⟩,.string ⟨#[]⟩,.string src,.int .i64 ln,.int .i64 co] (r)):=⟨hS⟩;have HB:=aM hB;clear hA hA2 hS hB hN hO hK
 conv=>arg 2;whnf
 have hl1:isLt 58=false:=rfl;have hl2:isDg 58=false:=rfl;generalize hq4:hd r=q4 at a0;have HQ4:=aM hq4;clear hq4;have yq40:(q4==58)=false:=beq_eq_false_iff_ne.mpr a0;go_wp2_with fail;refine(parse_isIdent.calls _ _ _ _ (ident0_f _)).mono ?_;rintro e wq ⟨rfl,⟨nd,rfl⟩⟩;go_wp2_with fail;refine(parse_isDecimal.calls _ _ _ (dec_f _)).mono ?_;rintro e wq2 ⟨rfl,⟨nd2,rfl⟩⟩;replace HA:=aM (HA.out.drewN (nd+nd2));replace HB:=aM (HB.out.drewN (nd+nd2));go_wp2_with fail;refine(peek_q HA.out.s).mono ?_;rw[HQ4.out];rintro e wq ⟨rfl,h5,k5⟩;replace HA:=aM (HA.out.kg h5 k5.g);replace HB:=aM (HB.out.kg k5.g);clear h5 k5;have t0:=bC HA.out.t 0;have f0:=bF HA.out.t 0;have t2:=bC HA.out.t 2;have f2:=bF HA.out.t 2;go_wp2_with fail;exact HKK.out _ _ ⟨rfl,rfl,⟨rfl,rfl,rfl⟩,trivial⟩ ((HA.out.setT 0 (.int .i64 58)).setT 2 (.string (Utf8.encode 58)))
end
section
variable {r:List Int} {res:ByteArray->Option Int}
set_option maxRecDepth 100000 in
set_option maxHeartbeats 4000000 in
theorem sw_ident{c:Int}{t:List Int}(a1:isLt c=true)(a2:∀y∈t,isWy y=true)(a3:isWy (hd r)=false):SwOK res (c::(t++r)) ((res (strOfNums (c::t))).getD 57375) (strOfNums (c::t)) r:=by
 intro w w7 k x R T N src ln co a K Q hA hS hB hN hO hK;have hA2:AtW k.g R T N (c) (fun _=>True) a w7:=hA;obtain⟨⟨u,rfl⟩,_⟩:=hA2.open_;have HN:=aM hN;have HO:=aM hO;have HKK:=aM hK;have HA:Aside0 (Sn w w7 k x R T #[.int .i64 0,.string ⟨#[]⟩,.string ⟨#[]⟩,.string src,.int .i64 ln,.int .i64 co] (t++r)):=⟨hS⟩;have HB:=aM hB;clear hA hA2 hS hB hN hO hK
 conv=>arg 2;whnf
 have hcr:65<=c/\c<=122:=by simp[isLt] at a1;omega
 have HCR:Aside0 (0<=c/\c<=255):=⟨by omega⟩;have hl1:isLt c=true:=a1;have HDA:=aM (drop_all (P:=isWy) t r a2 a3);have HRN:=aM (show ∀y∈c::t,0<=y/\y<=255 from fun y hy=>by rcases List.mem_cons.1 hy with rfl|hy;exact HCR.out;exact HA.out.s.rng y (by simp[hy]));have HSZ:=aM (show(strOfNums (c::t)).size<=100000 by have h1:=len_of HA.out.s;rw[List.length_append] at h1;rw[size_nums,List.length_cons];omega);clear a1 a2 a3 hcr;go_wp2_with fail;refine(parse_isIdent.calls _ _ _ _ (ident0_f _)).mono ?_;rintro e wq ⟨rfl,⟨nd,rfl⟩⟩;replace HA:=aM (HA.out.drewN nd);replace HB:=aM (HB.out.drewN nd);have t0:=bC HA.out.t 0;have f0:=bF HA.out.t 0;go_wp2_with fail;clear t0 f0;replace HA:=aM ((HA.out.setT 0 (.int .i64 57375)));replace HB:=aM ((HB.out.setO HN.out.2 0 (.int .i64 57375)));refine(scanIdent_q HA.out.s HB.out (by simp) HCR.out.1 HCR.out.2).mono ?_;rw[HDA.out.1,HDA.out.2];rintro e wq ⟨rfl,h5,u5,k5⟩;replace HA:=aM (HA.out.kb h5 k5 HN.out.1 HN.out.2 (by have h1:=HN.out.1;have h2:=HA.out.r0;omega));replace HB:=aM (u5);clear h5 u5 k5;go_wp2_with fail;refine(buStr HB.out (by simpa using HRN.out)).mono ?_;rintro e wq ⟨rfl,⟨nd,rfl⟩⟩;replace HA:=aM (HA.out.drewN nd);replace HB:=aM (HB.out.drewN nd);rw[List.nil_append];generalize strOfNums (c::t)=sv at HKK HSZ|-;have t2:=bC HA.out.t 2;have f2:=bF HA.out.t 2;go_upto_region 107 with fail;clear t2 f2;replace HA:=aM ((HA.out.setT 2 (.string sv)));replace HB:=aM ((HB.out.setO HN.out.2 2 (.string sv)));generalize World.setCell _ _ _=w9 at HA HB|-;obtain⟨bm,hbm,hlk⟩:=(HO.out.on HA.out.f.b HA.out.s.E.b2).m;have hlk2:=hlk _ (bR _ _) sv HSZ.out;have HRB:=aM (HO.out.b sv);clear hlk;have t0:=bC HA.out.t 0;have f0:=bF HA.out.t 0;have t2:=bC HA.out.t 2;have f2:=bF HA.out.t 2;generalize hrs:res sv=rs at hlk2 HRB HKK;clear hrs
 cases rs with
 |none=>
  have e1:(none:Option Int).getD 0=0:=rfl;have e2:(none:Option Int).isSome=false:=rfl;rw[e1,e2] at hlk2;clear e1 e2;go_wp2_with fail;exact HKK.out _ _ ⟨rfl,rfl,⟨rfl,rfl,rfl⟩,trivial⟩ HA.out
 |some v=>
  have e1:(some v:Option Int).getD 0=v:=rfl;have e2:(some v:Option Int).isSome=true:=rfl;rw[e1,e2] at hlk2;clear e1 e2;go_wp2_with fail;exact HKK.out _ _ ⟨rfl,rfl,⟨rfl,rfl,rfl⟩,trivial⟩ (HA.out.setT 0 (.int .i64 v))
end
section
variable {r:List Int} {res:ByteArray->Option Int}
set_option maxRecDepth 100000 in
set_option maxHeartbeats 4000000 in
theorem sw_numd{c:Int}{t:List Int}(a1:isDg c=true)(a2:∀y∈t,isDg y=true)(a3:isDg (hd r)=false)(a4:c=48->t=[]/\hd r≠120/\hd r≠88)(a5:hd r≠46/\hd r≠101/\hd r≠69):SwOK res (c::(t++r)) (57376) (strOfNums (c::(t))) r:=by
 intro w w7 k x R T N src ln co a K Q hA hS hB hN hO hK;have hA2:AtW k.g R T N (c) (fun _=>True) a w7:=hA;obtain⟨⟨u,rfl⟩,_⟩:=hA2.open_;have HN:=aM hN;have HO:=aM hO;have HKK:=aM hK;have HA:Aside0 (Sn w w7 k x R T #[.int .i64 0,.string ⟨#[]⟩,.string ⟨#[]⟩,.string src,.int .i64 ln,.int .i64 co] (t++r)):=⟨hS⟩;have HB:=aM hB;clear hA hA2 hS hB hN hO hK
 conv=>arg 2;whnf
 have hcr:48<=c/\c<=57:=by simpa[isDg] using a1
 have HCR:Aside0 (0<=c/\c<=255):=⟨by omega⟩;have hl1:isLt c=false:=by simp[isLt];omega
 have hl2:isDg c=true:=a1;have HDA:=aM (drop_all (P:=isDg) t r a2 a3);have HZ:Aside0 (c=48->hd (t++r)≠120/\hd (t++r)≠88/\isDg (hd (t++r))=false):=⟨fun hc=>by obtain⟨z1,z2,z3⟩:=a4 hc;subst z1;exact⟨z2,z3,a3⟩⟩;have HE:Aside0 (hd ((t++r).dropWhile isDg)≠46/\hd ((t++r).dropWhile isDg)≠101/\hd ((t++r).dropWhile isDg)≠69):=⟨by rw[HDA.out.1];exact a5⟩;have HRN:=aM (show ∀y∈c::t,0<=y/\y<=255 from fun y hy=>by rcases List.mem_cons.1 hy with rfl|hy;exact HCR.out;exact HA.out.s.rng y (by simp[hy]));clear a1 a2 a3 a4 a5 hcr;go_wp2_with fail;refine(parse_isIdent.calls _ _ _ _ (ident0_f _)).mono ?_;rintro e wq ⟨rfl,⟨nd,rfl⟩⟩;go_wp2_with fail;refine(parse_isDecimal.calls _ _ _ (dec_f _)).mono ?_;rintro e wq2 ⟨rfl,⟨nd2,rfl⟩⟩;replace HA:=aM (HA.out.drewN (nd+nd2));replace HB:=aM (HB.out.drewN (nd+nd2));have t0:=bC HA.out.t 0;have f0:=bF HA.out.t 0;go_wp2_with fail;clear t0 f0;replace HA:=aM ((HA.out.setT 0 (.int .i64 57376)));replace HB:=aM ((HB.out.setO HN.out.2 0 (.int .i64 57376)));refine(scanNumber_d HA.out.s HB.out (by simp) HCR.out.1 HCR.out.2 HZ.out HE.out).mono ?_;rw[HDA.out.1,HDA.out.2];rintro e wq ⟨rfl,h5,u5,k5⟩;replace HA:=aM (HA.out.kb h5 k5 HN.out.1 HN.out.2 (by have h1:=HN.out.1;have h2:=HA.out.r0;omega));replace HB:=aM (u5);clear h5 u5 k5;go_wp2_with fail;refine(buStr HB.out (by simpa using HRN.out)).mono ?_;rintro e wq ⟨rfl,⟨nd,rfl⟩⟩;replace HA:=aM (HA.out.drewN nd);replace HB:=aM (HB.out.drewN nd);rw[List.nil_append];generalize strOfNums (c::(t))=sv at HKK|-;have t2:=bC HA.out.t 2;have f2:=bF HA.out.t 2;go_wp2_with fail;exact HKK.out _ _ ⟨rfl,rfl,⟨rfl,rfl,rfl⟩,trivial⟩ (HA.out.setT 2 (.string sv))
set_option maxRecDepth 100000 in
set_option maxHeartbeats 4000000 in
theorem sw_nume{c:Int}{t:List Int}{es:List Int}{e1:Int}(a1:isDg c=true)(a2:∀y∈t,isDg y=true)(a4:c=48->t=[])(a5:∀y∈e1::es,isDg y=true)(a3:isDg (hd r)=false):SwOK res (c::(t++101::e1::(es++r))) (57376) (strOfNums (c::(t++101::e1::es))) r:=by
 intro w w7 k x R T N src ln co a K Q hA hS hB hN hO hK;have hA2:AtW k.g R T N (c) (fun _=>True) a w7:=hA;obtain⟨⟨u,rfl⟩,_⟩:=hA2.open_;have HN:=aM hN;have HO:=aM hO;have HKK:=aM hK;have HA:Aside0 (Sn w w7 k x R T #[.int .i64 0,.string ⟨#[]⟩,.string ⟨#[]⟩,.string src,.int .i64 ln,.int .i64 co] (t++101::e1::(es++r))):=⟨hS⟩;have HB:=aM hB;clear hA hA2 hS hB hN hO hK
 conv=>arg 2;whnf
 have hcr:48<=c/\c<=57:=by simpa[isDg] using a1
 have HCR:Aside0 (0<=c/\c<=255):=⟨by omega⟩;have hl1:isLt c=false:=by simp[isLt];omega
 have hl2:isDg c=true:=a1;have HDA:=aM (drop_all (P:=isDg) t (101::e1::(es++r)) a2 rfl);have HZ:Aside0 (c=48->hd (t++101::e1::(es++r))≠120/\hd (t++101::e1::(es++r))≠88/\isDg (hd (t++101::e1::(es++r)))=false):=⟨fun hc=>by have z1:=a4 hc;subst z1;exact⟨by show(101:Int)≠120;decide,by show(101:Int)≠88;decide,rfl⟩⟩;have HE:Aside0 ((t++101::e1::(es++r)).dropWhile isDg=101::e1::(es++r)):=⟨HDA.out.1⟩;have HES:=aM a5;have HDR:=aM a3;have HRN:=aM (show ∀y∈c::(t++101::e1::es),0<=y/\y<=255 from fun y hy=>by rcases List.mem_cons.1 hy with rfl|hy;exact HCR.out;exact HA.out.s.rng y (by simp only[List.mem_append,List.mem_cons] at hy|-;rcases hy with h|h|h|h<;>simp[h]));clear a1 a2 a3 a4 a5 hcr;go_wp2_with fail;refine(parse_isIdent.calls _ _ _ _ (ident0_f _)).mono ?_;rintro e wq ⟨rfl,⟨nd,rfl⟩⟩;go_wp2_with fail;refine(parse_isDecimal.calls _ _ _ (dec_f _)).mono ?_;rintro e wq2 ⟨rfl,⟨nd2,rfl⟩⟩;replace HA:=aM (HA.out.drewN (nd+nd2));replace HB:=aM (HB.out.drewN (nd+nd2));have t0:=bC HA.out.t 0;have f0:=bF HA.out.t 0;go_wp2_with fail;clear t0 f0;replace HA:=aM ((HA.out.setT 0 (.int .i64 57376)));replace HB:=aM ((HB.out.setO HN.out.2 0 (.int .i64 57376)));refine(scanNumber_e HA.out.s HB.out (by simp) HCR.out.1 HCR.out.2 HZ.out HE.out HES.out HDR.out).mono ?_;rw[HDA.out.2];rintro e wq ⟨rfl,h5,u5,k5⟩;replace HA:=aM (HA.out.kb h5 k5 HN.out.1 HN.out.2 (by have h1:=HN.out.1;have h2:=HA.out.r0;omega));replace HB:=aM (u5);clear h5 u5 k5;go_wp2_with fail;refine(buStr HB.out (by simpa using HRN.out)).mono ?_;rintro e wq ⟨rfl,⟨nd,rfl⟩⟩;replace HA:=aM (HA.out.drewN nd);replace HB:=aM (HB.out.drewN nd);rw[List.nil_append];generalize strOfNums (c::(t++101::e1::es))=sv at HKK|-;have t2:=bC HA.out.t 2;have f2:=bF HA.out.t 2;go_wp2_with fail;exact HKK.out _ _ ⟨rfl,rfl,⟨rfl,rfl,rfl⟩,trivial⟩ (HA.out.setT 2 (.string sv))
set_option maxRecDepth 100000 in
set_option maxHeartbeats 4000000 in
theorem sw_numm{c:Int}{t:List Int}{es:List Int}{e1:Int}(a1:isDg c=true)(a2:∀y∈t,isDg y=true)(a4:c=48->t=[])(a5:∀y∈e1::es,isDg y=true)(a3:isDg (hd r)=false):SwOK res (c::(t++101::45::e1::(es++r))) (57376) (strOfNums (c::(t++101::45::e1::es))) r:=by
 intro w w7 k x R T N src ln co a K Q hA hS hB hN hO hK;have hA2:AtW k.g R T N (c) (fun _=>True) a w7:=hA;obtain⟨⟨u,rfl⟩,_⟩:=hA2.open_;have HN:=aM hN;have HO:=aM hO;have HKK:=aM hK;have HA:Aside0 (Sn w w7 k x R T #[.int .i64 0,.string ⟨#[]⟩,.string ⟨#[]⟩,.string src,.int .i64 ln,.int .i64 co] (t++101::45::e1::(es++r))):=⟨hS⟩;have HB:=aM hB;clear hA hA2 hS hB hN hO hK
 conv=>arg 2;whnf
 have hcr:48<=c/\c<=57:=by simpa[isDg] using a1
 have HCR:Aside0 (0<=c/\c<=255):=⟨by omega⟩;have hl1:isLt c=false:=by simp[isLt];omega
 have hl2:isDg c=true:=a1;have HDA:=aM (drop_all (P:=isDg) t (101::45::e1::(es++r)) a2 rfl);have HZ:Aside0 (c=48->hd (t++101::45::e1::(es++r))≠120/\hd (t++101::45::e1::(es++r))≠88/\isDg (hd (t++101::45::e1::(es++r)))=false):=⟨fun hc=>by have z1:=a4 hc;subst z1;exact⟨by show(101:Int)≠120;decide,by show(101:Int)≠88;decide,rfl⟩⟩;have HE:Aside0 ((t++101::45::e1::(es++r)).dropWhile isDg=101::45::e1::(es++r)):=⟨HDA.out.1⟩;have HES:=aM a5;have HDR:=aM a3;have HRN:=aM (show ∀y∈c::(t++101::45::e1::es),0<=y/\y<=255 from fun y hy=>by rcases List.mem_cons.1 hy with rfl|hy;exact HCR.out;exact HA.out.s.rng y (by simp only[List.mem_append,List.mem_cons] at hy|-;rcases hy with h|h|h|h|h<;>simp[h]));clear a1 a2 a3 a4 a5 hcr;go_wp2_with fail;refine(parse_isIdent.calls _ _ _ _ (ident0_f _)).mono ?_;rintro e wq ⟨rfl,⟨nd,rfl⟩⟩;go_wp2_with fail;refine(parse_isDecimal.calls _ _ _ (dec_f _)).mono ?_;rintro e wq2 ⟨rfl,⟨nd2,rfl⟩⟩;replace HA:=aM (HA.out.drewN (nd+nd2));replace HB:=aM (HB.out.drewN (nd+nd2));have t0:=bC HA.out.t 0;have f0:=bF HA.out.t 0;go_wp2_with fail;clear t0 f0;replace HA:=aM ((HA.out.setT 0 (.int .i64 57376)));replace HB:=aM ((HB.out.setO HN.out.2 0 (.int .i64 57376)));refine(scanNumber_m HA.out.s HB.out (by simp) HCR.out.1 HCR.out.2 HZ.out HE.out HES.out HDR.out).mono ?_;rw[HDA.out.2];rintro e wq ⟨rfl,h5,u5,k5⟩;replace HA:=aM (HA.out.kb h5 k5 HN.out.1 HN.out.2 (by have h1:=HN.out.1;have h2:=HA.out.r0;omega));replace HB:=aM (u5);clear h5 u5 k5;go_wp2_with fail;refine(buStr HB.out (by simpa using HRN.out)).mono ?_;rintro e wq ⟨rfl,⟨nd,rfl⟩⟩;replace HA:=aM (HA.out.drewN nd);replace HB:=aM (HB.out.drewN nd);rw[List.nil_append];generalize strOfNums (c::(t++101::45::e1::es))=sv at HKK|-;have t2:=bC HA.out.t 2;have f2:=bF HA.out.t 2;go_wp2_with fail;exact HKK.out _ _ ⟨rfl,rfl,⟨rfl,rfl,rfl⟩,trivial⟩ (HA.out.setT 2 (.string sv))
end
section
variable {r:List Int} {res:ByteArray->Option Int}
set_option maxRecDepth 100000 in
set_option maxHeartbeats 4000000 in
theorem sw_str{enc dec:List Int}(hesc:Esc enc dec):SwOK res (34::(enc++34::r)) (57377) (strOfNums dec) r:=by
 intro w w7 k x R T N src ln co a K Q hA hS hB hN hO hK;have hA2:AtW k.g R T N (34) (fun _=>True) a w7:=hA;obtain⟨⟨u,rfl⟩,_⟩:=hA2.open_;have HN:=aM hN;have HO:=aM hO;have HKK:=aM hK;have HA:Aside0 (Sn w w7 k x R T #[.int .i64 0,.string ⟨#[]⟩,.string ⟨#[]⟩,.string src,.int .i64 ln,.int .i64 co] (enc++34::r)):=⟨hS⟩;have HB:=aM hB;clear hA hA2 hS hB hN hO hK
 conv=>arg 2;whnf
 have hl1:isLt 34=false:=rfl;have hl2:isDg 34=false:=rfl;have HRN:=aM (show ∀y∈dec,0<=y/\y<=255 from hesc.rng (fun y hy=>HA.out.s.rng y (by simp[hy])));have HES:=aM hesc;clear hesc;go_wp2_with fail;refine(parse_isIdent.calls _ _ _ _ (ident0_f _)).mono ?_;rintro e wq ⟨rfl,⟨nd,rfl⟩⟩;go_wp2_with fail;refine(parse_isDecimal.calls _ _ _ (dec_f _)).mono ?_;rintro e wq2 ⟨rfl,⟨nd2,rfl⟩⟩;replace HA:=aM (HA.out.drewN (nd+nd2));replace HB:=aM (HB.out.drewN (nd+nd2));have t0:=bC HA.out.t 0;have f0:=bF HA.out.t 0;go_wp2_with fail;clear t0 f0;replace HA:=aM ((HA.out.setT 0 (.int .i64 57377)));replace HB:=aM ((HB.out.setO HN.out.2 0 (.int .i64 57377)));refine(scanString_q HES.out HA.out.s HB.out (by simp)).mono ?_;rintro e wq ⟨rfl,h5,u5,k5⟩;replace HA:=aM (HA.out.kb h5 k5 HN.out.1 HN.out.2 (by have h1:=HN.out.1;have h2:=HA.out.r0;omega));replace HB:=aM (u5);clear h5 u5 k5;go_wp2_with fail;refine(buStr HB.out (by simpa using HRN.out)).mono ?_;rintro e wq ⟨rfl,⟨nd,rfl⟩⟩;replace HA:=aM (HA.out.drewN nd);replace HB:=aM (HB.out.drewN nd);rw[List.nil_append];generalize strOfNums dec=sv at HKK|-;have t2:=bC HA.out.t 2;have f2:=bF HA.out.t 2;go_wp2_with fail;exact HKK.out _ _ ⟨rfl,rfl,⟨rfl,rfl,rfl⟩,trivial⟩ (HA.out.setT 2 (.string sv))
set_option maxRecDepth 100000 in
set_option maxHeartbeats 4000000 in
theorem sw_dot(a0:hd r≠46)(a1:isDg (hd r)=false):SwOK res (46::r) (46) (⟨#[]⟩) r:=by
 intro w w7 k x R T N src ln co a K Q hA hS hB hN hO hK;have hA2:AtW k.g R T N (46) (fun _=>True) a w7:=hA;obtain⟨⟨u,rfl⟩,_⟩:=hA2.open_;have HN:=aM hN;have HO:=aM hO;have HKK:=aM hK;have HA:Aside0 (Sn w w7 k x R T #[.int .i64 0,.string ⟨#[]⟩,.string ⟨#[]⟩,.string src,.int .i64 ln,.int .i64 co] (r)):=⟨hS⟩;have HB:=aM hB;clear hA hA2 hS hB hN hO hK
 conv=>arg 2;whnf
 have hl1:isLt 46=false:=rfl;have hl2:isDg 46=false:=rfl;generalize hq4:hd r=q4 at a0 a1;have HQ4:=aM hq4;clear hq4;have yq40:(q4==46)=false:=beq_eq_false_iff_ne.mpr a0;go_wp2_with fail;refine(parse_isIdent.calls _ _ _ _ (ident0_f _)).mono ?_;rintro e wq ⟨rfl,⟨nd,rfl⟩⟩;go_wp2_with fail;refine(parse_isDecimal.calls _ _ _ (dec_f _)).mono ?_;rintro e wq2 ⟨rfl,⟨nd2,rfl⟩⟩;replace HA:=aM (HA.out.drewN (nd+nd2));replace HB:=aM (HB.out.drewN (nd+nd2));go_wp2_with fail;refine(peek_q HA.out.s).mono ?_;rw[HQ4.out];rintro e wq ⟨rfl,h5,k5⟩;replace HA:=aM (HA.out.kg h5 k5.g);replace HB:=aM (HB.out.kg k5.g);clear h5 k5;go_wp2_with fail;refine(parse_isDecimal.calls _ _ _ (dec_f _)).mono ?_;rintro e wq ⟨rfl,⟨nd,rfl⟩⟩;replace HA:=aM (HA.out.drewN nd);replace HB:=aM (HB.out.drewN nd);have t0:=bC HA.out.t 0;have f0:=bF HA.out.t 0;go_wp2_with fail;clear t0 f0;replace HA:=aM ((HA.out.setT 0 (.int .i64 46)));replace HB:=aM ((HB.out.setO HN.out.2 0 (.int .i64 46)));refine(buStr HB.out (by simp)).mono ?_;rintro e wq ⟨rfl,⟨nd,rfl⟩⟩;replace HA:=aM (HA.out.drewN nd);replace HB:=aM (HB.out.drewN nd);have t2:=bC HA.out.t 2;have f2:=bF HA.out.t 2;go_wp2_with fail;exact HKK.out _ _ ⟨rfl,rfl,⟨rfl,rfl,rfl⟩,trivial⟩ (HA.out.setT 2 (.string ⟨#[]⟩))
set_option maxRecDepth 100000 in
set_option maxHeartbeats 4000000 in
theorem sw_dot2(a0:hd r≠46):SwOK res (46::46::r) (57372) (⟨#[46,46]⟩) r:=by
 intro w w7 k x R T N src ln co a K Q hA hS hB hN hO hK;have hA2:AtW k.g R T N (46) (fun _=>True) a w7:=hA;obtain⟨⟨u,rfl⟩,_⟩:=hA2.open_;have HN:=aM hN;have HO:=aM hO;have HKK:=aM hK;have HA:Aside0 (Sn w w7 k x R T #[.int .i64 0,.string ⟨#[]⟩,.string ⟨#[]⟩,.string src,.int .i64 ln,.int .i64 co] (46::r)):=⟨hS⟩;have HB:=aM hB;clear hA hA2 hS hB hN hO hK
 conv=>arg 2;whnf
 have hl1:isLt 46=false:=rfl;have hl2:isDg 46=false:=rfl;have HQ4:=aM (show hd (46::r)=46 from rfl);have HT4:=aM (show(46::r).tail=r from rfl);generalize hq4:hd r=q5 at a0;have HQ5:=aM hq4;clear hq4;have yq50:(q5==46)=false:=beq_eq_false_iff_ne.mpr a0;go_wp2_with fail;refine(parse_isIdent.calls _ _ _ _ (ident0_f _)).mono ?_;rintro e wq ⟨rfl,⟨nd,rfl⟩⟩;go_wp2_with fail;refine(parse_isDecimal.calls _ _ _ (dec_f _)).mono ?_;rintro e wq2 ⟨rfl,⟨nd2,rfl⟩⟩;replace HA:=aM (HA.out.drewN (nd+nd2));replace HB:=aM (HB.out.drewN (nd+nd2));go_wp2_with fail;refine(peek_q HA.out.s).mono ?_;rw[HQ4.out];rintro e wq ⟨rfl,h5,k5⟩;replace HA:=aM (HA.out.kg h5 k5.g);replace HB:=aM (HB.out.kg k5.g);clear h5 k5;go_wp2_with fail;refine(parse_isDecimal.calls _ _ _ (dec_f _)).mono ?_;rintro e wq ⟨rfl,⟨nd,rfl⟩⟩;replace HA:=aM (HA.out.drewN nd);replace HB:=aM (HB.out.drewN nd);go_wp2_with fail;refine(writeChar_q HB.out (by simp) (by omega) (by omega)).mono ?_;rintro e wq ⟨rfl,h5,k5⟩;replace HA:=aM (HA.out.low k5 HN.out.1 HN.out.2 (by have h1:=HN.out.1;have h2:=HA.out.r0;omega) HB.out.s HB.out.b);replace HB:=aM (h5);clear h5 k5;go_wp2_with fail;refine(next_q HA.out.s).mono ?_;rw[HQ4.out];rintro e wq ⟨rfl,h5,k5⟩;rw[HT4.out] at h5;replace HA:=aM (HA.out.kg h5 k5);replace HB:=aM (HB.out.kg k5);clear h5 k5;go_wp2_with fail;refine(writeChar_q HB.out (by simp) (by omega) (by omega)).mono ?_;rintro e wq ⟨rfl,h5,k5⟩;replace HA:=aM (HA.out.low k5 HN.out.1 HN.out.2 (by have h1:=HN.out.1;have h2:=HA.out.r0;omega) HB.out.s HB.out.b);replace HB:=aM (h5);clear h5 k5;go_wp2_with fail;refine(peek_q HA.out.s).mono ?_;rw[HQ5.out];rintro e wq ⟨rfl,h5,k5⟩;replace HA:=aM (HA.out.kg h5 k5.g);replace HB:=aM (HB.out.kg k5.g);clear h5 k5;have t0:=bC HA.out.t 0;have f0:=bF HA.out.t 0;go_wp2_with fail;clear t0 f0;replace HA:=aM ((HA.out.setT 0 (.int .i64 57372)));replace HB:=aM ((HB.out.setO HN.out.2 0 (.int .i64 57372)));refine(buStr HB.out (by simp)).mono ?_;rintro e wq ⟨rfl,⟨nd,rfl⟩⟩;replace HA:=aM (HA.out.drewN nd);replace HB:=aM (HB.out.drewN nd);have hsv:strOfNums ([]++[46]++[46])=⟨#[46,46]⟩:=rfl;rw[hsv];have t2:=bC HA.out.t 2;have f2:=bF HA.out.t 2;go_wp2_with fail;exact HKK.out _ _ ⟨rfl,rfl,⟨rfl,rfl,rfl⟩,trivial⟩ (HA.out.setT 2 (.string ⟨#[46,46]⟩))
set_option maxRecDepth 100000 in
set_option maxHeartbeats 4000000 in
theorem sw_dot3:SwOK res (46::46::46::r) (57373) (⟨#[46,46,46]⟩) r:=by
 intro w w7 k x R T N src ln co a K Q hA hS hB hN hO hK;have hA2:AtW k.g R T N (46) (fun _=>True) a w7:=hA;obtain⟨⟨u,rfl⟩,_⟩:=hA2.open_;have HN:=aM hN;have HO:=aM hO;have HKK:=aM hK;have HA:Aside0 (Sn w w7 k x R T #[.int .i64 0,.string ⟨#[]⟩,.string ⟨#[]⟩,.string src,.int .i64 ln,.int .i64 co] (46::46::r)):=⟨hS⟩;have HB:=aM hB;clear hA hA2 hS hB hN hO hK
 conv=>arg 2;whnf
 have hl1:isLt 46=false:=rfl;have hl2:isDg 46=false:=rfl;have HQ4:=aM (show hd (46::46::r)=46 from rfl);have HT4:=aM (show(46::46::r).tail=46::r from rfl);have HQ5:=aM (show hd (46::r)=46 from rfl);have HT5:=aM (show(46::r).tail=r from rfl);go_wp2_with fail;refine(parse_isIdent.calls _ _ _ _ (ident0_f _)).mono ?_;rintro e wq ⟨rfl,⟨nd,rfl⟩⟩;go_wp2_with fail;refine(parse_isDecimal.calls _ _ _ (dec_f _)).mono ?_;rintro e wq2 ⟨rfl,⟨nd2,rfl⟩⟩;replace HA:=aM (HA.out.drewN (nd+nd2));replace HB:=aM (HB.out.drewN (nd+nd2));go_wp2_with fail;refine(peek_q HA.out.s).mono ?_;rw[HQ4.out];rintro e wq ⟨rfl,h5,k5⟩;replace HA:=aM (HA.out.kg h5 k5.g);replace HB:=aM (HB.out.kg k5.g);clear h5 k5;go_wp2_with fail;refine(parse_isDecimal.calls _ _ _ (dec_f _)).mono ?_;rintro e wq ⟨rfl,⟨nd,rfl⟩⟩;replace HA:=aM (HA.out.drewN nd);replace HB:=aM (HB.out.drewN nd);go_wp2_with fail;refine(writeChar_q HB.out (by simp) (by omega) (by omega)).mono ?_;rintro e wq ⟨rfl,h5,k5⟩;replace HA:=aM (HA.out.low k5 HN.out.1 HN.out.2 (by have h1:=HN.out.1;have h2:=HA.out.r0;omega) HB.out.s HB.out.b);replace HB:=aM (h5);clear h5 k5;go_wp2_with fail;refine(next_q HA.out.s).mono ?_;rw[HQ4.out];rintro e wq ⟨rfl,h5,k5⟩;rw[HT4.out] at h5;replace HA:=aM (HA.out.kg h5 k5);replace HB:=aM (HB.out.kg k5);clear h5 k5;go_wp2_with fail;refine(writeChar_q HB.out (by simp) (by omega) (by omega)).mono ?_;rintro e wq ⟨rfl,h5,k5⟩;replace HA:=aM (HA.out.low k5 HN.out.1 HN.out.2 (by have h1:=HN.out.1;have h2:=HA.out.r0;omega) HB.out.s HB.out.b);replace HB:=aM (h5);clear h5 k5;go_wp2_with fail;refine(peek_q HA.out.s).mono ?_;rw[HQ5.out];rintro e wq ⟨rfl,h5,k5⟩;replace HA:=aM (HA.out.kg h5 k5.g);replace HB:=aM (HB.out.kg k5.g);clear h5 k5;go_wp2_with fail;refine(next_q HA.out.s).mono ?_;rw[HQ5.out];rintro e wq ⟨rfl,h5,k5⟩;rw[HT5.out] at h5;replace HA:=aM (HA.out.kg h5 k5);replace HB:=aM (HB.out.kg k5);clear h5 k5;go_wp2_with fail;refine(writeChar_q HB.out (by simp) (by omega) (by omega)).mono ?_;rintro e wq ⟨rfl,h5,k5⟩;replace HA:=aM (HA.out.low k5 HN.out.1 HN.out.2 (by have h1:=HN.out.1;have h2:=HA.out.r0;omega) HB.out.s HB.out.b);replace HB:=aM (h5);clear h5 k5;have t0:=bC HA.out.t 0;have f0:=bF HA.out.t 0;go_wp2_with fail;clear t0 f0;replace HA:=aM ((HA.out.setT 0 (.int .i64 57373)));replace HB:=aM ((HB.out.setO HN.out.2 0 (.int .i64 57373)));refine(buStr HB.out (by simp)).mono ?_;rintro e wq ⟨rfl,⟨nd,rfl⟩⟩;replace HA:=aM (HA.out.drewN nd);replace HB:=aM (HB.out.drewN nd);have hsv:strOfNums ([]++[46]++[46]++[46])=⟨#[46,46,46]⟩:=rfl;rw[hsv];have t2:=bC HA.out.t 2;have f2:=bF HA.out.t 2;go_wp2_with fail;exact HKK.out _ _ ⟨rfl,rfl,⟨rfl,rfl,rfl⟩,trivial⟩ (HA.out.setT 2 (.string ⟨#[46,46,46]⟩))
end
section
variable {r:List Int} {res:ByteArray->Option Int}
set_option maxRecDepth 100000 in
set_option maxHeartbeats 4000000 in
theorem sw_op61(a0:hd r≠61):SwOK res (61::r) (61) (Utf8.encode 61) r:=by
 intro w w7 k x R T N src ln co a K Q hA hS hB hN hO hK;have hA2:AtW k.g R T N (61) (fun _=>True) a w7:=hA;obtain⟨⟨u,rfl⟩,_⟩:=hA2.open_;have HN:=aM hN;have HO:=aM hO;have HKK:=aM hK;have HA:Aside0 (Sn w w7 k x R T #[.int .i64 0,.string ⟨#[]⟩,.string ⟨#[]⟩,.string src,.int .i64 ln,.int .i64 co] (r)):=⟨hS⟩;have HB:=aM hB;clear hA hA2 hS hB hN hO hK
 conv=>arg 2;whnf
 have hl1:isLt 61=false:=rfl;have hl2:isDg 61=false:=rfl;generalize hq4:hd r=q4 at a0;have HQ4:=aM hq4;clear hq4;have yq40:(q4==61)=false:=beq_eq_false_iff_ne.mpr a0;go_wp2_with fail;refine(parse_isIdent.calls _ _ _ _ (ident0_f _)).mono ?_;rintro e wq ⟨rfl,⟨nd,rfl⟩⟩;go_wp2_with fail;refine(parse_isDecimal.calls _ _ _ (dec_f _)).mono ?_;rintro e wq2 ⟨rfl,⟨nd2,rfl⟩⟩;replace HA:=aM (HA.out.drewN (nd+nd2));replace HB:=aM (HB.out.drewN (nd+nd2));go_wp2_with fail;refine(peek_q HA.out.s).mono ?_;rw[HQ4.out];rintro e wq ⟨rfl,h5,k5⟩;replace HA:=aM (HA.out.kg h5 k5.g);replace HB:=aM (HB.out.kg k5.g);clear h5 k5;have t0:=bC HA.out.t 0;have f0:=bF HA.out.t 0;have t2:=bC HA.out.t 2;have f2:=bF HA.out.t 2;go_wp2_with fail;exact HKK.out _ _ ⟨rfl,rfl,⟨rfl,rfl,rfl⟩,trivial⟩ ((HA.out.setT 0 (.int .i64 61)).setT 2 (.string (Utf8.encode 61)))
set_option maxRecDepth 100000 in
set_option maxHeartbeats 4000000 in
theorem sw_op60(a0:hd r≠61):SwOK res (60::r) (60) (Utf8.encode 60) r:=by
 intro w w7 k x R T N src ln co a K Q hA hS hB hN hO hK;have hA2:AtW k.g R T N (60) (fun _=>True) a w7:=hA;obtain⟨⟨u,rfl⟩,_⟩:=hA2.open_;have HN:=aM hN;have HO:=aM hO;have HKK:=aM hK;have HA:Aside0 (Sn w w7 k x R T #[.int .i64 0,.string ⟨#[]⟩,.string ⟨#[]⟩,.string src,.int .i64 ln,.int .i64 co] (r)):=⟨hS⟩;have HB:=aM hB;clear hA hA2 hS hB hN hO hK
 conv=>arg 2;whnf
 have hl1:isLt 60=false:=rfl;have hl2:isDg 60=false:=rfl;generalize hq4:hd r=q4 at a0;have HQ4:=aM hq4;clear hq4;have yq40:(q4==61)=false:=beq_eq_false_iff_ne.mpr a0;go_wp2_with fail;refine(parse_isIdent.calls _ _ _ _ (ident0_f _)).mono ?_;rintro e wq ⟨rfl,⟨nd,rfl⟩⟩;go_wp2_with fail;refine(parse_isDecimal.calls _ _ _ (dec_f _)).mono ?_;rintro e wq2 ⟨rfl,⟨nd2,rfl⟩⟩;replace HA:=aM (HA.out.drewN (nd+nd2));replace HB:=aM (HB.out.drewN (nd+nd2));go_wp2_with fail;refine(peek_q HA.out.s).mono ?_;rw[HQ4.out];rintro e wq ⟨rfl,h5,k5⟩;replace HA:=aM (HA.out.kg h5 k5.g);replace HB:=aM (HB.out.kg k5.g);clear h5 k5;have t0:=bC HA.out.t 0;have f0:=bF HA.out.t 0;have t2:=bC HA.out.t 2;have f2:=bF HA.out.t 2;go_wp2_with fail;exact HKK.out _ _ ⟨rfl,rfl,⟨rfl,rfl,rfl⟩,trivial⟩ ((HA.out.setT 0 (.int .i64 60)).setT 2 (.string (Utf8.encode 60)))
set_option maxRecDepth 100000 in
set_option maxHeartbeats 4000000 in
theorem sw_op62(a0:hd r≠61):SwOK res (62::r) (62) (Utf8.encode 62) r:=by
 intro w w7 k x R T N src ln co a K Q hA hS hB hN hO hK;have hA2:AtW k.g R T N (62) (fun _=>True) a w7:=hA;obtain⟨⟨u,rfl⟩,_⟩:=hA2.open_;have HN:=aM hN;have HO:=aM hO;have HKK:=aM hK;have HA:Aside0 (Sn w w7 k x R T #[.int .i64 0,.string ⟨#[]⟩,.string ⟨#[]⟩,.string src,.int .i64 ln,.int .i64 co] (r)):=⟨hS⟩;have HB:=aM hB;clear hA hA2 hS hB hN hO hK
 conv=>arg 2;whnf
 have hl1:isLt 62=false:=rfl;have hl2:isDg 62=false:=rfl;generalize hq4:hd r=q4 at a0;have HQ4:=aM hq4;clear hq4;have yq40:(q4==61)=false:=beq_eq_false_iff_ne.mpr a0;go_wp2_with fail;refine(parse_isIdent.calls _ _ _ _ (ident0_f _)).mono ?_;rintro e wq ⟨rfl,⟨nd,rfl⟩⟩;go_wp2_with fail;refine(parse_isDecimal.calls _ _ _ (dec_f _)).mono ?_;rintro e wq2 ⟨rfl,⟨nd2,rfl⟩⟩;replace HA:=aM (HA.out.drewN (nd+nd2));replace HB:=aM (HB.out.drewN (nd+nd2));go_wp2_with fail;refine(peek_q HA.out.s).mono ?_;rw[HQ4.out];rintro e wq ⟨rfl,h5,k5⟩;replace HA:=aM (HA.out.kg h5 k5.g);replace HB:=aM (HB.out.kg k5.g);clear h5 k5;have t0:=bC HA.out.t 0;have f0:=bF HA.out.t 0;have t2:=bC HA.out.t 2;have f2:=bF HA.out.t 2;go_wp2_with fail;exact HKK.out _ _ ⟨rfl,rfl,⟨rfl,rfl,rfl⟩,trivial⟩ ((HA.out.setT 0 (.int .i64 62)).setT 2 (.string (Utf8.encode 62)))
set_option maxRecDepth 100000 in
set_option maxHeartbeats 4000000 in
theorem sw_eqeq:SwOK res (61::61::r) (57368) (⟨#[61,61]⟩) r:=by
 intro w w7 k x R T N src ln co a K Q hA hS hB hN hO hK;have hA2:AtW k.g R T N (61) (fun _=>True) a w7:=hA;obtain⟨⟨u,rfl⟩,_⟩:=hA2.open_;have HN:=aM hN;have HO:=aM hO;have HKK:=aM hK;have HA:Aside0 (Sn w w7 k x R T #[.int .i64 0,.string ⟨#[]⟩,.string ⟨#[]⟩,.string src,.int .i64 ln,.int .i64 co] (61::r)):=⟨hS⟩;have HB:=aM hB;clear hA hA2 hS hB hN hO hK
 conv=>arg 2;whnf
 have hl1:isLt 61=false:=rfl;have hl2:isDg 61=false:=rfl;have HQ4:=aM (show hd (61::r)=61 from rfl);have HT4:=aM (show(61::r).tail=r from rfl);go_wp2_with fail;refine(parse_isIdent.calls _ _ _ _ (ident0_f _)).mono ?_;rintro e wq ⟨rfl,⟨nd,rfl⟩⟩;go_wp2_with fail;refine(parse_isDecimal.calls _ _ _ (dec_f _)).mono ?_;rintro e wq2 ⟨rfl,⟨nd2,rfl⟩⟩;replace HA:=aM (HA.out.drewN (nd+nd2));replace HB:=aM (HB.out.drewN (nd+nd2));go_wp2_with fail;refine(peek_q HA.out.s).mono ?_;rw[HQ4.out];rintro e wq ⟨rfl,h5,k5⟩;replace HA:=aM (HA.out.kg h5 k5.g);replace HB:=aM (HB.out.kg k5.g);clear h5 k5;have t0:=bC HA.out.t 0;have f0:=bF HA.out.t 0;have t2:=bC HA.out.t 2;have f2:=bF HA.out.t 2;go_wp2_with fail;clear t0 f0 t2 f2;replace HA:=aM (((HA.out.setT 0 (.int .i64 57368)).setT 2 (.string ⟨#[61,61]⟩)));replace HB:=aM (((HB.out.setO HN.out.2 0 (.int .i64 57368)).setO HN.out.2 2 (.string ⟨#[61,61]⟩)));refine(next_q HA.out.s).mono ?_;rw[HQ4.out];rintro e wq ⟨rfl,h5,k5⟩;rw[HT4.out] at h5;replace HA:=aM (HA.out.kg h5 k5);replace HB:=aM (HB.out.kg k5);clear h5 k5;go_wp2_with fail;exact HKK.out _ _ ⟨rfl,rfl,⟨rfl,rfl,rfl⟩,trivial⟩ HA.out
set_option maxRecDepth 100000 in
set_option maxHeartbeats 4000000 in
theorem sw_neq:SwOK res (126::61::r) (57369) (⟨#[126,61]⟩) r:=by
 intro w w7 k x R T N src ln co a K Q hA hS hB hN hO hK;have hA2:AtW k.g R T N (126) (fun _=>True) a w7:=hA;obtain⟨⟨u,rfl⟩,_⟩:=hA2.open_;have HN:=aM hN;have HO:=aM hO;have HKK:=aM hK;have HA:Aside0 (Sn w w7 k x R T #[.int .i64 0,.string ⟨#[]⟩,.string ⟨#[]⟩,.string src,.int .i64 ln,.int .i64 co] (61::r)):=⟨hS⟩;have HB:=aM hB;clear hA hA2 hS hB hN hO hK
 conv=>arg 2;whnf
 have hl1:isLt 126=false:=rfl;have hl2:isDg 126=false:=rfl;have HQ4:=aM (show hd (61::r)=61 from rfl);have HT4:=aM (show(61::r).tail=r from rfl);go_wp2_with fail;refine(parse_isIdent.calls _ _ _ _ (ident0_f _)).mono ?_;rintro e wq ⟨rfl,⟨nd,rfl⟩⟩;go_wp2_with fail;refine(parse_isDecimal.calls _ _ _ (dec_f _)).mono ?_;rintro e wq2 ⟨rfl,⟨nd2,rfl⟩⟩;replace HA:=aM (HA.out.drewN (nd+nd2));replace HB:=aM (HB.out.drewN (nd+nd2));go_wp2_with fail;refine(peek_q HA.out.s).mono ?_;rw[HQ4.out];rintro e wq ⟨rfl,h5,k5⟩;replace HA:=aM (HA.out.kg h5 k5.g);replace HB:=aM (HB.out.kg k5.g);clear h5 k5;have t0:=bC HA.out.t 0;have f0:=bF HA.out.t 0;have t2:=bC HA.out.t 2;have f2:=bF HA.out.t 2;go_wp2_with fail;clear t0 f0 t2 f2;replace HA:=aM (((HA.out.setT 0 (.int .i64 57369)).setT 2 (.string ⟨#[126,61]⟩)));replace HB:=aM (((HB.out.setO HN.out.2 0 (.int .i64 57369)).setO HN.out.2 2 (.string ⟨#[126,61]⟩)));refine(next_q HA.out.s).mono ?_;rw[HQ4.out];rintro e wq ⟨rfl,h5,k5⟩;rw[HT4.out] at h5;replace HA:=aM (HA.out.kg h5 k5);replace HB:=aM (HB.out.kg k5);clear h5 k5;go_wp2_with fail;exact HKK.out _ _ ⟨rfl,rfl,⟨rfl,rfl,rfl⟩,trivial⟩ HA.out
set_option maxRecDepth 100000 in
set_option maxHeartbeats 4000000 in
theorem sw_le:SwOK res (60::61::r) (57370) (⟨#[60,61]⟩) r:=by
 intro w w7 k x R T N src ln co a K Q hA hS hB hN hO hK;have hA2:AtW k.g R T N (60) (fun _=>True) a w7:=hA;obtain⟨⟨u,rfl⟩,_⟩:=hA2.open_;have HN:=aM hN;have HO:=aM hO;have HKK:=aM hK;have HA:Aside0 (Sn w w7 k x R T #[.int .i64 0,.string ⟨#[]⟩,.string ⟨#[]⟩,.string src,.int .i64 ln,.int .i64 co] (61::r)):=⟨hS⟩;have HB:=aM hB;clear hA hA2 hS hB hN hO hK
 conv=>arg 2;whnf
 have hl1:isLt 60=false:=rfl;have hl2:isDg 60=false:=rfl;have HQ4:=aM (show hd (61::r)=61 from rfl);have HT4:=aM (show(61::r).tail=r from rfl);go_wp2_with fail;refine(parse_isIdent.calls _ _ _ _ (ident0_f _)).mono ?_;rintro e wq ⟨rfl,⟨nd,rfl⟩⟩;go_wp2_with fail;refine(parse_isDecimal.calls _ _ _ (dec_f _)).mono ?_;rintro e wq2 ⟨rfl,⟨nd2,rfl⟩⟩;replace HA:=aM (HA.out.drewN (nd+nd2));replace HB:=aM (HB.out.drewN (nd+nd2));go_wp2_with fail;refine(peek_q HA.out.s).mono ?_;rw[HQ4.out];rintro e wq ⟨rfl,h5,k5⟩;replace HA:=aM (HA.out.kg h5 k5.g);replace HB:=aM (HB.out.kg k5.g);clear h5 k5;have t0:=bC HA.out.t 0;have f0:=bF HA.out.t 0;have t2:=bC HA.out.t 2;have f2:=bF HA.out.t 2;go_wp2_with fail;clear t0 f0 t2 f2;replace HA:=aM (((HA.out.setT 0 (.int .i64 57370)).setT 2 (.string ⟨#[60,61]⟩)));replace HB:=aM (((HB.out.setO HN.out.2 0 (.int .i64 57370)).setO HN.out.2 2 (.string ⟨#[60,61]⟩)));refine(next_q HA.out.s).mono ?_;rw[HQ4.out];rintro e wq ⟨rfl,h5,k5⟩;rw[HT4.out] at h5;replace HA:=aM (HA.out.kg h5 k5);replace HB:=aM (HB.out.kg k5);clear h5 k5;go_wp2_with fail;exact HKK.out _ _ ⟨rfl,rfl,⟨rfl,rfl,rfl⟩,trivial⟩ HA.out
set_option maxRecDepth 100000 in
set_option maxHeartbeats 4000000 in
theorem sw_ge:SwOK res (62::61::r) (57371) (⟨#[62,61]⟩) r:=by
 intro w w7 k x R T N src ln co a K Q hA hS hB hN hO hK;have hA2:AtW k.g R T N (62) (fun _=>True) a w7:=hA;obtain⟨⟨u,rfl⟩,_⟩:=hA2.open_;have HN:=aM hN;have HO:=aM hO;have HKK:=aM hK;have HA:Aside0 (Sn w w7 k x R T #[.int .i64 0,.string ⟨#[]⟩,.string ⟨#[]⟩,.string src,.int .i64 ln,.int .i64 co] (61::r)):=⟨hS⟩;have HB:=aM hB;clear hA hA2 hS hB hN hO hK
 conv=>arg 2;whnf
 have hl1:isLt 62=false:=rfl;have hl2:isDg 62=false:=rfl;have HQ4:=aM (show hd (61::r)=61 from rfl);have HT4:=aM (show(61::r).tail=r from rfl);go_wp2_with fail;refine(parse_isIdent.calls _ _ _ _ (ident0_f _)).mono ?_;rintro e wq ⟨rfl,⟨nd,rfl⟩⟩;go_wp2_with fail;refine(parse_isDecimal.calls _ _ _ (dec_f _)).mono ?_;rintro e wq2 ⟨rfl,⟨nd2,rfl⟩⟩;replace HA:=aM (HA.out.drewN (nd+nd2));replace HB:=aM (HB.out.drewN (nd+nd2));go_wp2_with fail;refine(peek_q HA.out.s).mono ?_;rw[HQ4.out];rintro e wq ⟨rfl,h5,k5⟩;replace HA:=aM (HA.out.kg h5 k5.g);replace HB:=aM (HB.out.kg k5.g);clear h5 k5;have t0:=bC HA.out.t 0;have f0:=bF HA.out.t 0;have t2:=bC HA.out.t 2;have f2:=bF HA.out.t 2;go_wp2_with fail;clear t0 f0 t2 f2;replace HA:=aM (((HA.out.setT 0 (.int .i64 57371)).setT 2 (.string ⟨#[62,61]⟩)));replace HB:=aM (((HB.out.setO HN.out.2 0 (.int .i64 57371)).setO HN.out.2 2 (.string ⟨#[62,61]⟩)));refine(next_q HA.out.s).mono ?_;rw[HQ4.out];rintro e wq ⟨rfl,h5,k5⟩;rw[HT4.out] at h5;replace HA:=aM (HA.out.kg h5 k5);replace HB:=aM (HB.out.kg k5);clear h5 k5;go_wp2_with fail;exact HKK.out _ _ ⟨rfl,rfl,⟨rfl,rfl,rfl⟩,trivial⟩ HA.out
end
section
variable {r:List Int} {res:ByteArray->Option Int}
set_option maxRecDepth 100000 in
set_option maxHeartbeats 4000000 in
theorem sw_one43:SwOK res (43::r) (43) (Utf8.encode 43) r:=by
 intro w w7 k x R T N src ln co a K Q hA hS hB hN hO hK;have hA2:AtW k.g R T N (43) (fun _=>True) a w7:=hA;obtain⟨⟨u,rfl⟩,_⟩:=hA2.open_;have HN:=aM hN;have HO:=aM hO;have HKK:=aM hK;have HA:Aside0 (Sn w w7 k x R T #[.int .i64 0,.string ⟨#[]⟩,.string ⟨#[]⟩,.string src,.int .i64 ln,.int .i64 co] (r)):=⟨hS⟩;have HB:=aM hB;clear hA hA2 hS hB hN hO hK
 conv=>arg 2;whnf
 have hl1:isLt 43=false:=rfl;have hl2:isDg 43=false:=rfl;go_wp2_with fail;refine(parse_isIdent.calls _ _ _ _ (ident0_f _)).mono ?_;rintro e wq ⟨rfl,⟨nd,rfl⟩⟩;go_wp2_with fail;refine(parse_isDecimal.calls _ _ _ (dec_f _)).mono ?_;rintro e wq2 ⟨rfl,⟨nd2,rfl⟩⟩;replace HA:=aM (HA.out.drewN (nd+nd2));replace HB:=aM (HB.out.drewN (nd+nd2));have t0:=bC HA.out.t 0;have f0:=bF HA.out.t 0;have t2:=bC HA.out.t 2;have f2:=bF HA.out.t 2;go_wp2_with fail;exact HKK.out _ _ ⟨rfl,rfl,⟨rfl,rfl,rfl⟩,trivial⟩ ((HA.out.setT 0 (.int .i64 43)).setT 2 (.string (Utf8.encode 43)))
set_option maxRecDepth 100000 in
set_option maxHeartbeats 4000000 in
theorem sw_one42:SwOK res (42::r) (42) (Utf8.encode 42) r:=by
 intro w w7 k x R T N src ln co a K Q hA hS hB hN hO hK;have hA2:AtW k.g R T N (42) (fun _=>True) a w7:=hA;obtain⟨⟨u,rfl⟩,_⟩:=hA2.open_;have HN:=aM hN;have HO:=aM hO;have HKK:=aM hK;have HA:Aside0 (Sn w w7 k x R T #[.int .i64 0,.string ⟨#[]⟩,.string ⟨#[]⟩,.string src,.int .i64 ln,.int .i64 co] (r)):=⟨hS⟩;have HB:=aM hB;clear hA hA2 hS hB hN hO hK
 conv=>arg 2;whnf
 have hl1:isLt 42=false:=rfl;have hl2:isDg 42=false:=rfl;go_wp2_with fail;refine(parse_isIdent.calls _ _ _ _ (ident0_f _)).mono ?_;rintro e wq ⟨rfl,⟨nd,rfl⟩⟩;go_wp2_with fail;refine(parse_isDecimal.calls _ _ _ (dec_f _)).mono ?_;rintro e wq2 ⟨rfl,⟨nd2,rfl⟩⟩;replace HA:=aM (HA.out.drewN (nd+nd2));replace HB:=aM (HB.out.drewN (nd+nd2));have t0:=bC HA.out.t 0;have f0:=bF HA.out.t 0;have t2:=bC HA.out.t 2;have f2:=bF HA.out.t 2;go_wp2_with fail;exact HKK.out _ _ ⟨rfl,rfl,⟨rfl,rfl,rfl⟩,trivial⟩ ((HA.out.setT 0 (.int .i64 42)).setT 2 (.string (Utf8.encode 42)))
set_option maxRecDepth 100000 in
set_option maxHeartbeats 4000000 in
theorem sw_one47:SwOK res (47::r) (47) (Utf8.encode 47) r:=by
 intro w w7 k x R T N src ln co a K Q hA hS hB hN hO hK;have hA2:AtW k.g R T N (47) (fun _=>True) a w7:=hA;obtain⟨⟨u,rfl⟩,_⟩:=hA2.open_;have HN:=aM hN;have HO:=aM hO;have HKK:=aM hK;have HA:Aside0 (Sn w w7 k x R T #[.int .i64 0,.string ⟨#[]⟩,.string ⟨#[]⟩,.string src,.int .i64 ln,.int .i64 co] (r)):=⟨hS⟩;have HB:=aM hB;clear hA hA2 hS hB hN hO hK
 conv=>arg 2;whnf
 have hl1:isLt 47=false:=rfl;have hl2:isDg 47=false:=rfl;go_wp2_with fail;refine(parse_isIdent.calls _ _ _ _ (ident0_f _)).mono ?_;rintro e wq ⟨rfl,⟨nd,rfl⟩⟩;go_wp2_with fail;refine(parse_isDecimal.calls _ _ _ (dec_f _)).mono ?_;rintro e wq2 ⟨rfl,⟨nd2,rfl⟩⟩;replace HA:=aM (HA.out.drewN (nd+nd2));replace HB:=aM (HB.out.drewN (nd+nd2));have t0:=bC HA.out.t 0;have f0:=bF HA.out.t 0;have t2:=bC HA.out.t 2;have f2:=bF HA.out.t 2;go_wp2_with fail;exact HKK.out _ _ ⟨rfl,rfl,⟨rfl,rfl,rfl⟩,trivial⟩ ((HA.out.setT 0 (.int .i64 47)).setT 2 (.string (Utf8.encode 47)))
set_option maxRecDepth 100000 in
set_option maxHeartbeats 4000000 in
theorem sw_one37:SwOK res (37::r) (37) (Utf8.encode 37) r:=by
 intro w w7 k x R T N src ln co a K Q hA hS hB hN hO hK;have hA2:AtW k.g R T N (37) (fun _=>True) a w7:=hA;obtain⟨⟨u,rfl⟩,_⟩:=hA2.open_;have HN:=aM hN;have HO:=aM hO;have HKK:=aM hK;have HA:Aside0 (Sn w w7 k x R T #[.int .i64 0,.string ⟨#[]⟩,.string ⟨#[]⟩,.string src,.int .i64 ln,.int .i64 co] (r)):=⟨hS⟩;have HB:=aM hB;clear hA hA2 hS hB hN hO hK
 conv=>arg 2;whnf
 have hl1:isLt 37=false:=rfl;have hl2:isDg 37=false:=rfl;go_wp2_with fail;refine(parse_isIdent.calls _ _ _ _ (ident0_f _)).mono ?_;rintro e wq ⟨rfl,⟨nd,rfl⟩⟩;go_wp2_with fail;refine(parse_isDecimal.calls _ _ _ (dec_f _)).mono ?_;rintro e wq2 ⟨rfl,⟨nd2,rfl⟩⟩;replace HA:=aM (HA.out.drewN (nd+nd2));replace HB:=aM (HB.out.drewN (nd+nd2));have t0:=bC HA.out.t 0;have f0:=bF HA.out.t 0;have t2:=bC HA.out.t 2;have f2:=bF HA.out.t 2;go_wp2_with fail;exact HKK.out _ _ ⟨rfl,rfl,⟨rfl,rfl,rfl⟩,trivial⟩ ((HA.out.setT 0 (.int .i64 37)).setT 2 (.string (Utf8.encode 37)))
set_option maxRecDepth 100000 in
set_option maxHeartbeats 4000000 in
theorem sw_one94:SwOK res (94::r) (94) (Utf8.encode 94) r:=by
 intro w w7 k x R T N src ln co a K Q hA hS hB hN hO hK;have hA2:AtW k.g R T N (94) (fun _=>True) a w7:=hA;obtain⟨⟨u,rfl⟩,_⟩:=hA2.open_;have HN:=aM hN;have HO:=aM hO;have HKK:=aM hK;have HA:Aside0 (Sn w w7 k x R T #[.int .i64 0,.string ⟨#[]⟩,.string ⟨#[]⟩,.string src,.int .i64 ln,.int .i64 co] (r)):=⟨hS⟩;have HB:=aM hB;clear hA hA2 hS hB hN hO hK
 conv=>arg 2;whnf
 have hl1:isLt 94=false:=rfl;have hl2:isDg 94=false:=rfl;go_wp2_with fail;refine(parse_isIdent.calls _ _ _ _ (ident0_f _)).mono ?_;rintro e wq ⟨rfl,⟨nd,rfl⟩⟩;go_wp2_with fail;refine(parse_isDecimal.calls _ _ _ (dec_f _)).mono ?_;rintro e wq2 ⟨rfl,⟨nd2,rfl⟩⟩;replace HA:=aM (HA.out.drewN (nd+nd2));replace HB:=aM (HB.out.drewN (nd+nd2));have t0:=bC HA.out.t 0;have f0:=bF HA.out.t 0;have t2:=bC HA.out.t 2;have f2:=bF HA.out.t 2;go_wp2_with fail;exact HKK.out _ _ ⟨rfl,rfl,⟨rfl,rfl,rfl⟩,trivial⟩ ((HA.out.setT 0 (.int .i64 94)).setT 2 (.string (Utf8.encode 94)))
set_option maxRecDepth 100000 in
set_option maxHeartbeats 4000000 in
theorem sw_one35:SwOK res (35::r) (35) (Utf8.encode 35) r:=by
 intro w w7 k x R T N src ln co a K Q hA hS hB hN hO hK;have hA2:AtW k.g R T N (35) (fun _=>True) a w7:=hA;obtain⟨⟨u,rfl⟩,_⟩:=hA2.open_;have HN:=aM hN;have HO:=aM hO;have HKK:=aM hK;have HA:Aside0 (Sn w w7 k x R T #[.int .i64 0,.string ⟨#[]⟩,.string ⟨#[]⟩,.string src,.int .i64 ln,.int .i64 co] (r)):=⟨hS⟩;have HB:=aM hB;clear hA hA2 hS hB hN hO hK
 conv=>arg 2;whnf
 have hl1:isLt 35=false:=rfl;have hl2:isDg 35=false:=rfl;go_wp2_with fail;refine(parse_isIdent.calls _ _ _ _ (ident0_f _)).mono ?_;rintro e wq ⟨rfl,⟨nd,rfl⟩⟩;go_wp2_with fail;refine(parse_isDecimal.calls _ _ _ (dec_f _)).mono ?_;rintro e wq2 ⟨rfl,⟨nd2,rfl⟩⟩;replace HA:=aM (HA.out.drewN (nd+nd2));replace HB:=aM (HB.out.drewN (nd+nd2));have t0:=bC HA.out.t 0;have f0:=bF HA.out.t 0;have t2:=bC HA.out.t 2;have f2:=bF HA.out.t 2;go_wp2_with fail;exact HKK.out _ _ ⟨rfl,rfl,⟨rfl,rfl,rfl⟩,trivial⟩ ((HA.out.setT 0 (.int .i64 35)).setT 2 (.string (Utf8.encode 35)))
set_option maxRecDepth 100000 in
set_option maxHeartbeats 4000000 in
theorem sw_one40:SwOK res (40::r) (40) (Utf8.encode 40) r:=by
 intro w w7 k x R T N src ln co a K Q hA hS hB hN hO hK;have hA2:AtW k.g R T N (40) (fun _=>True) a w7:=hA;obtain⟨⟨u,rfl⟩,_⟩:=hA2.open_;have HN:=aM hN;have HO:=aM hO;have HKK:=aM hK;have HA:Aside0 (Sn w w7 k x R T #[.int .i64 0,.string ⟨#[]⟩,.string ⟨#[]⟩,.string src,.int .i64 ln,.int .i64 co] (r)):=⟨hS⟩;have HB:=aM hB;clear hA hA2 hS hB hN hO hK
 conv=>arg 2;whnf
 have hl1:isLt 40=false:=rfl;have hl2:isDg 40=false:=rfl;go_wp2_with fail;refine(parse_isIdent.calls _ _ _ _ (ident0_f _)).mono ?_;rintro e wq ⟨rfl,⟨nd,rfl⟩⟩;go_wp2_with fail;refine(parse_isDecimal.calls _ _ _ (dec_f _)).mono ?_;rintro e wq2 ⟨rfl,⟨nd2,rfl⟩⟩;replace HA:=aM (HA.out.drewN (nd+nd2));replace HB:=aM (HB.out.drewN (nd+nd2));have t0:=bC HA.out.t 0;have f0:=bF HA.out.t 0;have t2:=bC HA.out.t 2;have f2:=bF HA.out.t 2;go_wp2_with fail;exact HKK.out _ _ ⟨rfl,rfl,⟨rfl,rfl,rfl⟩,trivial⟩ ((HA.out.setT 0 (.int .i64 40)).setT 2 (.string (Utf8.encode 40)))
end
section
variable {r:List Int} {res:ByteArray->Option Int}
set_option maxRecDepth 100000 in
set_option maxHeartbeats 4000000 in
theorem sw_one41:SwOK res (41::r) (41) (Utf8.encode 41) r:=by
 intro w w7 k x R T N src ln co a K Q hA hS hB hN hO hK;have hA2:AtW k.g R T N (41) (fun _=>True) a w7:=hA;obtain⟨⟨u,rfl⟩,_⟩:=hA2.open_;have HN:=aM hN;have HO:=aM hO;have HKK:=aM hK;have HA:Aside0 (Sn w w7 k x R T #[.int .i64 0,.string ⟨#[]⟩,.string ⟨#[]⟩,.string src,.int .i64 ln,.int .i64 co] (r)):=⟨hS⟩;have HB:=aM hB;clear hA hA2 hS hB hN hO hK
 conv=>arg 2;whnf
 have hl1:isLt 41=false:=rfl;have hl2:isDg 41=false:=rfl;go_wp2_with fail;refine(parse_isIdent.calls _ _ _ _ (ident0_f _)).mono ?_;rintro e wq ⟨rfl,⟨nd,rfl⟩⟩;go_wp2_with fail;refine(parse_isDecimal.calls _ _ _ (dec_f _)).mono ?_;rintro e wq2 ⟨rfl,⟨nd2,rfl⟩⟩;replace HA:=aM (HA.out.drewN (nd+nd2));replace HB:=aM (HB.out.drewN (nd+nd2));have t0:=bC HA.out.t 0;have f0:=bF HA.out.t 0;have t2:=bC HA.out.t 2;have f2:=bF HA.out.t 2;go_wp2_with fail;exact HKK.out _ _ ⟨rfl,rfl,⟨rfl,rfl,rfl⟩,trivial⟩ ((HA.out.setT 0 (.int .i64 41)).setT 2 (.string (Utf8.encode 41)))
set_option maxRecDepth 100000 in
set_option maxHeartbeats 4000000 in
theorem sw_one123:SwOK res (123::r) (123) (Utf8.encode 123) r:=by
 intro w w7 k x R T N src ln co a K Q hA hS hB hN hO hK;have hA2:AtW k.g R T N (123) (fun _=>True) a w7:=hA;obtain⟨⟨u,rfl⟩,_⟩:=hA2.open_;have HN:=aM hN;have HO:=aM hO;have HKK:=aM hK;have HA:Aside0 (Sn w w7 k x R T #[.int .i64 0,.string ⟨#[]⟩,.string ⟨#[]⟩,.string src,.int .i64 ln,.int .i64 co] (r)):=⟨hS⟩;have HB:=aM hB;clear hA hA2 hS hB hN hO hK
 conv=>arg 2;whnf
 have hl1:isLt 123=false:=rfl;have hl2:isDg 123=false:=rfl;go_wp2_with fail;refine(parse_isIdent.calls _ _ _ _ (ident0_f _)).mono ?_;rintro e wq ⟨rfl,⟨nd,rfl⟩⟩;go_wp2_with fail;refine(parse_isDecimal.calls _ _ _ (dec_f _)).mono ?_;rintro e wq2 ⟨rfl,⟨nd2,rfl⟩⟩;replace HA:=aM (HA.out.drewN (nd+nd2));replace HB:=aM (HB.out.drewN (nd+nd2));have t0:=bC HA.out.t 0;have f0:=bF HA.out.t 0;have t2:=bC HA.out.t 2;have f2:=bF HA.out.t 2;go_wp2_with fail;exact HKK.out _ _ ⟨rfl,rfl,⟨rfl,rfl,rfl⟩,trivial⟩ ((HA.out.setT 0 (.int .i64 123)).setT 2 (.string (Utf8.encode 123)))
set_option maxRecDepth 100000 in
set_option maxHeartbeats 4000000 in
theorem sw_one125:SwOK res (125::r) (125) (Utf8.encode 125) r:=by
 intro w w7 k x R T N src ln co a K Q hA hS hB hN hO hK;have hA2:AtW k.g R T N (125) (fun _=>True) a w7:=hA;obtain⟨⟨u,rfl⟩,_⟩:=hA2.open_;have HN:=aM hN;have HO:=aM hO;have HKK:=aM hK;have HA:Aside0 (Sn w w7 k x R T #[.int .i64 0,.string ⟨#[]⟩,.string ⟨#[]⟩,.string src,.int .i64 ln,.int .i64 co] (r)):=⟨hS⟩;have HB:=aM hB;clear hA hA2 hS hB hN hO hK
 conv=>arg 2;whnf
 have hl1:isLt 125=false:=rfl;have hl2:isDg 125=false:=rfl;go_wp2_with fail;refine(parse_isIdent.calls _ _ _ _ (ident0_f _)).mono ?_;rintro e wq ⟨rfl,⟨nd,rfl⟩⟩;go_wp2_with fail;refine(parse_isDecimal.calls _ _ _ (dec_f _)).mono ?_;rintro e wq2 ⟨rfl,⟨nd2,rfl⟩⟩;replace HA:=aM (HA.out.drewN (nd+nd2));replace HB:=aM (HB.out.drewN (nd+nd2));have t0:=bC HA.out.t 0;have f0:=bF HA.out.t 0;have t2:=bC HA.out.t 2;have f2:=bF HA.out.t 2;go_wp2_with fail;exact HKK.out _ _ ⟨rfl,rfl,⟨rfl,rfl,rfl⟩,trivial⟩ ((HA.out.setT 0 (.int .i64 125)).setT 2 (.string (Utf8.encode 125)))
set_option maxRecDepth 100000 in
set_option maxHeartbeats 4000000 in
theorem sw_one93:SwOK res (93::r) (93) (Utf8.encode 93) r:=by
 intro w w7 k x R T N src ln co a K Q hA hS hB hN hO hK;have hA2:AtW k.g R T N (93) (fun _=>True) a w7:=hA;obtain⟨⟨u,rfl⟩,_⟩:=hA2.open_;have HN:=aM hN;have HO:=aM hO;have HKK:=aM hK;have HA:Aside0 (Sn w w7 k x R T #[.int .i64 0,.string ⟨#[]⟩,.string ⟨#[]⟩,.string src,.int .i64 ln,.int .i64 co] (r)):=⟨hS⟩;have HB:=aM hB;clear hA hA2 hS hB hN hO hK
 conv=>arg 2;whnf
 have hl1:isLt 93=false:=rfl;have hl2:isDg 93=false:=rfl;go_wp2_with fail;refine(parse_isIdent.calls _ _ _ _ (ident0_f _)).mono ?_;rintro e wq ⟨rfl,⟨nd,rfl⟩⟩;go_wp2_with fail;refine(parse_isDecimal.calls _ _ _ (dec_f _)).mono ?_;rintro e wq2 ⟨rfl,⟨nd2,rfl⟩⟩;replace HA:=aM (HA.out.drewN (nd+nd2));replace HB:=aM (HB.out.drewN (nd+nd2));have t0:=bC HA.out.t 0;have f0:=bF HA.out.t 0;have t2:=bC HA.out.t 2;have f2:=bF HA.out.t 2;go_wp2_with fail;exact HKK.out _ _ ⟨rfl,rfl,⟨rfl,rfl,rfl⟩,trivial⟩ ((HA.out.setT 0 (.int .i64 93)).setT 2 (.string (Utf8.encode 93)))
set_option maxRecDepth 100000 in
set_option maxHeartbeats 4000000 in
theorem sw_one59:SwOK res (59::r) (59) (Utf8.encode 59) r:=by
 intro w w7 k x R T N src ln co a K Q hA hS hB hN hO hK;have hA2:AtW k.g R T N (59) (fun _=>True) a w7:=hA;obtain⟨⟨u,rfl⟩,_⟩:=hA2.open_;have HN:=aM hN;have HO:=aM hO;have HKK:=aM hK;have HA:Aside0 (Sn w w7 k x R T #[.int .i64 0,.string ⟨#[]⟩,.string ⟨#[]⟩,.string src,.int .i64 ln,.int .i64 co] (r)):=⟨hS⟩;have HB:=aM hB;clear hA hA2 hS hB hN hO hK
 conv=>arg 2;whnf
 have hl1:isLt 59=false:=rfl;have hl2:isDg 59=false:=rfl;go_wp2_with fail;refine(parse_isIdent.calls _ _ _ _ (ident0_f _)).mono ?_;rintro e wq ⟨rfl,⟨nd,rfl⟩⟩;go_wp2_with fail;refine(parse_isDecimal.calls _ _ _ (dec_f _)).mono ?_;rintro e wq2 ⟨rfl,⟨nd2,rfl⟩⟩;replace HA:=aM (HA.out.drewN (nd+nd2));replace HB:=aM (HB.out.drewN (nd+nd2));have t0:=bC HA.out.t 0;have f0:=bF HA.out.t 0;have t2:=bC HA.out.t 2;have f2:=bF HA.out.t 2;go_wp2_with fail;exact HKK.out _ _ ⟨rfl,rfl,⟨rfl,rfl,rfl⟩,trivial⟩ ((HA.out.setT 0 (.int .i64 59)).setT 2 (.string (Utf8.encode 59)))
set_option maxRecDepth 100000 in
set_option maxHeartbeats 4000000 in
theorem sw_one44:SwOK res (44::r) (44) (Utf8.encode 44) r:=by
 intro w w7 k x R T N src ln co a K Q hA hS hB hN hO hK;have hA2:AtW k.g R T N (44) (fun _=>True) a w7:=hA;obtain⟨⟨u,rfl⟩,_⟩:=hA2.open_;have HN:=aM hN;have HO:=aM hO;have HKK:=aM hK;have HA:Aside0 (Sn w w7 k x R T #[.int .i64 0,.string ⟨#[]⟩,.string ⟨#[]⟩,.string src,.int .i64 ln,.int .i64 co] (r)):=⟨hS⟩;have HB:=aM hB;clear hA hA2 hS hB hN hO hK
 conv=>arg 2;whnf
 have hl1:isLt 44=false:=rfl;have hl2:isDg 44=false:=rfl;go_wp2_with fail;refine(parse_isIdent.calls _ _ _ _ (ident0_f _)).mono ?_;rintro e wq ⟨rfl,⟨nd,rfl⟩⟩;go_wp2_with fail;refine(parse_isDecimal.calls _ _ _ (dec_f _)).mono ?_;rintro e wq2 ⟨rfl,⟨nd2,rfl⟩⟩;replace HA:=aM (HA.out.drewN (nd+nd2));replace HB:=aM (HB.out.drewN (nd+nd2));have t0:=bC HA.out.t 0;have f0:=bF HA.out.t 0;have t2:=bC HA.out.t 2;have f2:=bF HA.out.t 2;go_wp2_with fail;exact HKK.out _ _ ⟨rfl,rfl,⟨rfl,rfl,rfl⟩,trivial⟩ ((HA.out.setT 0 (.int .i64 44)).setT 2 (.string (Utf8.encode 44)))
end
section
variable {w0 w wr w1 w2:World} {k:Sk} {N b x R T:Nat} {l m u r g:List Int} {cs:Array Value} {res:ByteArray->Option Int} {ty:Int} {sy:ByteArray}
def NoWs(l:List Int):Prop:=wsB (hd l)=false
theorem TokAt.nows(h:TokAt res l ty sy r):NoWs l:=by
 unfold NoWs
 cases h with
 |ident a1 _ _=>simp[isLt] at a1;simp[wsB,hd];omega
 |numd a1 _ _ _ _=>simp[isDg] at a1;simp[wsB,hd];omega
 |nume a1 _ _ _ _=>simp[isDg] at a1;simp[wsB,hd];omega
 |numm a1 _ _ _ _=>simp[isDg] at a1;simp[wsB,hd];omega
 |one hc=>simp at hc;simp[wsB,hd];omega
 |op1 hc _=>simp at hc;simp[wsB,hd];omega
 |_=>rfl
theorem TokAt.sw(h:TokAt res l ty sy r):SwOK res l ty sy r:=by
 cases h with
 |eof=>exact sw_eof
 |ident a1 a2 a3=>exact sw_ident a1 a2 a3
 |numd a1 a2 a3 a4 a5=>exact sw_numd a1 a2 a3 a4 a5
 |nume a1 a2 a4 a5 a3=>exact sw_nume a1 a2 a4 a5 a3
 |numm a1 a2 a4 a5 a3=>exact sw_numm a1 a2 a4 a5 a3
 |str h=>exact sw_str h
 |one h=>
  simp only[List.mem_cons,List.not_mem_nil,or_false] at h;rcases h with rfl|rfl|rfl|rfl|rfl|rfl|rfl|rfl|rfl|rfl|rfl|rfl|rfl
  ·exact sw_one43
  ·exact sw_one42
  ·exact sw_one47
  ·exact sw_one37
  ·exact sw_one94
  ·exact sw_one35
  ·exact sw_one40
  ·exact sw_one41
  ·exact sw_one123
  ·exact sw_one125
  ·exact sw_one93
  ·exact sw_one59
  ·exact sw_one44
 |minus a=>exact sw_minus a
 |brk a b=>exact sw_brk a b
 |op1 h a=>
  simp only[List.mem_cons,List.not_mem_nil,or_false] at h;rcases h with rfl|rfl|rfl
  ·exact sw_op61 a
  ·exact sw_op60 a
  ·exact sw_op62 a
 |colon a=>exact sw_colon a
 |dot a b=>exact sw_dot a b
 |dot2 a=>exact sw_dot2 a
 |dot3=>exact sw_dot3
 |eqeq=>exact sw_eqeq
 |neq=>exact sw_neq
 |le=>exact sw_le
 |ge=>exact sw_ge
theorem TokAt.ty_le(h:TokAt res l ty sy r)(hr:∀s v,res s=some v->0<=v/\v<=100000): -1<=ty/\ty<=100000:=by
 cases h with
 |ident a1 a2 a3=>
  rename_i c t
  cases hq:res (strOfNums (c::t)) with
  |none=>simp
  |some v=>have:=hr _ _ hq;simp;omega
 |one h=>simp at h;omega
 |op1 h a=>simp at h;omega
 |_=>omega
structure Fn(w0 wr:World)(k:Sk)(x R:Nat)(l:List Int):Prop where
 s:RS wr k l
 lx:Lx wr x
 f:Ks w0 wr k x
 r:∃cs,wr.heap[R]? = some (.cells cs 61 (0,0))
 r0:w0.heap.size<=R
 xB:k.B<=x
 x0:x<w0.heap.size
theorem Fn.set(h:Fn w0 wr k x R l)(j:Nat)(u:Value):Fn w0 (wr.setCell ⟨R,j,none⟩ u) k x R l:=by
 obtain⟨b,hb⟩:=h.lx;obtain⟨cs,hcs⟩:=h.r;have hB:k.B<=R:=by have:=h.r0;have:=h.xB;have:=h.x0;omega
 have hxR:x≠R:=by have:=h.r0;have:=h.x0;omega
 exact⟨h.s.setO (blk_nS hcs h.s) hB j u,⟨b,(Below.heap_setCell _ _ _ _ hxR).trans hb⟩,⟨h.f.b.setCell (p:=⟨R,j,none⟩) hB u,h.f.k.setCell (p:=⟨R,j,none⟩) (.inr h.r0) u⟩,⟨_,blk_set hcs j u⟩,h.r0,h.xB,h.x0⟩
theorem Sn.fn(h:Sn w0 wr k x R T cs l):Fn w0 wr k x R l:=⟨h.s,h.lx,h.f,⟨_,h.r⟩,h.r0,h.xB,h.x0⟩
theorem res18{W:World}{R:Nat}{a:Int}{n s p:ByteArray}{i c:Int}(hv:W.heap[R]? = some (.cells #[.int .i64 a,.string n,.string s,.string p,.int .i64 i,.int .i64 c] 61 (0,0)))(tmps:Array Value)(h4:tmps.getD 4 undef = .pointer (some ⟨R,0,none⟩))(h5:tmps.getD 5 undef = .nilIface):(results Tryz.f18 tmps).run Tryz.prog W = .ok (.tuple #[.agg #[.int .i64 a,.string n,.string s,.string p,.int .i64 i,.int .i64 c],.nilIface]) W:=by
 have v0:W.cell? ⟨R,0,none⟩=some (.int .i64 a):=bC hv 0;have v1:W.cell? ⟨R,1,none⟩=some (.string n):=bC hv 1;have v2:W.cell? ⟨R,2,none⟩=some (.string s):=bC hv 2;have v3:W.cell? ⟨R,3,none⟩=some (.string p):=bC hv 3;have v4:W.cell? ⟨R,4,none⟩=some (.int .i64 i):=bC hv 4;have v5:W.cell? ⟨R,5,none⟩=some (.int .i64 c):=bC hv 5;have h4':tmps[4]?.getD undef = .pointer (some ⟨R,0,none⟩):=by simpa using h4
 have h5':tmps[5]?.getD undef = .nilIface:=by simpa using h5
 simp[results,Tryz.results18,go_sem,h4',h5',v0,v1,v2,v3,v4,v5]
theorem line_hd{c:List Int}:hd (c++10::m)=hd (c++[10]):=by
 cases c<;>rfl
theorem rest_hd{a:List Int}(h:RS w k (a++m)):hd m≠13:=by
 match m,h with
 |[],_=>show(-1:Int)≠13;decide
 |c::m,h=>exact h.c c (by simp)
theorem skip1{a:List Int}(ha:∀y∈a,wsB y=true)(hm:wsB (hd m)=false)(h:RS w k (a++m)):(a++m).dropWhile (tst 4294967808)=m\/∃a2,(a++m).dropWhile (tst 4294967808)=10::(a2++m)/\(∀y∈a2,wsB y=true)/\True:=by
 have e:(a++m).dropWhile (tst 4294967808)=(a++m).dropWhile w1B:=drop_congr _ (fun y hy=>tstw1 y (by have:=(h.rng y hy).1;omega) (h.rng y hy).2);have hm1:w1B (hd m)=false:=by
  generalize hd m=q at hm;simp[wsB,w1B] at hm|-;omega
 rw[e];rcases drop1 a m ha hm1 with h1|⟨a2,h1,h2⟩
 ·exact .inl h1
 ·exact .inr ⟨a2,h1,h2,trivial⟩
theorem skip2{a:List Int}(ha:∀y∈a,wsB y=true)(hm:wsB (hd m)=false)(h:RS w k (a++m)):(a++m).dropWhile (tst 4294977024)=m:=by
 have e:(a++m).dropWhile (tst 4294977024)=(a++m).dropWhile wsB:=drop_congr _ (fun y hy=>tstw2 y (by have:=(h.rng y hy).1;omega) (h.rng y hy).2 (h.c y hy));rw[e];exact(drop_all (P:=wsB) a m ha hm).1
def ScJ(w0:World)(k:Sk)(x R:Nat)(l:List Int)(j:Nat)(wr:World):Prop:=∃g,Gap g/\g.length<=j/\RS wr k (g++l)/\Lx wr x/\wr.heap[R]? = some (.cells zTok 61 (0,0))/\Ks w0 wr k x/\w0.heap.size<=R
set_option maxRecDepth 100000 in
set_option maxHeartbeats 8000000 in
theorem scan_q(hg:Gap g)(ht:TokAt res l ty sy r)(h:RS w k (g++l))(hx:Lx w x)(hxB:k.B<=x)(hO:Out w k res):Calls Tryz.prog 18 #[.pointer (some ⟨k.g,0,none⟩),.pointer (some ⟨x,0,none⟩)] w fun e w'=>(∃(nm p:ByteArray) (i c:Int),e = .returned (.tuple #[.agg #[.int .i64 ty,.string nm,.string sy,.string p,.int .i64 i,.int .i64 c],.nilIface]))/\RS w' k r/\Lx w' x/\Ks w w' k x:=by
 have HG:=aM hg;have HTA:=aM ht;have HW:=aM ht.nows;have HH:=aM h;have HX:=aM hx;have HO:=aM hO;have HXB:=aM hxB;clear hg ht h hx hO hxB;go_enter Tryz.func18,Tryz.ntmps18
 go_wp2_with fail;refine wp_scope_ghost' 0 (AtS k.g x w.heap.size (ScJ w k x w.heap.size l)) rfl ?_ ?_
 ·intro hrest
  have HR:=aM hrest;clear hrest;go_wp2_with fail;refine wp_label ?_;simp only[Exit.then];rename_i hK;refine hK _ _ ?_;refine HR.out g.length _ _ ?_;obtain⟨b,hb⟩:=HX.out;exact⟨rfl,rfl,⟨rfl,rfl,rfl⟩,g,HG.out,Nat.le_refl _,HH.out.alloc _,⟨b,blk_alloc hb _⟩,blk_new _ _,⟨(bR k.B w).alloc HH.out.E.lt _,(Kept.refl w _).alloc _⟩,Nat.le_refl _⟩
 ·intro j a wr hJ
  obtain⟨⟨u,rfl⟩,g',hg',hj,hs,hlx,hr,hf,hR⟩:=hJ.open_;obtain⟨a0,g2,rfl,ha0,hg2⟩:=hg'.split;rw[List.append_assoc] at hs;have HJ:=aM hj;have HG2:=aM hg2;have HA0:=aM ha0;have HHW:=aM (show wsB (hd (g2++l))=false from by
   cases hg2 with
   |nil=>exact HW.out
   |line _ _ _=>rfl
   |long _ _ _=>rfl)
  have HSN:Aside0 (Sn w (wr.alloc (.cells zTok 61)) k x w.heap.size wr.heap.size zTok (a0++(g2++l))):=by
   obtain⟨b,hb⟩:=hlx;exact⟨⟨hs.alloc _,⟨b,blk_alloc hb _⟩,blk_alloc hr _,blk_new _ _,⟨hf.b.alloc hs.E.lt _,hf.k.alloc _⟩,by have:=blk_lt hr;omega,Nat.le_refl _,hf.b.size,HXB.out,by obtain⟨b0,hb0⟩:=HX.out;exact blk_lt hb0⟩⟩
  clear hs hlx hr hf hR hJ hj ha0 hg2 hg';generalize hT:wr.heap.size=T at HSN;have HT:=aM hT;have HRG:=aM (rest_hd HSN.out.s);have HD1:=aM (skip1 (a:=a0) (m:=g2++l) HA0.out HHW.out HSN.out.s);have HSK:=aM (skipWs_q HSN.out.s 4294967808 (by kernel_rfl));generalize (a0++(g2++l)).dropWhile (tst 4294967808)=M1 at HD1 HSK;obtain⟨q,hq⟩:∃q,q=hd M1:=⟨_,rfl⟩;have HQ:=aM hq;rw[<-hq] at HSK;clear hq;go_upto_region 4 with fail;rename_i hK;have HKK:=aM hK;clear hK;go_wp2_with fail;refine HSK.out.mono ?_;rintro e w5 ⟨rfl,h5,k5⟩;go_wp2_with fail;refine HKK.out _ _ ?_;clear HKK;apply wp_seq_k;intro _ _;have HSN1:=aM (HSN.out.kg h5 k5);clear h5 k5 HSN HSK hT;have hq13:(q==13)=false:=by
   rw[beq_eq_false_iff_ne,HQ.out];rcases HD1.out with h1|⟨a2,h1,_⟩
   ·rw[h1];exact HRG.out
   ·rw[h1];show(10:Int)≠13;decide
  go_cut [8,9] from 19 to 26 (fun v8 v9 wc=>(∃b:Bool,v8 = .bool b)/\v9 = .int .i64 (hd (g2++l))/\Aside0 (Sn w wc k x w.heap.size T zTok (g2++l).tail))
  case first=>
   by_cases hb:q=10
   ·have HB10:Aside0 ((q==10)=true):=⟨beq_iff_eq.mpr hb⟩
    clear hq13;obtain⟨a2,h1,h2,h3⟩:∃a2,M1=10::(a2++(g2++l))/\(∀y∈a2,wsB y=true)/\True:=by
     rcases HD1.out with h1|h
     ·have h2:=HB10.out
      have h3:=HHW.out;rw[HQ.out,h1,beq_iff_eq] at h2;rw[h2] at h3;cases h3
     ·exact h
    subst h1;subst hb;have HSN2:Aside0 (Sn w w5 k x w.heap.size T zTok (a2++(g2++l))):=HSN1;have HSK:=aM (skipWs_q HSN2.out.s 4294977024 (by kernel_rfl));rw[skip2 h2 HHW.out HSN2.out.s] at HSK;obtain⟨q2,hq2⟩:∃q,q=hd (g2++l):=⟨_,rfl⟩;rw[<-hq2] at HSK;have HQQ:=aM hq2;clear hq2 HSN1;go_wp2_with fail;refine HSK.out.mono ?_;rintro e w6 ⟨rfl,h5,k5⟩;have HSN3:=aM (HSN2.out.kg h5 k5);clear h5 k5 HSN2 HSK;go_wp2_with fail;go_meet
    case rel=>exact⟨⟨_,rfl⟩,by rw[HQQ.out],HSN3⟩
   ·have hq10:(q==10)=false:=beq_eq_false_iff_ne.mpr hb
    have HB10:=aM hq10;have hM:M1=g2++l:=by
     rcases HD1.out with h1|⟨a2,h1,_⟩
     ·exact h1
     ·have h2:=HB10.out
      rw[HQ.out,h1] at h2;cases h2
    have HQQ:Aside0 (q=hd (g2++l)):=⟨by rw[HQ.out,hM]⟩;subst hM;go_wp2_with fail;go_meet
    case rel=>exact⟨⟨_,rfl⟩,by rw[HQQ.out],HSN1⟩
  obtain⟨⟨b8,rfl⟩,rfl,HSN2⟩:=hcut;have HNW:=aM (show hd (g2++l)≠10 from fun e=>by have h1:=HHW.out;rw[e] at h1;cases h1);rename_i hK;refine hK _ _ ?_;clear hK;apply wp_seq_k;intro _ _;have hx9:wc.cell? ⟨x,9,none⟩=some (.int .i64 0):=by obtain⟨b,hb⟩:=HSN2.out.lx;exact bC hb 9
  obtain⟨bl,hx2⟩:∃b:Bool,wc.cell? ⟨x,2,none⟩=some (.bool b):=by obtain⟨b,hb⟩:=HSN2.out.lx;exact⟨b,bC hb 2⟩
  have fx2:wc.frozen? ⟨x,2,none⟩=false:=by obtain⟨b,hb⟩:=HSN2.out.lx;exact bF hb 2
  generalize hq3:hd (g2++l)=q3;have HQ3:=aM hq3;clear hq3
  go_cut [] from 27 to 42 (fun wc2=>Aside0 (Sn w wc2 k x w.heap.size T zTok (g2++l).tail))
  case first=>
   by_cases h40:q3=40
   ·have y1:(q3==40)=true:=beq_iff_eq.mpr h40
    clear h40;go_wp2_with fail;go_meet
    case rel=>exact⟨HSN2.out.setX _⟩
   ·have y1:(q3==40)=false:=beq_eq_false_iff_ne.mpr h40
    clear h40;go_wp2_with fail;go_meet
    case rel=>exact⟨HSN2.out.setX _⟩
  clear hx9 hx2 fx2;have HSN3:=hcut;clear hcut HSN2;go_upto_region 13 with fail;rename_i hK;have HKK:=aM hK;clear hK;have HU:=aM HSN3.out.s.fresh;have HSN4:=aM (HSN3.out.below ((bR _ wc).alloc (Nat.le_refl _) (.cells #[.slice none 0 0,.int .i64 0,.int .i8 0] 96)));have HN:=aM (show w.heap.size<wc.heap.size/\T<wc.heap.size from⟨blk_lt HSN3.out.r,blk_lt HSN3.out.t⟩);generalize wc.alloc _=w6 at HU HSN4|-;generalize wc.heap.size=N at HU HN|-;obtain⟨src,ln,co,c0,c1,c2,_⟩:=HSN4.out.s.g.cs;have t3:w6.cell? ⟨T,3,none⟩=some (.string ⟨#[]⟩):=bC HSN4.out.t 3;have t4:w6.cell? ⟨T,4,none⟩=some (.int .i64 0):=bC HSN4.out.t 4;have t5:w6.cell? ⟨T,5,none⟩=some (.int .i64 0):=bC HSN4.out.t 5;have f3:=bF HSN4.out.t 3;have f4:=bF HSN4.out.t 4;have f5:=bF HSN4.out.t 5;go_wp2_with fail;have HSN5:Aside0 (Sn w (((w6.setCell ⟨T,3,none⟩ (.string src)).setCell ⟨T,4,none⟩ (.int .i64 ln)).setCell ⟨T,5,none⟩ (.int .i64 co)) k x w.heap.size T #[.int .i64 0,.string ⟨#[]⟩,.string ⟨#[]⟩,.string src,.int .i64 ln,.int .i64 co] (g2++l).tail):=⟨((HSN4.out.setT 3 _).setT 4 _).setT 5 _⟩;have HU5:Aside0 (Bu (((w6.setCell ⟨T,3,none⟩ (.string src)).setCell ⟨T,4,none⟩ (.int .i64 ln)).setCell ⟨T,5,none⟩ (.int .i64 co)) k N N []):=⟨((HU.out.setO HN.out.2 3 _).setO HN.out.2 4 _).setO HN.out.2 5 _⟩;clear c0 c1 c2 t3 t4 t5 f3 f4 f5 HU HSN4 HSN3;generalize ((w6.setCell ⟨T,3,none⟩ (.string src)).setCell ⟨T,4,none⟩ (.int .i64 ln)).setCell ⟨T,5,none⟩ (.int .i64 co)=w7 at HSN5 HU5|-;refine HKK.out _ _ ?_;clear HKK;apply wp_seq_k;intro _ _;have hg2:=HG2.out;clear HA0 HQ
  cases hg2 with
  |line c1 c2 c3=>
   rename_i c g4;have hq:q3=45:=HQ3.out.symm;subst hq;have HH0:Aside0 (Sn w w7 k x w.heap.size T #[.int .i64 0,.string ⟨#[]⟩,.string ⟨#[]⟩,.string src,.int .i64 ln,.int .i64 co] (45::(c++10::(g4++l)))):=by
    have e:((45:Int)::45::(c++10::g4)++l).tail=45::(c++10::(g4++l)):=by simp
    rw[<-e];exact HSN5
   have HSC:=aM (fun(wz:World) (hz:RS wz k (c++10::(g4++l)))=>skipLine_q (w:=wz) c1 (by rw[line_hd];exact c2) hz);have HG4:=aM c3;have HJ4:=aM (show g4.length<j from by have h1:=HJ.out;simp at h1;omega);clear HSN5 HQ3 c1 c2 c3 HG2 HRG HNW HHW HD1;have HQ:=aM (show hd (45::(c++10::(g4++l)))=45 from rfl);have HT1:=aM (show(45::(c++10::(g4++l))).tail=c++10::(g4++l) from rfl);go_wp2_with fail;refine(parse_isIdent.calls _ _ _ _ (ident0_f _)).mono ?_;rintro e w8 ⟨rfl,⟨nd,rfl⟩⟩;have hl45:isLt 45=false:=rfl;clear HU5;go_wp2_with fail;refine(parse_isDecimal.calls _ _ _ (dec_f _)).mono ?_;rintro e w9 ⟨rfl,⟨nd2,rfl⟩⟩;have HA2:=aM (HH0.out.drewN (nd+nd2));have hd45:isDg 45=false:=rfl;clear HH0;go_wp2_with fail;refine(peek_q HA2.out.s).mono ?_;rw[HQ.out];rintro e w10 ⟨rfl,h5,k5⟩;have HA3:=aM (HA2.out.kg h5 k5.g);clear h5 k5 HA2;go_wp2_with fail;refine(next_q HA3.out.s).mono ?_;rw[HQ.out];rintro e w11 ⟨rfl,h5,k5⟩;rw[HT1.out] at h5;have HA4:=aM (HA3.out.kg h5 k5);clear h5 k5 HA3;go_wp2_with fail;refine(HSC.out _ HA4.out.s).mono ?_;rintro e w12 ⟨rfl,h5,k5⟩;have HA5:=aM (HA4.out.kb h5 k5 (blk_lt HA4.out.r) (blk_lt HA4.out.t) HA4.out.f.b.size);clear h5 k5 HA4;go_wp2_with fail
   go_step3
   exact⟨rfl,g4.length,HJ4.out,rfl,rfl,⟨rfl,rfl,rfl⟩,g4,HG4.out,Nat.le_refl _,HA5.out.s,HA5.out.lx,HA5.out.r,HA5.out.f,HA5.out.r0⟩
  |long c1 c2 c3=>
   rename_i n x0 c g4;have hq:q3=45:=HQ3.out.symm;subst hq;have HH0:Aside0 (Sn w w7 k x w.heap.size T #[.int .i64 0,.string ⟨#[]⟩,.string ⟨#[]⟩,.string src,.int .i64 ln,.int .i64 co] (45::(91::(List.replicate n 61++91::x0::(c++(g4++l)))))):=by
    have e:((45:Int)::45::91::(List.replicate n 61++91::x0::(c++g4))++l).tail=45::(91::(List.replicate n 61++91::x0::(c++(g4++l)))):=by simp
    rw[<-e];exact HSN5
   have HSC:=aM (fun(wz:World) (hz:RS wz k (91::(List.replicate n 61++91::x0::(c++(g4++l)))))=>skipLong_q (w:=wz) (l:=c++(g4++l)) (r:=g4++l) n x0 _ c1 (c2 (g4++l)) rfl hz);have HG4:=aM c3;have HJ4:=aM (show g4.length<j from by have h1:=HJ.out;simp at h1;omega);clear HSN5 HQ3 c1 c2 c3 HG2 HRG HNW HHW HD1;have HQ:=aM (show hd (45::(91::(List.replicate n 61++91::x0::(c++(g4++l)))))=45 from rfl);have HT1:=aM (show(45::(91::(List.replicate n 61++91::x0::(c++(g4++l))))).tail=91::(List.replicate n 61++91::x0::(c++(g4++l))) from rfl);go_wp2_with fail;refine(parse_isIdent.calls _ _ _ _ (ident0_f _)).mono ?_;rintro e w8 ⟨rfl,⟨nd,rfl⟩⟩;have hl45:isLt 45=false:=rfl;clear HU5;go_wp2_with fail;refine(parse_isDecimal.calls _ _ _ (dec_f _)).mono ?_;rintro e w9 ⟨rfl,⟨nd2,rfl⟩⟩;have HA2:=aM (HH0.out.drewN (nd+nd2));have hd45:isDg 45=false:=rfl;clear HH0;go_wp2_with fail;refine(peek_q HA2.out.s).mono ?_;rw[HQ.out];rintro e w10 ⟨rfl,h5,k5⟩;have HA3:=aM (HA2.out.kg h5 k5.g);clear h5 k5 HA2;go_wp2_with fail;refine(next_q HA3.out.s).mono ?_;rw[HQ.out];rintro e w11 ⟨rfl,h5,k5⟩;rw[HT1.out] at h5;have HA4:=aM (HA3.out.kg h5 k5);clear h5 k5 HA3;go_wp2_with fail;refine(HSC.out _ HA4.out.s).mono ?_;rintro e w12 ⟨rfl,h5,k5⟩;have HA5:=aM (HA4.out.kb h5 k5 (blk_lt HA4.out.r) (blk_lt HA4.out.t) HA4.out.f.b.size);clear h5 k5 HA4;go_wp2_with fail
   go_step3
   exact⟨rfl,g4.length,HJ4.out,rfl,rfl,⟨rfl,rfl,rfl⟩,g4,HG4.out,Nat.le_refl _,HA5.out.s,HA5.out.lx,HA5.out.r,HA5.out.f,HA5.out.r0⟩
  |nil=>
   clear HG2 HRG HNW HHW HD1;have HQ3':Aside0 (hd l=q3):=HQ3;have HSN5':Aside0 (Sn w w7 k x w.heap.size T #[.int .i64 0,.string ⟨#[]⟩,.string ⟨#[]⟩,.string src,.int .i64 ln,.int .i64 co] l.tail):=HSN5;clear HQ3 HSN5;have HQ3:=HQ3';have HSN5:=HSN5';clear HQ3' HSN5';have hcc:hd l=q3:=HQ3.out;refine(HTA.out.sw) w w7 k x w.heap.size T N src ln co _ _ _ ⟨rfl,rfl,⟨rfl,rfl,rfl,rfl,by rw[hcc];rfl,rfl,rfl⟩,trivial⟩ HSN5.out HU5.out HN.out HO.out ?_;intro a9 w9 hA9 hS9;obtain⟨⟨u9,rfl⟩,_⟩:=hA9.open_;have HS:=aM hS9;clear hS9 hA9 HSN5 HU5;have HTN:=aM (fun(wz:World) (hz:Below k.B w wz)=>tokName_q (w:=wz) ty (HTA.out.ty_le HO.out.b).1 (HTA.out.ty_le HO.out.b).2 (HO.out.on hz HS.out.s.E.b2).t);have t0:w9.cell? ⟨T,0,none⟩=some (.int .i64 ty):=bC HS.out.t 0;clear hcc HQ3 HTA;go_wp2_with fail;refine wp_label ?_;simp only[Exit.then];rename_i hK;refine hK _ _ ?_;clear hK;go_wp2_with fail;refine(HTN.out w9 HS.out.f.b).mono ?_;rintro e w10 ⟨⟨nm,rfl⟩,hb⟩;have HS2:=aM (HS.out.below hb);clear t0 hb HS HTN;have t0:w10.cell? ⟨T,0,none⟩=some (.int .i64 ty):=bC HS2.out.t 0;have t1:w10.cell? ⟨T,1,none⟩=some (.string ⟨#[]⟩):=bC HS2.out.t 1;have t2:w10.cell? ⟨T,2,none⟩=some (.string sy):=bC HS2.out.t 2;have t3:w10.cell? ⟨T,3,none⟩=some (.string src):=bC HS2.out.t 3;have t4:w10.cell? ⟨T,4,none⟩=some (.int .i64 ln):=bC HS2.out.t 4;have t5:w10.cell? ⟨T,5,none⟩=some (.int .i64 co):=bC HS2.out.t 5;have f1:=bF HS2.out.t 1;generalize hR:w.heap.size=R at HS2 HN|-;have r0:w10.cell? ⟨R,0,none⟩=some (.int .i64 0):=bC HS2.out.r 0;have r1:w10.cell? ⟨R,1,none⟩=some (.string ⟨#[]⟩):=bC HS2.out.r 1;have r2:w10.cell? ⟨R,2,none⟩=some (.string ⟨#[]⟩):=bC HS2.out.r 2;have r3:w10.cell? ⟨R,3,none⟩=some (.string ⟨#[]⟩):=bC HS2.out.r 3;have r4:w10.cell? ⟨R,4,none⟩=some (.int .i64 0):=bC HS2.out.r 4;have r5:w10.cell? ⟨R,5,none⟩=some (.int .i64 0):=bC HS2.out.r 5;obtain⟨g0,g1,g2,g3,g4,g5⟩:=bF6 HS2.out.r;have hrt:¬R=T:=HS2.out.rt;have htr:¬T=R:=fun e=>hrt e.symm
   go_wp2_with fail;simp only[Exit.jump];have hv:(w10.setCell ⟨T,1,none⟩ (.string nm)).heap[R]? = some (.cells zTok 61 (0,0)):=(Below.heap_setCell _ _ _ _ hrt).trans HS2.out.r;refine bodyPost_ret (res18 (blk_set (blk_set (blk_set (blk_set (blk_set (blk_set hv 0 _) 1 _) 2 _) 3 _) 4 _) 5 _) _ rfl rfl) rfl ?_;have HF:=((((((HS2.out.setT 1 (.string nm)).fn.set 0 (.int .i64 ty)).set 1 (.string nm)).set 2 (.string sy)).set 3 (.string src)).set 4 (.int .i64 ln)).set 5 (.int .i64 co);exact⟨⟨nm,src,ln,co,rfl⟩,HF.s,HF.lx,HF.f⟩
end
end Go.Proofs.YtoimaaonloibfaaGreatDoor.Tk
