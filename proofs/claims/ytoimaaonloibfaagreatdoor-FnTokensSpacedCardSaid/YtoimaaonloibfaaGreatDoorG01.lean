/- FnTokensSpaced (part 1): joined texts of this seat: Leaf0, Leaf1, Leaf2, Wf, Ta, Tb, Tc. -/
import Derived.Test.YtoimaaonloibfaaGreatDoorProg
import Derived.Below
import Derived.Deep.Draws
import Derived.Deep.AppendLies
import Derived.Maps.AppendAt
import Derived.OwnWalk
import Derived.Laws.BytesArg
import Derived.Laws.MakeOwn
import Derived.Laws.OwnMore
import Derived.Deep.OwnRows
import Derived.Tactics
import Derived.Lib.ConvBytes
import Derived.Laws.Slices
import Derived.WalkKit
import Derived.KernelRfl
import Derived.RowKit3
import Derived.Deep.LoopGhost
import Derived.Deep.QuietTactic
import Derived.BigQuiet
import Derived.WideLaws
import Derived.Deep.DeepCutAuto
import Derived.Deep.CutBlock
import Derived.Deep.RegionHeld3
import Derived.Laws.Rows
import Derived.Lib.AppendStr
import Derived.ArgAppend
import Derived.Laws.IdiomCopy
import Derived.OrdersHeld
import Derived.Laws.BitsLemmas
import Derived.RowKit
import Derived.Test.YtoimaaonloibfaaGreatDoorG00
import Derived.Lib.BufferWrite
import Derived.StillTailTactics
import Derived.Deep.RegionLaw
set_option linter.unusedVariables false
set_option linter.unusedSimpArgs false
namespace Go.Proofs.YtoimaaonloibfaaGreatDoor.PF
open Go.RowKit W1 W2 W3
attribute [local go_sem] max2_int min2_int max_two min_two max_three min_three max_four min_four
theorem info5:(Tryz.prog.info? 5).map (fun i=>(i.zero,i.size,i.bytes))=some (some (.int .u8 0),1,1):=by kernel_rfl
theorem info9:(Tryz.prog.info? 9).map (fun i=>(i.zero,i.size,i.bytes))=some (some (.string ⟨#[]⟩),1,16):=by kernel_rfl
def rd_L3(xs:List (List ByteArray))(i:Int):(List ByteArray):=xs.getD i.toNat ([]:List ByteArray)
theorem at_L3{w:World}{A:Option Addr}{n:Nat}{xs:List (List ByteArray)}(h:Kd.C (Kd.slice 9 Kd.string) w A n xs)(i:Int)(h0:0<=i)(h1:i<n):∃ad A0 c0,A=some ad/\w.cell? (ad.add i.toNat)=some (.slice A0 (rd_L3 xs i).length c0)/\(rd_L3 xs i).length<=c0/\Kd.string.C w A0 (rd_L3 xs i).length (rd_L3 xs i):=by
 obtain⟨ad,c,e,_,hK,hc0⟩:=Kd.C_get h ([]:List ByteArray) i h0 h1;have hc:∀j u,c[j]? = some u->w.cell? (ad.add (i.toNat*1+j))=some u:=hc0;obtain⟨A0,c0,rfl,l0,g0⟩:=hK;exact⟨ad,A0,c0,e,by have hq:=hc 0 _ rfl;rwa[Nat.mul_one,Nat.add_zero] at hq,l0,g0⟩
structure S51 where
 f0:Int
 f1:ByteArray
 f2:Int
def z51:S51:=⟨(0:Int),(⟨#[]⟩:ByteArray),(0:Int)⟩
def k51:Kd S51:=Kd.iso (Kd.pair (Kd.int .i64) (Kd.pair Kd.string (Kd.int .i64))) (fun x:S51=>(x.f0,x.f1,x.f2))
theorem k51_open{w:World}{x:S51}{cs:List Value}(h:k51.K w x cs):cs=[.int .i64 x.f0,.string x.f1,.int .i64 x.f2]:=by
 obtain⟨_,_,rfl,rfl,⟨_,_,rfl,rfl,rfl⟩⟩:=h;exact rfl
theorem k51_openM{w:World}{base:Nat}{ok:Nat->Prop}{x:S51}{cs:List Value}(h:k51.M w base ok x cs):cs=[.int .i64 x.f0,.string x.f1,.int .i64 x.f2]:=by
 obtain⟨_,_,rfl,rfl,⟨_,_,rfl,rfl,rfl⟩⟩:=h;exact rfl
theorem k51_mkM(w:World)(base:Nat)(ok:Nat->Prop)(x:S51):k51.M w base ok x [.int .i64 x.f0,.string x.f1,.int .i64 x.f2]:=⟨[.int .i64 x.f0],[.string x.f1,.int .i64 x.f2],rfl,rfl,⟨[.string x.f1],[.int .i64 x.f2],rfl,rfl,rfl⟩⟩
def rd_T51(xs:List S51)(i:Int):S51:=xs.getD i.toNat z51
theorem at_T51{w:World}{A:Option Addr}{n:Nat}{xs:List S51}(h:Kd.C k51 w A n xs)(i:Int)(h0:0<=i)(h1:i<n):∃ad,A=some ad/\w.cell? (ad.add (i.toNat*3))=some (.int .i64 (rd_T51 xs i).f0)/\w.cell? ⟨(ad.add (i.toNat*3)).block,(ad.add (i.toNat*3)).off+1,none⟩=some (.string (rd_T51 xs i).f1)/\w.cell? ⟨(ad.add (i.toNat*3)).block,(ad.add (i.toNat*3)).off+2,none⟩=some (.int .i64 (rd_T51 xs i).f2):=by
 obtain⟨ad,c,e,_,hK,hc0⟩:=Kd.C_get h z51 i h0 h1;have hc:∀j u,c[j]? = some u->w.cell? (ad.add (i.toNat*3+j))=some u:=hc0;obtain rfl:=k51_open hK;exact⟨ad,e,hc 0 _ rfl,by rw[<-add_field _ _ 1 (by omega)];exact hc 1 _ rfl,by rw[<-add_field _ _ 2 (by omega)];exact hc 2 _ rfl⟩
def spec_lxIsStrange.f(a0:Int):Option (Bool):=if a0<32 then(if a0=9 then(some (a0==127)) else(if a0=10 then(some (a0==127)) else(some true))) else(some (a0==127))
set_option maxHeartbeats 8000000 in
set_option maxRecDepth 100000 in
theorem spec_lxIsStrange.calls(a0:Int)(r:Bool)(w:World)(h:spec_lxIsStrange.f a0=some r):
  Calls Tryz.prog 68 #[.int .u8 a0] w fun e w'=>e = .returned (.bool r)/\Drawn0 w w':=by
 have H:(if a0<32 then(if a0=9 then(some (a0==127)) else(if a0=10 then(some (a0==127)) else(some true))) else(some (a0==127)))=some r:=h;clear h
 by_cases c2:a0<32
 ·rw[if_pos c2] at H
  have c2b0:decide (a0<32)=true:=decide_eq_true c2;clear c2
  by_cases c3:a0=9
  ·rw[if_pos c3] at H
   have c3b0:(a0==9)=true:=beq_iff_eq.mpr c3;have c3b1:(a0 != 9)=false:=bne_eq_false_iff_eq.mpr c3;clear c3;obtain rfl:=Option.some.inj H;go_enter Tryz.func68,Tryz.ntmps68
   go_wp2
   go_ret;exact⟨by first|rfl|(simp;done)|(simp[*];done),by repeat (first|exact Drawn0.refl _|apply Drawn0.step)⟩
  ·rw[if_neg c3] at H
   have c3b0:(a0==9)=false:=beq_eq_false_iff_ne.mpr c3;have c3b1:(a0 != 9)=true:=bne_iff_ne.mpr c3
   by_cases c4:a0=10
   ·rw[if_pos c4] at H
    have c4b0:(a0==10)=true:=beq_iff_eq.mpr c4;have c4b1:(a0 != 10)=false:=bne_eq_false_iff_eq.mpr c4;clear c4;obtain rfl:=Option.some.inj H;go_enter Tryz.func68,Tryz.ntmps68
    go_wp2
    go_ret;exact⟨by first|rfl|(simp;done)|(simp[*];done),by repeat (first|exact Drawn0.refl _|apply Drawn0.step)⟩
   ·rw[if_neg c4] at H
    have c4b0:(a0==10)=false:=beq_eq_false_iff_ne.mpr c4;have c4b1:(a0 != 10)=true:=bne_iff_ne.mpr c4;obtain rfl:=Option.some.inj H;go_enter Tryz.func68,Tryz.ntmps68
    go_wp2
    go_ret;exact⟨by first|rfl|(simp;done)|(simp[*];done),by repeat (first|exact Drawn0.refl _|apply Drawn0.step)⟩
 ·rw[if_neg c2] at H
  have c2b0:decide (a0<32)=false:=decide_eq_false c2;clear c2;obtain rfl:=Option.some.inj H;go_enter Tryz.func68,Tryz.ntmps68
  go_wp2
  go_ret;exact⟨by first|rfl|(simp;done)|(simp[*];done),by repeat (first|exact Drawn0.refl _|apply Drawn0.step)⟩
mutual
def spec_lxIsOpen.j0:Nat->ByteArray->Bool->Option (Bool)
 |0,_,_=>none
 |k+1,x0,x16=>if x16=true then(some true) else(spec_lxIsOpen.l0 k x0 0)
def spec_lxIsOpen.l0:Nat->ByteArray->Int->Option (Bool)
 |0,_,_=>none
 |k+1,x0,x3=>if x3<(x0.size:Int) then(if 0<=x3 then((spec_lxIsStrange.f (bt x0 x3)).bind fun t101=>(if t101=true then(some true) else(spec_lxIsOpen.l0 k x0 (wrap64 (x3+1))))) else(none)) else(some false)
end
def spec_lxIsOpen.f(k:Nat)(a0:ByteArray):Option (Bool):=if(a0.size:Int)>2000 then(spec_lxIsOpen.j0 k a0 true) else(if(a0.size:Int)>0 then(if 0<(a0.size:Int) then(spec_lxIsOpen.j0 k a0 ((bt a0 0)==35)) else(none)) else(spec_lxIsOpen.j0 k a0 false))
set_option maxHeartbeats 8000000 in
set_option maxRecDepth 100000 in
theorem spec_lxIsOpen.calls(k:Nat)(a0:ByteArray)(r:Bool)(w:World)(h:spec_lxIsOpen.f k a0=some r):
  Calls Tryz.prog 29 #[.string a0] w fun e w'=>e = .returned (.bool r)/\Drawn0 w w':=by
 have H:(if(a0.size:Int)>2000 then(spec_lxIsOpen.j0 k a0 true) else(if(a0.size:Int)>0 then(if 0<(a0.size:Int) then(spec_lxIsOpen.j0 k a0 ((bt a0 0)==35)) else(none)) else(spec_lxIsOpen.j0 k a0 false)))=some r:=h;clear h;have HC2:=aM H;clear H;go_enter Tryz.func29,Tryz.ntmps29
 go_upto_region 1 with(fail)
 go_cut [16] (fun v16 wc=>∃(kq:Nat) (x16_1:Bool),v16 = .bool x16_1/\Aside0 (spec_lxIsOpen.j0 kq a0 x16_1=some r)/\Aside0 (kq<=k)/\Drawn0 w wc)
 case first=>
  have H:=HC2.out;clear HC2
  by_cases c3:(a0.size:Int)>2000
  ·rw[if_pos c3] at H
   have c3b0:decide (2000<(a0.size:Int))=true:=decide_eq_true c3;have c3b1:decide (2000<a0.size)=true:=decide_eq_true (by omega);clear c3
   (first|rw[c3b0]|(simp only[i64_w,i32_w];rw[c3b0])|skip)
   have H':=aM H;clear H
   go_wp2
   go_meet
   case rel=>exact⟨_,(true),(by first|rfl|(simp;done)|(simp[*];done)),H',⟨by first|omega|exact Nat.le_refl _⟩,by repeat (first|exact Drawn0.refl _|apply Drawn0.step)⟩
  ·rw[if_neg c3] at H
   have c3b0:decide (2000<(a0.size:Int))=false:=decide_eq_false c3;have c3b1:decide (2000<a0.size)=false:=decide_eq_false (by omega);clear c3
   (first|rw[c3b0]|(simp only[i64_w,i32_w];rw[c3b0])|skip)
   by_cases c4:(a0.size:Int)>0
   ·rw[if_pos c4] at H
    have c4b0:decide (0<(a0.size:Int))=true:=decide_eq_true c4;have c4b1:decide (0<a0.size)=true:=decide_eq_true (by omega);clear c4
    by_cases c5:0<(a0.size:Int)
    ·rw[if_pos c5] at H
     have c5b0:decide (0<(a0.size:Int))=true:=decide_eq_true c5;have c5b1:decide (0<a0.size)=true:=decide_eq_true (by omega);clear c5;have H':=aM H;clear H;have p6:0<=(0:Int):=(by omega);have q6:0<a0.size:=(by have:(0:Int)<(a0.size:Int):=of_decide_eq_true (by first|(with_reducible assumption)|assumption);omega);have hx6:∀h:0<a0.size,((a0[0]'h).toNat:Int)=bt a0 0:=bt_at a0 0;clear p6;have qi6:(0<(a0.size:Int))=True:=eq_true (of_decide_eq_true (by first|(with_reducible assumption)|assumption));replace q6:=eq_true q6
     go_wp2
     go_meet
     case rel=>exact⟨_,(((bt a0 0)==35)),(by first|rfl|(simp;done)|(simp[*];done)),H',⟨by first|omega|exact Nat.le_refl _⟩,by repeat (first|exact Drawn0.refl _|apply Drawn0.step)⟩
    ·rw[if_neg c5] at H
     exact absurd H (by simp)
   ·rw[if_neg c4] at H
    have c4b0:decide (0<(a0.size:Int))=false:=decide_eq_false c4;have c4b1:decide (0<a0.size)=false:=decide_eq_false (by omega);clear c4;have H':=aM H;clear H
    go_wp2
    go_meet
    case rel=>exact⟨_,(false),(by first|rfl|(simp;done)|(simp[*];done)),H',⟨by first|omega|exact Nat.le_refl _⟩,by repeat (first|exact Drawn0.refl _|apply Drawn0.step)⟩
 case rest=>
  clear HC2
  try clear c2
  try clear p2
  try clear c3
  try clear c3b0
  try clear c3b1
  try clear c4
  try clear c4b0
  try clear c4b1
  try clear c5
  try clear c5b0
  try clear c5b1
  try clear p6
  try clear q6
  try clear hx6
  try clear qi6
  try clear p6
  try clear q6
  obtain⟨kq,x16_1,rfl,HA,HJ1,⟨mc1,rfl⟩⟩:=hcut
  cases kq with
  |zero=>exact absurd HA.out (by simp[spec_lxIsOpen.j0])
  |succ kj1=>
   have H:=HA.out;clear HA;simp only[spec_lxIsOpen.j0] at H
   by_cases c7:x16_1=true
   ·subst c7
    have H1:(some true)=some r:=by rw[if_pos rfl] at H;exact H
    clear H;have H:=H1;clear H1;obtain rfl:=Option.some.inj H
    go_wp2
    go_ret;exact⟨by first|rfl|(simp;done)|(simp[*];done),by repeat (first|exact Drawn0.refl _|apply Drawn0.step)⟩
   ·replace c7:=Bool.eq_false_iff.mpr c7
    subst c7;have H1:(spec_lxIsOpen.l0 kj1 a0 0)=some r:=by rw[if_neg (show ¬(false=true) by decide)] at H;exact H
    clear H;have H:=H1;clear H1;have H':=aM H;clear H
    go_wp2
    go_loopg [3] kj1 (fun kq v3 w'=>∃(x3_2:Int),v3 = .int .i64 x3_2/\Aside0 (spec_lxIsOpen.l0 kq a0 x3_2=some r)/\Aside0 (kq<=kj1)/\Drawn0 w w')
    case atStart=>exact⟨(0),(by first|rfl|(simp;done)|(simp[*];done)),H',⟨Nat.le_refl _⟩,by repeat (first|exact Drawn0.refl _|apply Drawn0.step)⟩
    case round=>
     clear H'
     try clear c1
     try clear c2
     try clear p2
     try clear c3
     try clear c3b0
     try clear c3b1
     try clear c4
     try clear c4b0
     try clear c4b1
     try clear c5
     try clear c5b0
     try clear c5b1
     try clear p6
     try clear q6
     try clear hx6
     try clear qi6
     try clear c7
     try clear p2
     try clear p6
     try clear q6
     obtain⟨x3_2,rfl,HA,HK2,⟨m2,rfl⟩⟩:=hrel
     cases gk with
     |zero=>exact absurd HA.out (by simp[spec_lxIsOpen.l0])
     |succ k2=>
      have H:=HA.out;clear HA;simp only[spec_lxIsOpen.l0] at H
      by_cases c8:x3_2<(a0.size:Int)
      ·rw[if_pos c8] at H
       have c8b0:decide (x3_2<(a0.size:Int))=true:=decide_eq_true c8;clear c8
       by_cases c9:0<=x3_2
       ·rw[if_pos c9] at H
        have c9b0:decide (0<=x3_2)=true:=decide_eq_true c9;clear c9;replace H:=Option.bind_eq_some_iff.mp H;obtain⟨t101,A110,H⟩:=H;replace H:(if t101=true then(some true) else(spec_lxIsOpen.l0 k2 a0 (wrap64 (x3_2+1))))=some r:=H;have A11:=aM A110;clear A110
        by_cases c12:t101=true
        ·subst c12
         have H1:(some true)=some r:=by rw[if_pos rfl] at H;exact H
         clear H;have H:=H1;clear H1;obtain rfl:=Option.some.inj H;have p10:0<=(x3_2:Int):=of_decide_eq_true (by first|(with_reducible assumption)|assumption);have q10:x3_2<(a0.size:Int):=of_decide_eq_true (by first|(with_reducible assumption)|assumption);have hx10:=bt_at a0 x3_2;replace p10:=eq_true p10;replace q10:=eq_true q10;go_wp2_with (first|((with_reducible refine gate_callee (f:=68) rfl ?_);refine goesL_ (some 26) rfl rfl Tryz.func68 (by kernel_rfl) rfl #[.int .u8 (bt a0 x3_2)] rfl (by(try simp only[List.map_toArray,List.map_cons,List.map_nil]);first|done|rfl|(simp only[List.length_drop,List.length_take];rfl)) ?_;(with_reducible refine(spec_lxIsStrange.calls (bt a0 x3_2) true _ A11.out).mono ?_);rintro e w' ⟨rfl,⟨nd,rfl⟩⟩;refine⟨_,rfl,?_⟩))
         go_ret;exact⟨by first|rfl|(simp;done)|(simp[*];done),by repeat (first|exact Drawn0.refl _|apply Drawn0.step)⟩
        ·replace c12:=Bool.eq_false_iff.mpr c12
         subst c12;have H1:(spec_lxIsOpen.l0 k2 a0 (wrap64 (x3_2+1)))=some r:=by rw[if_neg (show ¬(false=true) by decide)] at H;exact H
         clear H;have H:=H1;clear H1;have H':=aM H;clear H;have p10:0<=(x3_2:Int):=of_decide_eq_true (by first|(with_reducible assumption)|assumption);have q10:x3_2<(a0.size:Int):=of_decide_eq_true (by first|(with_reducible assumption)|assumption);have hx10:=bt_at a0 x3_2;replace p10:=eq_true p10;replace q10:=eq_true q10;go_wp2_with (first|((with_reducible refine gate_callee (f:=68) rfl ?_);refine goesL_ (some 26) rfl rfl Tryz.func68 (by kernel_rfl) rfl #[.int .u8 (bt a0 x3_2)] rfl (by(try simp only[List.map_toArray,List.map_cons,List.map_nil]);first|done|rfl|(simp only[List.length_drop,List.length_take];rfl)) ?_;(with_reducible refine(spec_lxIsStrange.calls (bt a0 x3_2) false _ A11.out).mono ?_);rintro e w' ⟨rfl,⟨nd,rfl⟩⟩;refine⟨_,rfl,?_⟩))
         go_roundg k2
         case measure=>have:=HJ1.out;have:=HK2.out;omega
         case rel=>exact⟨(wrap64 (x3_2+1)),(by first|rfl|(simp;done)|(simp[*];done)),H',⟨by have:=HJ1.out;have:=HK2.out;omega⟩,by repeat (first|exact Drawn0.refl _|apply Drawn0.step)⟩
       ·rw[if_neg c9] at H
        exact absurd H (by simp)
      ·rw[if_neg c8] at H
       have c8b0:decide (x3_2<(a0.size:Int))=false:=decide_eq_false c8;clear c8;obtain rfl:=Option.some.inj H
       go_wp2
       go_ret;exact⟨by first|rfl|(simp;done)|(simp[*];done),by repeat (first|exact Drawn0.refl _|apply Drawn0.step)⟩
def IsS81(w0 W:World)(g:Nat)(f0:ByteArray)(f1:Int)(f2:Int)(f3:Int):Prop:=W.heap[g]? = some (.cells #[.string f0,.int .i64 f1,.int .i64 f2,.int .i64 f3] 81 (0,0))/\w0.heap.size<=g
theorem IsS81.drewN{w0 W:World}{g:Nat}{f0:ByteArray}{f1:Int}{f2:Int}{f3:Int}(h:IsS81 w0 W g f0 f1 f2 f3)(m:Nat):IsS81 w0 (W.drewN m) g f0 f1 f2 f3:=h
theorem cellS81_0{W:World}{g:Nat}{f0:ByteArray}{f1:Int}{f2:Int}{f3:Int}(h:W.heap[g]? = some (.cells #[.string f0,.int .i64 f1,.int .i64 f2,.int .i64 f3] 81 (0,0))):W.cell? ⟨g,0,none⟩=some (.string f0):=(bC h 0).trans rfl
theorem cellS81_1{W:World}{g:Nat}{f0:ByteArray}{f1:Int}{f2:Int}{f3:Int}(h:W.heap[g]? = some (.cells #[.string f0,.int .i64 f1,.int .i64 f2,.int .i64 f3] 81 (0,0))):W.cell? ⟨g,1,none⟩=some (.int .i64 f1):=(bC h 1).trans rfl
theorem cellS81_2{W:World}{g:Nat}{f0:ByteArray}{f1:Int}{f2:Int}{f3:Int}(h:W.heap[g]? = some (.cells #[.string f0,.int .i64 f1,.int .i64 f2,.int .i64 f3] 81 (0,0))):W.cell? ⟨g,2,none⟩=some (.int .i64 f2):=(bC h 2).trans rfl
theorem cellS81_3{W:World}{g:Nat}{f0:ByteArray}{f1:Int}{f2:Int}{f3:Int}(h:W.heap[g]? = some (.cells #[.string f0,.int .i64 f1,.int .i64 f2,.int .i64 f3] 81 (0,0))):W.cell? ⟨g,3,none⟩=some (.int .i64 f3):=(bC h 3).trans rfl
def spec_lxState_byteAt.f(s0_0:ByteArray)(s0_1:Int)(s0_2:Int)(s0_3:Int)(a1:Int):Option (Int×ByteArray×Int×Int×Int):=if(wrap64 (s0_1+a1))>=(s0_0.size:Int) then(some (0,s0_0,s0_1,s0_2,s0_3)) else(if 0<=(wrap64 (s0_1+a1)) then(if(wrap64 (s0_1+a1))<(s0_0.size:Int) then(some (bt s0_0 (wrap64 (s0_1+a1)),s0_0,s0_1,s0_2,s0_3)) else(none)) else(none))
set_option maxHeartbeats 8000000 in
set_option maxRecDepth 100000 in
theorem spec_lxState_byteAt.calls(g:Nat)(s0_0:ByteArray)(s0_1:Int)(s0_2:Int)(s0_3:Int)(a1:Int)(r1:Int)(r2:ByteArray)(r3:Int)(r4:Int)(r5:Int)(w0 w:World)(hI:IsS81 w0 w g s0_0 s0_1 s0_2 s0_3)(hB:Below w0.heap.size w0 w)(h:spec_lxState_byteAt.f s0_0 s0_1 s0_2 s0_3 a1=some (r1,r2,r3,r4,r5)):
  Calls Tryz.prog 31 #[.pointer (some ⟨g,0,none⟩),.int .i64 a1] w fun e w'=>e = .returned (.int .u8 r1)/\IsS81 w0 w' g r2 r3 r4 r5/\Below w0.heap.size w0 w'/\KeepBut w w' g none:=by
 have HI0:=aM hI;have HK:=aM (KeepBut.refl w g none);have HL:=aM hB.size;clear hI;have HW0:=aM hB.size;have HB:=aM hB;clear hB;have H:(if(wrap64 (s0_1+a1))>=(s0_0.size:Int) then(some (0,s0_0,s0_1,s0_2,s0_3)) else(if 0<=(wrap64 (s0_1+a1)) then(if(wrap64 (s0_1+a1))<(s0_0.size:Int) then(some (bt s0_0 (wrap64 (s0_1+a1)),s0_0,s0_1,s0_2,s0_3)) else(none)) else(none)))=some (r1,r2,r3,r4,r5):=h;clear h
 by_cases c3:(wrap64 (s0_1+a1))>=(s0_0.size:Int)
 ·rw[if_pos c3] at H
  have c3b0:decide ((s0_0.size:Int)<=(wrap64 (s0_1+a1)))=true:=decide_eq_true c3;clear c3;simp only[Option.some.injEq,Prod.mk.injEq] at H;obtain⟨rfl,rfl,rfl,rfl,rfl⟩:=H;obtain⟨HGz4,hgz4⟩:=HI0.out;have hcz4_0:=cellS81_0 HGz4;have hcz4_1:=cellS81_1 HGz4;have hcz4_2:=cellS81_2 HGz4;have hcz4_3:=cellS81_3 HGz4;obtain⟨hfz4_0,hfz4_1,hfz4_2,hfz4_3⟩:=bF4 HGz4;clear HGz4 hgz4;go_enter Tryz.func31,Tryz.ntmps31
  go_wp2
  repeat (go_quiet (fail);try go_wp2)
  go_ret;exact⟨by first|rfl|(simp[errW_none,errW_some]<;>rfl)|(simp[*,errW_none,errW_some]<;>rfl),by repeat (first|(with_reducible first|exact HI0.out|apply IsS81.alloc|apply IsS81.drewN|apply IsS81.drew|apply IsS81.set_0|apply IsS81.set_1|apply IsS81.set_2|apply IsS81.set_3)|exact HI0.out),by repeat (first|(with_reducible first|exact HB.out|apply bA|apply pD|apply bD|refine below_set ?_ (IsS81.ge HI0.out))|exact HB.out),by repeat (first|(with_reducible first|exact HK.out|apply KeepBut.set_|apply keep_drewN|apply keep_drew|apply keep_alloc)|exact HK.out)⟩
 ·rw[if_neg c3] at H
  have c3b0:decide ((s0_0.size:Int)<=(wrap64 (s0_1+a1)))=false:=decide_eq_false c3;clear c3;obtain⟨ji5,hji5⟩:∃j_:Int,(wrap64 (s0_1+a1))=j_:=⟨_,rfl⟩;replace H:(if 0<=(ji5) then(if(ji5)<(s0_0.size:Int) then(some (bt s0_0 (ji5),s0_0,s0_1,s0_2,s0_3)) else(none)) else(none))=some (r1,r2,r3,r4,r5):=by first|(rw[hji5] at H;exact H)|(simp only[hji5] at H|-;exact H)
  (try rw[hji5] at c3b0)
  have hji5w:(IntKind.i64.wrap (s0_1+a1))=ji5:=(i64_w _).trans hji5
  by_cases c6:0<=(ji5)
  ·rw[if_pos c6] at H
   have c6b0:decide (0<=(ji5))=true:=decide_eq_true c6;clear c6
   by_cases c7:(ji5)<(s0_0.size:Int)
   ·rw[if_pos c7] at H
    have c7b0:decide ((ji5)<(s0_0.size:Int))=true:=decide_eq_true c7;clear c7;simp only[Option.some.injEq,Prod.mk.injEq] at H;obtain⟨rfl,rfl,rfl,rfl,rfl⟩:=H;obtain⟨HGz9,hgz9⟩:=HI0.out;have hcz9_0:=cellS81_0 HGz9;have hcz9_1:=cellS81_1 HGz9;have hcz9_2:=cellS81_2 HGz9;have hcz9_3:=cellS81_3 HGz9;obtain⟨hfz9_0,hfz9_1,hfz9_2,hfz9_3⟩:=bF4 HGz9;clear HGz9 hgz9;have p8:0<=((ji5):Int):=of_decide_eq_true (by first|(with_reducible assumption)|assumption);have q8:(ji5)<(s0_0.size:Int):=of_decide_eq_true (by first|(with_reducible assumption)|assumption);have hx8:=bt_at s0_0 (ji5);replace p8:=eq_true p8;replace q8:=eq_true q8;go_enter Tryz.func31,Tryz.ntmps31
    go_wp2
    repeat (go_quiet (fail);try go_wp2)
    go_ret;exact⟨by first|rfl|(simp[errW_none,errW_some]<;>rfl)|(simp only[<-hji5];first|rfl|(simp[errW_none,errW_some]<;>rfl))|(simp[*,errW_none,errW_some]<;>rfl),by repeat (first|(with_reducible first|exact HI0.out|apply IsS81.alloc|apply IsS81.drewN|apply IsS81.drew|apply IsS81.set_0|apply IsS81.set_1|apply IsS81.set_2|apply IsS81.set_3)|exact HI0.out),by repeat (first|(with_reducible first|exact HB.out|apply bA|apply pD|apply bD|refine below_set ?_ (IsS81.ge HI0.out))|exact HB.out),by repeat (first|(with_reducible first|exact HK.out|apply KeepBut.set_|apply keep_drewN|apply keep_drew|apply keep_alloc)|exact HK.out)⟩
   ·rw[if_neg c7] at H
    exact absurd H (by simp)
  ·rw[if_neg c6] at H
   exact absurd H (by simp)
def spec_lxState_starts.f(s0_0:ByteArray)(s0_1:Int)(s0_2:Int)(s0_3:Int)(a1:ByteArray):Option (Bool×ByteArray×Int×Int×Int):=if(wrap64 (s0_1+(a1.size:Int)))<=(s0_0.size:Int) then(if 0<=s0_1 then(if s0_1<=(wrap64 (s0_1+(a1.size:Int))) then(some (((s0_0.extract (s0_1:Int).toNat ((wrap64 (s0_1+(a1.size:Int))):Int).toNat).toList==a1.toList),s0_0,s0_1,s0_2,s0_3)) else(none)) else(none)) else(some (false,s0_0,s0_1,s0_2,s0_3))
set_option maxHeartbeats 8000000 in
set_option maxRecDepth 100000 in
theorem spec_lxState_starts.calls(g:Nat)(s0_0:ByteArray)(s0_1:Int)(s0_2:Int)(s0_3:Int)(a1:ByteArray)(r1:Bool)(r2:ByteArray)(r3:Int)(r4:Int)(r5:Int)(w0 w:World)(hI:IsS81 w0 w g s0_0 s0_1 s0_2 s0_3)(hB:Below w0.heap.size w0 w)(h:spec_lxState_starts.f s0_0 s0_1 s0_2 s0_3 a1=some (r1,r2,r3,r4,r5)):
  Calls Tryz.prog 33 #[.pointer (some ⟨g,0,none⟩),.string a1] w fun e w'=>e = .returned (.bool r1)/\IsS81 w0 w' g r2 r3 r4 r5/\Below w0.heap.size w0 w'/\KeepBut w w' g none:=by
 have HI0:=aM hI;have HK:=aM (KeepBut.refl w g none);have HL:=aM hB.size;clear hI;have HW0:=aM hB.size;have HB:=aM hB;clear hB;have H:(if(wrap64 (s0_1+(a1.size:Int)))<=(s0_0.size:Int) then(if 0<=s0_1 then(if s0_1<=(wrap64 (s0_1+(a1.size:Int))) then(some (((s0_0.extract (s0_1:Int).toNat ((wrap64 (s0_1+(a1.size:Int))):Int).toNat).toList==a1.toList),s0_0,s0_1,s0_2,s0_3)) else(none)) else(none)) else(some (false,s0_0,s0_1,s0_2,s0_3)))=some (r1,r2,r3,r4,r5):=h;clear h
 by_cases c3:(wrap64 (s0_1+(a1.size:Int)))<=(s0_0.size:Int)
 ·rw[if_pos c3] at H
  have c3b0:decide ((wrap64 (s0_1+(a1.size:Int)))<=(s0_0.size:Int))=true:=decide_eq_true c3;clear c3
  by_cases c4:0<=s0_1
  ·rw[if_pos c4] at H
   have c4b0:=eq_true c4;have c4b1:decide (0<=s0_1)=true:=decide_eq_true c4;clear c4
   by_cases c5:s0_1<=(wrap64 (s0_1+(a1.size:Int)))
   ·rw[if_pos c5] at H
    have c5b0:=eq_true c5;have c5b1:decide (s0_1<=(wrap64 (s0_1+(a1.size:Int))))=true:=decide_eq_true c5;have c6b0:=eq_true (of_decide_eq_true (by first|(with_reducible assumption)|assumption):(wrap64 (s0_1+(a1.size:Int)))<=(s0_0.size:Int));simp only[Option.some.injEq,Prod.mk.injEq] at H;obtain⟨rfl,rfl,rfl,rfl,rfl⟩:=H;obtain⟨HGz7,hgz7⟩:=HI0.out;have hcz7_0:=cellS81_0 HGz7;have hcz7_1:=cellS81_1 HGz7;have hcz7_2:=cellS81_2 HGz7;have hcz7_3:=cellS81_3 HGz7;obtain⟨hfz7_0,hfz7_1,hfz7_2,hfz7_3⟩:=bF4 HGz7;clear HGz7 hgz7;go_enter Tryz.func33,Tryz.ntmps33
    go_wp2
    repeat (go_quiet (fail);try go_wp2)
    go_ret;exact⟨by first|rfl|(simp[errW_none,errW_some]<;>rfl)|(simp[*,errW_none,errW_some]<;>rfl),by repeat (first|(with_reducible first|exact HI0.out|apply IsS81.alloc|apply IsS81.drewN|apply IsS81.drew|apply IsS81.set_0|apply IsS81.set_1|apply IsS81.set_2|apply IsS81.set_3)|exact HI0.out),by repeat (first|(with_reducible first|exact HB.out|apply bA|apply pD|apply bD|refine below_set ?_ (IsS81.ge HI0.out))|exact HB.out),by repeat (first|(with_reducible first|exact HK.out|apply KeepBut.set_|apply keep_drewN|apply keep_drew|apply keep_alloc)|exact HK.out)⟩
   ·rw[if_neg c5] at H
    exact absurd H (by simp)
  ·rw[if_neg c4] at H
   exact absurd H (by simp)
 ·rw[if_neg c3] at H
  have c3b0:decide ((wrap64 (s0_1+(a1.size:Int)))<=(s0_0.size:Int))=false:=decide_eq_false c3;clear c3;simp only[Option.some.injEq,Prod.mk.injEq] at H;obtain⟨rfl,rfl,rfl,rfl,rfl⟩:=H;obtain⟨HGz8,hgz8⟩:=HI0.out;have hcz8_0:=cellS81_0 HGz8;have hcz8_1:=cellS81_1 HGz8;have hcz8_2:=cellS81_2 HGz8;have hcz8_3:=cellS81_3 HGz8;obtain⟨hfz8_0,hfz8_1,hfz8_2,hfz8_3⟩:=bF4 HGz8;clear HGz8 hgz8;go_enter Tryz.func33,Tryz.ntmps33
  go_wp2
  repeat (go_quiet (fail);try go_wp2)
  go_ret;exact⟨by first|rfl|(simp[errW_none,errW_some]<;>rfl)|(simp[*,errW_none,errW_some]<;>rfl),by repeat (first|(with_reducible first|exact HI0.out|apply IsS81.alloc|apply IsS81.drewN|apply IsS81.drew|apply IsS81.set_0|apply IsS81.set_1|apply IsS81.set_2|apply IsS81.set_3)|exact HI0.out),by repeat (first|(with_reducible first|exact HB.out|apply bA|apply pD|apply bD|refine below_set ?_ (IsS81.ge HI0.out))|exact HB.out),by repeat (first|(with_reducible first|exact HK.out|apply KeepBut.set_|apply keep_drewN|apply keep_drew|apply keep_alloc)|exact HK.out)⟩
def spec_lxState_bracket.l0:Nat->Int->Int->ByteArray->Int->Int->Int->Option (Int×ByteArray×Int×Int×Int)
 |0,_,_,_,_,_,_=>none
 |k+1,x1,x5,x1000,x1001,x1002,x1003=>(spec_lxState_byteAt.f x1000 x1001 x1002 x1003 (wrap64 (1+x5))).bind fun bt107=>(if bt107.1=61 then(spec_lxState_bracket.l0 k x1 (wrap64 (x5+1)) bt107.2.1 bt107.2.2.1 bt107.2.2.2.1 bt107.2.2.2.2) else((spec_lxState_byteAt.f bt107.2.1 bt107.2.2.1 bt107.2.2.2.1 bt107.2.2.2.2 0).bind fun bt112=>(if bt112.1=x1 then((spec_lxState_byteAt.f bt112.2.1 bt112.2.2.1 bt112.2.2.2.1 bt112.2.2.2.2 (wrap64 (1+x5))).bind fun bt117=>(if bt117.1=x1 then(some (x5,bt117.2.1,bt117.2.2.1,bt117.2.2.2.1,bt117.2.2.2.2)) else(some ((-1),bt117.2.1,bt117.2.2.1,bt117.2.2.2.1,bt117.2.2.2.2)))) else(some ((-1),bt112.2.1,bt112.2.2.1,bt112.2.2.2.1,bt112.2.2.2.2)))))
def spec_lxState_bracket.f(k:Nat)(s0_0:ByteArray)(s0_1:Int)(s0_2:Int)(s0_3:Int)(a1:Int):Option (Int×ByteArray×Int×Int×Int):=spec_lxState_bracket.l0 k a1 0 s0_0 s0_1 s0_2 s0_3
set_option maxHeartbeats 8000000 in
set_option maxRecDepth 100000 in
theorem spec_lxState_bracket.calls(k:Nat)(g:Nat)(s0_0:ByteArray)(s0_1:Int)(s0_2:Int)(s0_3:Int)(a1:Int)(r1:Int)(r2:ByteArray)(r3:Int)(r4:Int)(r5:Int)(w0 w:World)(hI:IsS81 w0 w g s0_0 s0_1 s0_2 s0_3)(hB:Below w0.heap.size w0 w)(h:spec_lxState_bracket.f k s0_0 s0_1 s0_2 s0_3 a1=some (r1,r2,r3,r4,r5)):
  Calls Tryz.prog 70 #[.pointer (some ⟨g,0,none⟩),.int .u8 a1] w fun e w'=>e = .returned (.int .i64 r1)/\IsS81 w0 w' g r2 r3 r4 r5/\Below w0.heap.size w0 w'/\KeepBut w w' g none:=by
 have HI0:=aM hI;have HK:=aM (KeepBut.refl w g none);have HL:=aM hB.size;clear hI;have HW0:=aM hB.size;have HB:=aM hB;clear hB;have H:(spec_lxState_bracket.l0 k a1 0 s0_0 s0_1 s0_2 s0_3)=some (r1,r2,r3,r4,r5):=h;clear h;have H':=aM H;clear H;go_enter Tryz.func70,Tryz.ntmps70
 go_wp2
 go_loopg [5] k (fun kq v5 w'=>∃(x5_1:Int) (x1000_1:ByteArray) (x1001_1:Int) (x1002_1:Int) (x1003_1:Int),v5 = .int .i64 x5_1/\Aside0 (spec_lxState_bracket.l0 kq a1 x5_1 x1000_1 x1001_1 x1002_1 x1003_1=some (r1,r2,r3,r4,r5))/\Aside0 (kq<=k)/\Aside0 (IsS81 w0 w' g x1000_1 x1001_1 x1002_1 x1003_1)/\Aside0 (KeepBut w w' g none)/\Aside0 (Below w0.heap.size w0 w'))
 case atStart=>exact⟨(0),(s0_0),(s0_1),(s0_2),(s0_3),(by first|rfl|(simp;done)|(simp[*];done)),H',⟨Nat.le_refl _⟩,⟨by repeat (first|(with_reducible first|exact HI0.out|apply IsS81.alloc|apply IsS81.drewN|apply IsS81.drew|apply IsS81.set_0|apply IsS81.set_1|apply IsS81.set_2|apply IsS81.set_3)|exact HI0.out)⟩,⟨by repeat (first|(with_reducible first|exact HK.out|apply KeepBut.set_|apply keep_drewN|apply keep_drew|apply keep_alloc)|exact HK.out)⟩,⟨by repeat (first|(with_reducible first|exact HB.out|apply bA|apply pD|apply bD|refine below_set ?_ (IsS81.ge HI0.out))|exact HB.out)⟩⟩
 case round=>
  clear H'
  try clear p2
  obtain⟨x5_1,x1000_1,x1001_1,x1002_1,x1003_1,rfl,HA,HK1,HI0,HK,HB⟩:=hrel
  cases gk with
  |zero=>exact absurd HA.out (by simp[spec_lxState_bracket.l0])
  |succ k1=>
   have H:=HA.out;clear HA;simp only[spec_lxState_bracket.l0] at H;replace H:=Option.bind_eq_some_iff.mp H;obtain⟨⟨t107,t108,t109,t110,t111⟩,A30,H⟩:=H;replace H:(if t107=61 then(spec_lxState_bracket.l0 k1 a1 (wrap64 (x5_1+1)) t108 t109 t110 t111) else((spec_lxState_byteAt.f t108 t109 t110 t111 0).bind fun bt112=>(if bt112.1=a1 then((spec_lxState_byteAt.f bt112.2.1 bt112.2.2.1 bt112.2.2.2.1 bt112.2.2.2.2 (wrap64 (1+x5_1))).bind fun bt117=>(if bt117.1=a1 then(some (x5_1,bt117.2.1,bt117.2.2.1,bt117.2.2.2.1,bt117.2.2.2.2)) else(some ((-1),bt117.2.1,bt117.2.2.1,bt117.2.2.2.1,bt117.2.2.2.2)))) else(some ((-1),bt112.2.1,bt112.2.2.1,bt112.2.2.2.1,bt112.2.2.2.2)))))=some (r1,r2,r3,r4,r5):=H;have A3:=aM A30;clear A30
   by_cases c4:t107=61
   ·rw[if_pos c4] at H
    have c4b0:(t107==61)=true:=beq_iff_eq.mpr c4;have c4b1:(t107 != 61)=false:=bne_eq_false_iff_eq.mpr c4;clear c4;have H':=aM H;clear H;go_wp2_with (first|((with_reducible refine gate_callee (f:=31) rfl ?_);refine goesL_ (some 9) rfl rfl Tryz.func31 (by kernel_rfl) rfl #[.pointer (some ⟨g,0,none⟩),.int .i64 (wrap64 (1+x5_1))] rfl (by(try simp only[List.map_toArray,List.map_cons,List.map_nil]);first|done|rfl|(simp only[List.length_drop,List.length_take];rfl)) ?_;(with_reducible refine(spec_lxState_byteAt.calls g x1000_1 x1001_1 x1002_1 x1003_1 (wrap64 (1+x5_1)) t107 t108 t109 t110 t111 w0 _ ?side1 ?side2 A3.out).mono ?_);(case side1=>repeat (first|(with_reducible first|exact HI0.out|apply IsS81.alloc|apply IsS81.drewN|apply IsS81.drew|apply IsS81.set_0|apply IsS81.set_1|apply IsS81.set_2|apply IsS81.set_3)|exact HI0.out));(case side2=>repeat (first|(with_reducible first|exact HB.out|apply bA|apply pD|apply bD|refine below_set ?_ (IsS81.ge HI0.out))|exact HB.out));rintro e w5 ⟨rfl,hi,hb,hk⟩;refine⟨_,rfl,?_⟩;have n0_:=aM (KeepBut.trans (by repeat (first|(with_reducible first|exact HK.out|apply KeepBut.set_|apply keep_drewN|apply keep_drew|apply keep_alloc)|exact HK.out)) hk (.inl rfl));have n1_:=aM (hb);have n2_:=aM (hi);clear HK;clear HB;clear HI0;have HK:=n0_;have HB:=n1_;have HI0:=n2_;clear n0_ n1_ n2_;(try clear hb);(try clear hb2);(try clear hk);(try clear hi)))
    go_roundg k1
    case measure=>have:=HK1.out;omega
    case rel=>exact⟨(wrap64 (x5_1+1)),(t108),(t109),(t110),(t111),(by first|rfl|(simp;done)|(simp[*];done)),H',⟨by have:=HK1.out;omega⟩,⟨by repeat (first|(with_reducible first|exact HI0.out|apply IsS81.alloc|apply IsS81.drewN|apply IsS81.drew|apply IsS81.set_0|apply IsS81.set_1|apply IsS81.set_2|apply IsS81.set_3)|exact HI0.out)⟩,⟨by repeat (first|(with_reducible first|exact HK.out|apply KeepBut.set_|apply keep_drewN|apply keep_drew|apply keep_alloc)|exact HK.out)⟩,⟨by repeat (first|(with_reducible first|exact HB.out|apply bA|apply pD|apply bD|refine below_set ?_ (IsS81.ge HI0.out))|exact HB.out)⟩⟩
   ·rw[if_neg c4] at H
    have c4b0:(t107==61)=false:=beq_eq_false_iff_ne.mpr c4;have c4b1:(t107 != 61)=true:=bne_iff_ne.mpr c4;replace H:=Option.bind_eq_some_iff.mp H;obtain⟨⟨t112,t113,t114,t115,t116⟩,A60,H⟩:=H;replace H:(if t112=a1 then((spec_lxState_byteAt.f t113 t114 t115 t116 (wrap64 (1+x5_1))).bind fun bt117=>(if bt117.1=a1 then(some (x5_1,bt117.2.1,bt117.2.2.1,bt117.2.2.2.1,bt117.2.2.2.2)) else(some ((-1),bt117.2.1,bt117.2.2.1,bt117.2.2.2.1,bt117.2.2.2.2)))) else(some ((-1),t113,t114,t115,t116)))=some (r1,r2,r3,r4,r5):=H;have A6:=aM A60;clear A60
    by_cases c7:t112=a1
    ·rw[if_pos c7] at H
     have c7b0:(t112==a1)=true:=beq_iff_eq.mpr c7;have c7b1:(t112 != a1)=false:=bne_eq_false_iff_eq.mpr c7;clear c7;replace H:=Option.bind_eq_some_iff.mp H;obtain⟨⟨t117,t118,t119,t120,t121⟩,A80,H⟩:=H;replace H:(if t117=a1 then(some (x5_1,t118,t119,t120,t121)) else(some ((-1),t118,t119,t120,t121)))=some (r1,r2,r3,r4,r5):=H;have A8:=aM A80;clear A80
     by_cases c9:t117=a1
     ·rw[if_pos c9] at H
      have c9b0:(t117==a1)=true:=beq_iff_eq.mpr c9;have c9b1:(t117 != a1)=false:=bne_eq_false_iff_eq.mpr c9;clear c9;simp only[Option.some.injEq,Prod.mk.injEq] at H;obtain⟨rfl,rfl,rfl,rfl,rfl⟩:=H
      go_wp2_with (first|((with_reducible refine gate_callee (f:=31) rfl ?_);refine goesL_ (some 9) rfl rfl Tryz.func31 (by kernel_rfl) rfl #[.pointer (some ⟨g,0,none⟩),.int .i64 (wrap64 (1+x5_1))] rfl (by(try simp only[List.map_toArray,List.map_cons,List.map_nil]);first|done|rfl|(simp only[List.length_drop,List.length_take];rfl)) ?_;(with_reducible refine(spec_lxState_byteAt.calls g x1000_1 x1001_1 x1002_1 x1003_1 (wrap64 (1+x5_1)) t107 t108 t109 t110 t111 w0 _ ?side1 ?side2 A3.out).mono ?_);(case side1=>repeat (first|(with_reducible first|exact HI0.out|apply IsS81.alloc|apply IsS81.drewN|apply IsS81.drew|apply IsS81.set_0|apply IsS81.set_1|apply IsS81.set_2|apply IsS81.set_3)|exact HI0.out));(case side2=>repeat (first|(with_reducible first|exact HB.out|apply bA|apply pD|apply bD|refine below_set ?_ (IsS81.ge HI0.out))|exact HB.out));rintro e w10 ⟨rfl,hi,hb,hk⟩;refine⟨_,rfl,?_⟩;have n0_:=aM (KeepBut.trans (by repeat (first|(with_reducible first|exact HK.out|apply KeepBut.set_|apply keep_drewN|apply keep_drew|apply keep_alloc)|exact HK.out)) hk (.inl rfl));have n1_:=aM (hb);have n2_:=aM (hi);clear HK;clear HB;clear HI0;have HK:=n0_;have HB:=n1_;have HI0:=n2_;clear n0_ n1_ n2_;(try clear hb);(try clear hb2);(try clear hk);(try clear hi))|((with_reducible refine gate_callee (f:=31) rfl ?_);refine goesL_ (some 14) rfl rfl Tryz.func31 (by kernel_rfl) rfl #[.pointer (some ⟨g,0,none⟩),.int .i64 0] rfl (by(try simp only[List.map_toArray,List.map_cons,List.map_nil]);first|done|rfl|(simp only[List.length_drop,List.length_take];rfl)) ?_;(with_reducible refine(spec_lxState_byteAt.calls g t108 t109 t110 t111 0 t112 t113 t114 t115 t116 w0 _ ?side1 ?side2 A6.out).mono ?_);(case side1=>repeat (first|(with_reducible first|exact HI0.out|apply IsS81.alloc|apply IsS81.drewN|apply IsS81.drew|apply IsS81.set_0|apply IsS81.set_1|apply IsS81.set_2|apply IsS81.set_3)|exact HI0.out));(case side2=>repeat (first|(with_reducible first|exact HB.out|apply bA|apply pD|apply bD|refine below_set ?_ (IsS81.ge HI0.out))|exact HB.out));rintro e w11 ⟨rfl,hi,hb,hk⟩;refine⟨_,rfl,?_⟩;have n0_:=aM (KeepBut.trans (by repeat (first|(with_reducible first|exact HK.out|apply KeepBut.set_|apply keep_drewN|apply keep_drew|apply keep_alloc)|exact HK.out)) hk (.inl rfl));have n1_:=aM (hb);have n2_:=aM (hi);clear HK;clear HB;clear HI0;have HK:=n0_;have HB:=n1_;have HI0:=n2_;clear n0_ n1_ n2_;(try clear hb);(try clear hb2);(try clear hk);(try clear hi))|(go_at_call 31;(with_reducible refine(spec_lxState_byteAt.calls g t113 t114 t115 t116 (wrap64 (1+x5_1)) t117 t118 t119 t120 t121 w0 _ ?side1 ?side2 A8.out).mono ?_);(case side1=>repeat (first|(with_reducible first|exact HI0.out|apply IsS81.alloc|apply IsS81.drewN|apply IsS81.drew|apply IsS81.set_0|apply IsS81.set_1|apply IsS81.set_2|apply IsS81.set_3)|exact HI0.out));(case side2=>repeat (first|(with_reducible first|exact HB.out|apply bA|apply pD|apply bD|refine below_set ?_ (IsS81.ge HI0.out))|exact HB.out));rintro e w12 ⟨rfl,hi,hb,hk⟩;have n0_:=aM (KeepBut.trans (by repeat (first|(with_reducible first|exact HK.out|apply KeepBut.set_|apply keep_drewN|apply keep_drew|apply keep_alloc)|exact HK.out)) hk (.inl rfl));have n1_:=aM (hb);have n2_:=aM (hi);clear HK;clear HB;clear HI0;have HK:=n0_;have HB:=n1_;have HI0:=n2_;clear n0_ n1_ n2_;(try clear hb);(try clear hb2);(try clear hk);(try clear hi)))
      go_ret;exact⟨by first|rfl|(simp[errW_none,errW_some]<;>rfl)|(simp[*,errW_none,errW_some]<;>rfl),by repeat (first|(with_reducible first|exact HI0.out|apply IsS81.alloc|apply IsS81.drewN|apply IsS81.drew|apply IsS81.set_0|apply IsS81.set_1|apply IsS81.set_2|apply IsS81.set_3)|exact HI0.out),by repeat (first|(with_reducible first|exact HB.out|apply bA|apply pD|apply bD|refine below_set ?_ (IsS81.ge HI0.out))|exact HB.out),by repeat (first|(with_reducible first|exact HK.out|apply KeepBut.set_|apply keep_drewN|apply keep_drew|apply keep_alloc)|exact HK.out)⟩
     ·rw[if_neg c9] at H
      have c9b0:(t117==a1)=false:=beq_eq_false_iff_ne.mpr c9;have c9b1:(t117 != a1)=true:=bne_iff_ne.mpr c9;simp only[Option.some.injEq,Prod.mk.injEq] at H;obtain⟨rfl,rfl,rfl,rfl,rfl⟩:=H
      go_wp2_with (first|((with_reducible refine gate_callee (f:=31) rfl ?_);refine goesL_ (some 9) rfl rfl Tryz.func31 (by kernel_rfl) rfl #[.pointer (some ⟨g,0,none⟩),.int .i64 (wrap64 (1+x5_1))] rfl (by(try simp only[List.map_toArray,List.map_cons,List.map_nil]);first|done|rfl|(simp only[List.length_drop,List.length_take];rfl)) ?_;(with_reducible refine(spec_lxState_byteAt.calls g x1000_1 x1001_1 x1002_1 x1003_1 (wrap64 (1+x5_1)) t107 t108 t109 t110 t111 w0 _ ?side1 ?side2 A3.out).mono ?_);(case side1=>repeat (first|(with_reducible first|exact HI0.out|apply IsS81.alloc|apply IsS81.drewN|apply IsS81.drew|apply IsS81.set_0|apply IsS81.set_1|apply IsS81.set_2|apply IsS81.set_3)|exact HI0.out));(case side2=>repeat (first|(with_reducible first|exact HB.out|apply bA|apply pD|apply bD|refine below_set ?_ (IsS81.ge HI0.out))|exact HB.out));rintro e w13 ⟨rfl,hi,hb,hk⟩;refine⟨_,rfl,?_⟩;have n0_:=aM (KeepBut.trans (by repeat (first|(with_reducible first|exact HK.out|apply KeepBut.set_|apply keep_drewN|apply keep_drew|apply keep_alloc)|exact HK.out)) hk (.inl rfl));have n1_:=aM (hb);have n2_:=aM (hi);clear HK;clear HB;clear HI0;have HK:=n0_;have HB:=n1_;have HI0:=n2_;clear n0_ n1_ n2_;(try clear hb);(try clear hb2);(try clear hk);(try clear hi))|((with_reducible refine gate_callee (f:=31) rfl ?_);refine goesL_ (some 14) rfl rfl Tryz.func31 (by kernel_rfl) rfl #[.pointer (some ⟨g,0,none⟩),.int .i64 0] rfl (by(try simp only[List.map_toArray,List.map_cons,List.map_nil]);first|done|rfl|(simp only[List.length_drop,List.length_take];rfl)) ?_;(with_reducible refine(spec_lxState_byteAt.calls g t108 t109 t110 t111 0 t112 t113 t114 t115 t116 w0 _ ?side1 ?side2 A6.out).mono ?_);(case side1=>repeat (first|(with_reducible first|exact HI0.out|apply IsS81.alloc|apply IsS81.drewN|apply IsS81.drew|apply IsS81.set_0|apply IsS81.set_1|apply IsS81.set_2|apply IsS81.set_3)|exact HI0.out));(case side2=>repeat (first|(with_reducible first|exact HB.out|apply bA|apply pD|apply bD|refine below_set ?_ (IsS81.ge HI0.out))|exact HB.out));rintro e w14 ⟨rfl,hi,hb,hk⟩;refine⟨_,rfl,?_⟩;have n0_:=aM (KeepBut.trans (by repeat (first|(with_reducible first|exact HK.out|apply KeepBut.set_|apply keep_drewN|apply keep_drew|apply keep_alloc)|exact HK.out)) hk (.inl rfl));have n1_:=aM (hb);have n2_:=aM (hi);clear HK;clear HB;clear HI0;have HK:=n0_;have HB:=n1_;have HI0:=n2_;clear n0_ n1_ n2_;(try clear hb);(try clear hb2);(try clear hk);(try clear hi))|(go_at_call 31;(with_reducible refine(spec_lxState_byteAt.calls g t113 t114 t115 t116 (wrap64 (1+x5_1)) t117 t118 t119 t120 t121 w0 _ ?side1 ?side2 A8.out).mono ?_);(case side1=>repeat (first|(with_reducible first|exact HI0.out|apply IsS81.alloc|apply IsS81.drewN|apply IsS81.drew|apply IsS81.set_0|apply IsS81.set_1|apply IsS81.set_2|apply IsS81.set_3)|exact HI0.out));(case side2=>repeat (first|(with_reducible first|exact HB.out|apply bA|apply pD|apply bD|refine below_set ?_ (IsS81.ge HI0.out))|exact HB.out));rintro e w15 ⟨rfl,hi,hb,hk⟩;have n0_:=aM (KeepBut.trans (by repeat (first|(with_reducible first|exact HK.out|apply KeepBut.set_|apply keep_drewN|apply keep_drew|apply keep_alloc)|exact HK.out)) hk (.inl rfl));have n1_:=aM (hb);have n2_:=aM (hi);clear HK;clear HB;clear HI0;have HK:=n0_;have HB:=n1_;have HI0:=n2_;clear n0_ n1_ n2_;(try clear hb);(try clear hb2);(try clear hk);(try clear hi)))
      go_ret;exact⟨by first|rfl|(simp[errW_none,errW_some]<;>rfl)|(simp[*,errW_none,errW_some]<;>rfl),by repeat (first|(with_reducible first|exact HI0.out|apply IsS81.alloc|apply IsS81.drewN|apply IsS81.drew|apply IsS81.set_0|apply IsS81.set_1|apply IsS81.set_2|apply IsS81.set_3)|exact HI0.out),by repeat (first|(with_reducible first|exact HB.out|apply bA|apply pD|apply bD|refine below_set ?_ (IsS81.ge HI0.out))|exact HB.out),by repeat (first|(with_reducible first|exact HK.out|apply KeepBut.set_|apply keep_drewN|apply keep_drew|apply keep_alloc)|exact HK.out)⟩
    ·rw[if_neg c7] at H
     have c7b0:(t112==a1)=false:=beq_eq_false_iff_ne.mpr c7;have c7b1:(t112 != a1)=true:=bne_iff_ne.mpr c7;simp only[Option.some.injEq,Prod.mk.injEq] at H;obtain⟨rfl,rfl,rfl,rfl,rfl⟩:=H;go_wp2_with (first|((with_reducible refine gate_callee (f:=31) rfl ?_);refine goesL_ (some 9) rfl rfl Tryz.func31 (by kernel_rfl) rfl #[.pointer (some ⟨g,0,none⟩),.int .i64 (wrap64 (1+x5_1))] rfl (by(try simp only[List.map_toArray,List.map_cons,List.map_nil]);first|done|rfl|(simp only[List.length_drop,List.length_take];rfl)) ?_;(with_reducible refine(spec_lxState_byteAt.calls g x1000_1 x1001_1 x1002_1 x1003_1 (wrap64 (1+x5_1)) t107 t108 t109 t110 t111 w0 _ ?side1 ?side2 A3.out).mono ?_);(case side1=>repeat (first|(with_reducible first|exact HI0.out|apply IsS81.alloc|apply IsS81.drewN|apply IsS81.drew|apply IsS81.set_0|apply IsS81.set_1|apply IsS81.set_2|apply IsS81.set_3)|exact HI0.out));(case side2=>repeat (first|(with_reducible first|exact HB.out|apply bA|apply pD|apply bD|refine below_set ?_ (IsS81.ge HI0.out))|exact HB.out));rintro e w16 ⟨rfl,hi,hb,hk⟩;refine⟨_,rfl,?_⟩;have n0_:=aM (KeepBut.trans (by repeat (first|(with_reducible first|exact HK.out|apply KeepBut.set_|apply keep_drewN|apply keep_drew|apply keep_alloc)|exact HK.out)) hk (.inl rfl));have n1_:=aM (hb);have n2_:=aM (hi);clear HK;clear HB;clear HI0;have HK:=n0_;have HB:=n1_;have HI0:=n2_;clear n0_ n1_ n2_;(try clear hb);(try clear hb2);(try clear hk);(try clear hi))|((with_reducible refine gate_callee (f:=31) rfl ?_);refine goesL_ (some 14) rfl rfl Tryz.func31 (by kernel_rfl) rfl #[.pointer (some ⟨g,0,none⟩),.int .i64 0] rfl (by(try simp only[List.map_toArray,List.map_cons,List.map_nil]);first|done|rfl|(simp only[List.length_drop,List.length_take];rfl)) ?_;(with_reducible refine(spec_lxState_byteAt.calls g t108 t109 t110 t111 0 t112 t113 t114 t115 t116 w0 _ ?side1 ?side2 A6.out).mono ?_);(case side1=>repeat (first|(with_reducible first|exact HI0.out|apply IsS81.alloc|apply IsS81.drewN|apply IsS81.drew|apply IsS81.set_0|apply IsS81.set_1|apply IsS81.set_2|apply IsS81.set_3)|exact HI0.out));(case side2=>repeat (first|(with_reducible first|exact HB.out|apply bA|apply pD|apply bD|refine below_set ?_ (IsS81.ge HI0.out))|exact HB.out));rintro e w17 ⟨rfl,hi,hb,hk⟩;refine⟨_,rfl,?_⟩;have n0_:=aM (KeepBut.trans (by repeat (first|(with_reducible first|exact HK.out|apply KeepBut.set_|apply keep_drewN|apply keep_drew|apply keep_alloc)|exact HK.out)) hk (.inl rfl));have n1_:=aM (hb);have n2_:=aM (hi);clear HK;clear HB;clear HI0;have HK:=n0_;have HB:=n1_;have HI0:=n2_;clear n0_ n1_ n2_;(try clear hb);(try clear hb2);(try clear hk);(try clear hi)))
     go_ret;exact⟨by first|rfl|(simp[errW_none,errW_some]<;>rfl)|(simp[*,errW_none,errW_some]<;>rfl),by repeat (first|(with_reducible first|exact HI0.out|apply IsS81.alloc|apply IsS81.drewN|apply IsS81.drew|apply IsS81.set_0|apply IsS81.set_1|apply IsS81.set_2|apply IsS81.set_3)|exact HI0.out),by repeat (first|(with_reducible first|exact HB.out|apply bA|apply pD|apply bD|refine below_set ?_ (IsS81.ge HI0.out))|exact HB.out),by repeat (first|(with_reducible first|exact HK.out|apply KeepBut.set_|apply keep_drewN|apply keep_drew|apply keep_alloc)|exact HK.out)⟩
def spec_lxIsLetter.f(a0:Int):Option (Bool):=if a0>=97 then(if a0<=122 then(some true) else(if a0>=65 then(if a0<=90 then(some true) else(some (a0==95))) else(some (a0==95)))) else(if a0>=65 then(if a0<=90 then(some true) else(some (a0==95))) else(some (a0==95)))
set_option maxHeartbeats 8000000 in
set_option maxRecDepth 100000 in
theorem spec_lxIsLetter.calls(a0:Int)(r:Bool)(w:World)(h:spec_lxIsLetter.f a0=some r):
  Calls Tryz.prog 73 #[.int .u8 a0] w fun e w'=>e = .returned (.bool r)/\Drawn0 w w':=by
 have H:(if a0>=97 then(if a0<=122 then(some true) else(if a0>=65 then(if a0<=90 then(some true) else(some (a0==95))) else(some (a0==95)))) else(if a0>=65 then(if a0<=90 then(some true) else(some (a0==95))) else(some (a0==95))))=some r:=h;clear h
 by_cases c2:a0>=97
 ·rw[if_pos c2] at H
  have c2b0:decide (97<=a0)=true:=decide_eq_true c2;clear c2
  by_cases c3:a0<=122
  ·rw[if_pos c3] at H
   have c3b0:decide (a0<=122)=true:=decide_eq_true c3;clear c3;obtain rfl:=Option.some.inj H;go_enter Tryz.func73,Tryz.ntmps73
   go_wp2
   go_ret;exact⟨by first|rfl|(simp;done)|(simp[*];done),by repeat (first|exact Drawn0.refl _|apply Drawn0.step)⟩
  ·rw[if_neg c3] at H
   have c3b0:decide (a0<=122)=false:=decide_eq_false c3;clear c3
   by_cases c4:a0>=65
   ·rw[if_pos c4] at H
    have c4b0:decide (65<=a0)=true:=decide_eq_true c4;clear c4
    by_cases c5:a0<=90
    ·rw[if_pos c5] at H
     have c5b0:decide (a0<=90)=true:=decide_eq_true c5;clear c5;obtain rfl:=Option.some.inj H;go_enter Tryz.func73,Tryz.ntmps73
     go_wp2
     go_ret;exact⟨by first|rfl|(simp;done)|(simp[*];done),by repeat (first|exact Drawn0.refl _|apply Drawn0.step)⟩
    ·rw[if_neg c5] at H
     have c5b0:decide (a0<=90)=false:=decide_eq_false c5;clear c5;obtain rfl:=Option.some.inj H;go_enter Tryz.func73,Tryz.ntmps73
     go_wp2
     go_ret;exact⟨by first|rfl|(simp;done)|(simp[*];done),by repeat (first|exact Drawn0.refl _|apply Drawn0.step)⟩
   ·rw[if_neg c4] at H
    have c4b0:decide (65<=a0)=false:=decide_eq_false c4;clear c4;obtain rfl:=Option.some.inj H;go_enter Tryz.func73,Tryz.ntmps73
    go_wp2
    go_ret;exact⟨by first|rfl|(simp;done)|(simp[*];done),by repeat (first|exact Drawn0.refl _|apply Drawn0.step)⟩
 ·rw[if_neg c2] at H
  have c2b0:decide (97<=a0)=false:=decide_eq_false c2;clear c2
  by_cases c6:a0>=65
  ·rw[if_pos c6] at H
   have c6b0:decide (65<=a0)=true:=decide_eq_true c6;clear c6
   by_cases c7:a0<=90
   ·rw[if_pos c7] at H
    have c7b0:decide (a0<=90)=true:=decide_eq_true c7;clear c7;obtain rfl:=Option.some.inj H;go_enter Tryz.func73,Tryz.ntmps73
    go_wp2
    go_ret;exact⟨by first|rfl|(simp;done)|(simp[*];done),by repeat (first|exact Drawn0.refl _|apply Drawn0.step)⟩
   ·rw[if_neg c7] at H
    have c7b0:decide (a0<=90)=false:=decide_eq_false c7;clear c7;obtain rfl:=Option.some.inj H;go_enter Tryz.func73,Tryz.ntmps73
    go_wp2
    go_ret;exact⟨by first|rfl|(simp;done)|(simp[*];done),by repeat (first|exact Drawn0.refl _|apply Drawn0.step)⟩
  ·rw[if_neg c6] at H
   have c6b0:decide (65<=a0)=false:=decide_eq_false c6;clear c6;obtain rfl:=Option.some.inj H;go_enter Tryz.func73,Tryz.ntmps73
   go_wp2
   go_ret;exact⟨by first|rfl|(simp;done)|(simp[*];done),by repeat (first|exact Drawn0.refl _|apply Drawn0.step)⟩
def spec_lxIsDigit.f(a0:Int):Option (Bool):=if a0>=48 then(some (decide (a0<=57))) else(some false)
set_option maxHeartbeats 8000000 in
set_option maxRecDepth 100000 in
theorem spec_lxIsDigit.calls(a0:Int)(r:Bool)(w:World)(h:spec_lxIsDigit.f a0=some r):
  Calls Tryz.prog 75 #[.int .u8 a0] w fun e w'=>e = .returned (.bool r)/\Drawn0 w w':=by
 have H:(if a0>=48 then(some (decide (a0<=57))) else(some false))=some r:=h;clear h
 by_cases c2:a0>=48
 ·rw[if_pos c2] at H
  have c2b0:decide (48<=a0)=true:=decide_eq_true c2;clear c2;obtain rfl:=Option.some.inj H;go_enter Tryz.func75,Tryz.ntmps75
  go_wp2
  go_ret;exact⟨by first|rfl|(simp;done)|(simp[*];done),by repeat (first|exact Drawn0.refl _|apply Drawn0.step)⟩
 ·rw[if_neg c2] at H
  have c2b0:decide (48<=a0)=false:=decide_eq_false c2;clear c2;obtain rfl:=Option.some.inj H;go_enter Tryz.func75,Tryz.ntmps75
  go_wp2
  go_ret;exact⟨by first|rfl|(simp;done)|(simp[*];done),by repeat (first|exact Drawn0.refl _|apply Drawn0.step)⟩
def spec_lxWords.f:Option (List ByteArray):=some (([(⟨#[97,110,100]⟩:ByteArray),(⟨#[98,114,101,97,107]⟩:ByteArray),(⟨#[100,111]⟩:ByteArray),(⟨#[101,108,115,101]⟩:ByteArray),(⟨#[101,108,115,101,105,102]⟩:ByteArray),(⟨#[101,110,100]⟩:ByteArray),(⟨#[102,97,108,115,101]⟩:ByteArray),(⟨#[102,111,114]⟩:ByteArray),(⟨#[102,117,110,99,116,105,111,110]⟩:ByteArray),(⟨#[105,102]⟩:ByteArray),(⟨#[105,110]⟩:ByteArray),(⟨#[108,111,99,97,108]⟩:ByteArray),(⟨#[110,105,108]⟩:ByteArray),(⟨#[110,111,116]⟩:ByteArray),(⟨#[111,114]⟩:ByteArray),(⟨#[114,101,112,101,97,116]⟩:ByteArray),(⟨#[114,101,116,117,114,110]⟩:ByteArray),(⟨#[116,104,101,110]⟩:ByteArray),(⟨#[116,114,117,101]⟩:ByteArray),(⟨#[117,110,116,105,108]⟩:ByteArray),(⟨#[119,104,105,108,101]⟩:ByteArray)]:List ByteArray))
set_option maxHeartbeats 8000000 in
set_option maxRecDepth 100000 in
theorem spec_lxWords.calls(r:List ByteArray)(w:World)(h:spec_lxWords.f=some r):
  Calls Tryz.prog 130 #[] w fun e w'=>∃v0_:Value,e = .returned (v0_)/\Kd.R Kd.string 9 w' w.heap.size (fun _=>True) v0_ r/\Below w.heap.size w w':=by
 have HB:=aM (bR w.heap.size w);have H:(some (([(⟨#[97,110,100]⟩:ByteArray),(⟨#[98,114,101,97,107]⟩:ByteArray),(⟨#[100,111]⟩:ByteArray),(⟨#[101,108,115,101]⟩:ByteArray),(⟨#[101,108,115,101,105,102]⟩:ByteArray),(⟨#[101,110,100]⟩:ByteArray),(⟨#[102,97,108,115,101]⟩:ByteArray),(⟨#[102,111,114]⟩:ByteArray),(⟨#[102,117,110,99,116,105,111,110]⟩:ByteArray),(⟨#[105,102]⟩:ByteArray),(⟨#[105,110]⟩:ByteArray),(⟨#[108,111,99,97,108]⟩:ByteArray),(⟨#[110,105,108]⟩:ByteArray),(⟨#[110,111,116]⟩:ByteArray),(⟨#[111,114]⟩:ByteArray),(⟨#[114,101,112,101,97,116]⟩:ByteArray),(⟨#[114,101,116,117,114,110]⟩:ByteArray),(⟨#[116,104,101,110]⟩:ByteArray),(⟨#[116,114,117,101]⟩:ByteArray),(⟨#[117,110,116,105,108]⟩:ByteArray),(⟨#[119,104,105,108,101]⟩:ByteArray)]:List ByteArray)))=some r:=h;clear h;obtain⟨y122,hy122⟩:∃y_:List ByteArray,y_=(([(⟨#[97,110,100]⟩:ByteArray),(⟨#[98,114,101,97,107]⟩:ByteArray),(⟨#[100,111]⟩:ByteArray),(⟨#[101,108,115,101]⟩:ByteArray),(⟨#[101,108,115,101,105,102]⟩:ByteArray),(⟨#[101,110,100]⟩:ByteArray),(⟨#[102,97,108,115,101]⟩:ByteArray),(⟨#[102,111,114]⟩:ByteArray),(⟨#[102,117,110,99,116,105,111,110]⟩:ByteArray),(⟨#[105,102]⟩:ByteArray),(⟨#[105,110]⟩:ByteArray),(⟨#[108,111,99,97,108]⟩:ByteArray),(⟨#[110,105,108]⟩:ByteArray),(⟨#[110,111,116]⟩:ByteArray),(⟨#[111,114]⟩:ByteArray),(⟨#[114,101,112,101,97,116]⟩:ByteArray),(⟨#[114,101,116,117,114,110]⟩:ByteArray),(⟨#[116,104,101,110]⟩:ByteArray),(⟨#[116,114,117,101]⟩:ByteArray),(⟨#[117,110,116,105,108]⟩:ByteArray),(⟨#[119,104,105,108,101]⟩:ByteArray)]:List ByteArray)):=⟨_,rfl⟩;replace H:(some y122)=some r:=by first|(rw[hy122];with_reducible exact H)|(have H2_:=(Option.bind_some _ _).symm.trans H;rw[hy122];with_reducible exact H2_)|(have H2_:=(Option.bind_some _ _).symm.trans H;with_reducible exact H2_)|with_reducible exact H|(rw[hy122];exact H)|exact H
 have Ny122:=aM hy122;clear hy122;obtain rfl:=Option.some.inj H;go_enter Tryz.func130,Tryz.ntmps130
 go_wp2_with (first|((with_reducible refine gate_dst (N:=1) rfl ?_);refine Kd.R_lit Kd.string _ 9 ?hg (N:=1) ?hd (xs:=([(⟨#[97,110,100]⟩:ByteArray),(⟨#[98,114,101,97,107]⟩:ByteArray),(⟨#[100,111]⟩:ByteArray),(⟨#[101,108,115,101]⟩:ByteArray),(⟨#[101,108,115,101,105,102]⟩:ByteArray),(⟨#[101,110,100]⟩:ByteArray),(⟨#[102,97,108,115,101]⟩:ByteArray),(⟨#[102,111,114]⟩:ByteArray),(⟨#[102,117,110,99,116,105,111,110]⟩:ByteArray),(⟨#[105,102]⟩:ByteArray),(⟨#[105,110]⟩:ByteArray),(⟨#[108,111,99,97,108]⟩:ByteArray),(⟨#[110,105,108]⟩:ByteArray),(⟨#[110,111,116]⟩:ByteArray),(⟨#[111,114]⟩:ByteArray),(⟨#[114,101,112,101,97,116]⟩:ByteArray),(⟨#[114,101,116,117,114,110]⟩:ByteArray),(⟨#[116,104,101,110]⟩:ByteArray),(⟨#[116,114,117,101]⟩:ByteArray),(⟨#[117,110,116,105,108]⟩:ByteArray),(⟨#[119,104,105,108,101]⟩:ByteArray)]:List ByteArray)) (inner:=[.string (⟨#[97,110,100]⟩:ByteArray),.string (⟨#[98,114,101,97,107]⟩:ByteArray),.string (⟨#[100,111]⟩:ByteArray),.string (⟨#[101,108,115,101]⟩:ByteArray),.string (⟨#[101,108,115,101,105,102]⟩:ByteArray),.string (⟨#[101,110,100]⟩:ByteArray),.string (⟨#[102,97,108,115,101]⟩:ByteArray),.string (⟨#[102,111,114]⟩:ByteArray),.string (⟨#[102,117,110,99,116,105,111,110]⟩:ByteArray),.string (⟨#[105,102]⟩:ByteArray),.string (⟨#[105,110]⟩:ByteArray),.string (⟨#[108,111,99,97,108]⟩:ByteArray),.string (⟨#[110,105,108]⟩:ByteArray),.string (⟨#[110,111,116]⟩:ByteArray),.string (⟨#[111,114]⟩:ByteArray),.string (⟨#[114,101,112,101,97,116]⟩:ByteArray),.string (⟨#[114,101,116,117,114,110]⟩:ByteArray),.string (⟨#[116,104,101,110]⟩:ByteArray),.string (⟨#[116,114,117,101]⟩:ByteArray),.string (⟨#[117,110,116,105,108]⟩:ByteArray),.string (⟨#[119,104,105,108,101]⟩:ByteArray)]) (ok:=fun _=>True) (okp:=fun _=>True) ?hr ?hp (fun _ hk=>hk) trivial (bR _ _) (Nat.le_refl _) (by simp) ?_;(case hd=>rfl);(case hg=>rfl);(case hr=>first|(go_simp;done)|(go_simp;rfl));(case hp=>exact(Reps.one (show Kd.M Kd.string _ _ _ (⟨#[97,110,100]⟩:ByteArray) [.string (⟨#[97,110,100]⟩:ByteArray)] from rfl) (Reps.one (show Kd.M Kd.string _ _ _ (⟨#[98,114,101,97,107]⟩:ByteArray) [.string (⟨#[98,114,101,97,107]⟩:ByteArray)] from rfl) (Reps.one (show Kd.M Kd.string _ _ _ (⟨#[100,111]⟩:ByteArray) [.string (⟨#[100,111]⟩:ByteArray)] from rfl) (Reps.one (show Kd.M Kd.string _ _ _ (⟨#[101,108,115,101]⟩:ByteArray) [.string (⟨#[101,108,115,101]⟩:ByteArray)] from rfl) (Reps.one (show Kd.M Kd.string _ _ _ (⟨#[101,108,115,101,105,102]⟩:ByteArray) [.string (⟨#[101,108,115,101,105,102]⟩:ByteArray)] from rfl) (Reps.one (show Kd.M Kd.string _ _ _ (⟨#[101,110,100]⟩:ByteArray) [.string (⟨#[101,110,100]⟩:ByteArray)] from rfl) (Reps.one (show Kd.M Kd.string _ _ _ (⟨#[102,97,108,115,101]⟩:ByteArray) [.string (⟨#[102,97,108,115,101]⟩:ByteArray)] from rfl) (Reps.one (show Kd.M Kd.string _ _ _ (⟨#[102,111,114]⟩:ByteArray) [.string (⟨#[102,111,114]⟩:ByteArray)] from rfl) (Reps.one (show Kd.M Kd.string _ _ _ (⟨#[102,117,110,99,116,105,111,110]⟩:ByteArray) [.string (⟨#[102,117,110,99,116,105,111,110]⟩:ByteArray)] from rfl) (Reps.one (show Kd.M Kd.string _ _ _ (⟨#[105,102]⟩:ByteArray) [.string (⟨#[105,102]⟩:ByteArray)] from rfl) (Reps.one (show Kd.M Kd.string _ _ _ (⟨#[105,110]⟩:ByteArray) [.string (⟨#[105,110]⟩:ByteArray)] from rfl) (Reps.one (show Kd.M Kd.string _ _ _ (⟨#[108,111,99,97,108]⟩:ByteArray) [.string (⟨#[108,111,99,97,108]⟩:ByteArray)] from rfl) (Reps.one (show Kd.M Kd.string _ _ _ (⟨#[110,105,108]⟩:ByteArray) [.string (⟨#[110,105,108]⟩:ByteArray)] from rfl) (Reps.one (show Kd.M Kd.string _ _ _ (⟨#[110,111,116]⟩:ByteArray) [.string (⟨#[110,111,116]⟩:ByteArray)] from rfl) (Reps.one (show Kd.M Kd.string _ _ _ (⟨#[111,114]⟩:ByteArray) [.string (⟨#[111,114]⟩:ByteArray)] from rfl) (Reps.one (show Kd.M Kd.string _ _ _ (⟨#[114,101,112,101,97,116]⟩:ByteArray) [.string (⟨#[114,101,112,101,97,116]⟩:ByteArray)] from rfl) (Reps.one (show Kd.M Kd.string _ _ _ (⟨#[114,101,116,117,114,110]⟩:ByteArray) [.string (⟨#[114,101,116,117,114,110]⟩:ByteArray)] from rfl) (Reps.one (show Kd.M Kd.string _ _ _ (⟨#[116,104,101,110]⟩:ByteArray) [.string (⟨#[116,104,101,110]⟩:ByteArray)] from rfl) (Reps.one (show Kd.M Kd.string _ _ _ (⟨#[116,114,117,101]⟩:ByteArray) [.string (⟨#[116,114,117,101]⟩:ByteArray)] from rfl) (Reps.one (show Kd.M Kd.string _ _ _ (⟨#[117,110,116,105,108]⟩:ByteArray) [.string (⟨#[117,110,116,105,108]⟩:ByteArray)] from rfl) (Reps.one (show Kd.M Kd.string _ _ _ (⟨#[119,104,105,108,101]⟩:ByteArray) [.string (⟨#[119,104,105,108,101]⟩:ByteArray)] from rfl) (Reps.none _ _)))))))))))))))))))))));intro v123 w1 ho2 hb hg_ hnew_;clear hg_ hnew_;(first|rw[<-Ny122.out] at ho2|(simp only[Int.reduceToNat] at ho2;rw[<-Ny122.out] at ho2));have n0_:=aM (Kd.R_lower ho2 (below_size (by repeat (first|(with_reducible first|exact HB.out|apply bA|apply pD|apply bD)|exact HB.out))));have n1_:=aM (below_step (by repeat (first|(with_reducible first|exact HB.out|apply bA|apply pD|apply bD)|exact HB.out)) hb);clear HB;have HO124:=n0_;have HB:=n1_;clear n0_ n1_;clear hb ho2))
 go_ret;exact⟨_,by first|rfl|(simp[errW_none,errW_some]<;>rfl)|(simp[*,errW_none,errW_some]<;>rfl),by(with_reducible repeat (first|apply Kd.R_alloc|apply Kd.R_drewN|apply Kd.R_drew));exact HO124.out,by repeat (first|(with_reducible first|exact HB.out|apply bA|apply pD|apply bD)|exact HB.out)⟩
def spec_lxIsWord.l0:Nat->ByteArray->List ByteArray->Int->Int->Option (Bool)
 |0,_,_,_,_=>none
 |k+1,x0,x5,x6,x7=>if x7<x6 then(if 0<=x7 then(if x7<(x5.length:Int) then(if(rdOf ByteArray.empty x5 x7).toList=x0.toList then(some true) else(spec_lxIsWord.l0 k x0 x5 x6 (wrap64 (x7+1)))) else(none)) else(none)) else(some false)
def spec_lxIsWord.f(k:Nat)(a0:ByteArray):Option (Bool):=(spec_lxWords.f).bind fun t125=>(spec_lxIsWord.l0 k a0 t125 (t125.length:Int) 0)
set_option maxHeartbeats 8000000 in
set_option maxRecDepth 100000 in
theorem spec_lxIsWord.calls(k:Nat)(a0:ByteArray)(r:Bool)(w:World)(h:spec_lxIsWord.f k a0=some r):
  Calls Tryz.prog 105 #[.string a0] w fun e w'=>e = .returned (.bool r)/\Below w.heap.size w w':=by
 have HB:=aM (bR w.heap.size w);have H:((spec_lxWords.f).bind fun t125=>(spec_lxIsWord.l0 k a0 t125 (t125.length:Int) 0))=some r:=h;clear h;replace H:=Option.bind_eq_some_iff.mp H;obtain⟨t125,A20,H⟩:=H;replace H:(spec_lxIsWord.l0 k a0 t125 (t125.length:Int) 0)=some r:=H;have A2:=aM A20;clear A20;have H':=aM H;clear H;go_enter Tryz.func105,Tryz.ntmps105
 go_wp2_with (first|((with_reducible refine gate_callee (f:=130) rfl ?_);refine goesL_ (some 5) rfl rfl Tryz.func130 (by kernel_rfl) rfl #[] rfl (by(try simp only[List.map_toArray,List.map_cons,List.map_nil]);first|done|rfl|(simp only[List.length_drop,List.length_take];rfl)) ?_;(with_reducible refine(spec_lxWords.calls t125 _ A2.out).mono ?_);rintro e w3 ⟨v126,rfl,ho0,hb⟩;refine⟨_,rfl,?_⟩;have n0_:=aM (Kd.R_lower ho0 (below_size (by repeat (first|(with_reducible first|exact HB.out|apply bA|apply pD|apply bD)|exact HB.out))));have n1_:=aM (below_step (by repeat (first|(with_reducible first|exact HB.out|apply bA|apply pD|apply bD)|exact HB.out)) hb);clear HB;have HO127:=n0_;have HB:=n1_;clear n0_ n1_;(try clear hb);(try clear hb2);(try clear hk);(try clear hi);(try clear ho0);obtain⟨Ao4,co4,eo4⟩:=Kd.R_slice HO127.out;subst eo4))
 go_loopg [7] k (fun kq v7 w'=>∃(x7_1:Int),v7 = .int .i64 x7_1/\Aside0 (spec_lxIsWord.l0 kq a0 t125 (t125.length:Int) x7_1=some r)/\Aside0 (kq<=k)/\Aside0 (Kd.R Kd.string 9 w' w.heap.size (fun _=>True) (.slice Ao4 t125.length co4) t125)/\Aside0 (Below w.heap.size w w'))
 case atStart=>exact⟨(0),(by first|rfl|(simp;done)|(simp[*];done)),H',⟨Nat.le_refl _⟩,⟨by(with_reducible repeat (first|apply Kd.R_alloc|apply Kd.R_drewN|apply Kd.R_drew));exact HO127.out⟩,⟨by repeat (first|(with_reducible first|exact HB.out|apply bA|apply pD|apply bD)|exact HB.out)⟩⟩
 case round=>
  clear H'
  try clear c1
  try clear p2
  obtain⟨x7_1,rfl,HA,HK1,HO_5,HB⟩:=hrel
  cases gk with
  |zero=>exact absurd HA.out (by simp[spec_lxIsWord.l0])
  |succ k1=>
   have H:=HA.out;clear HA;simp only[spec_lxIsWord.l0] at H
   by_cases c5:x7_1<(t125.length:Int)
   ·rw[if_pos c5] at H
    have c5b0:decide (x7_1<(t125.length:Int))=true:=decide_eq_true c5;clear c5
    by_cases c6:0<=x7_1
    ·rw[if_pos c6] at H
     have c6b0:decide (0<=x7_1)=true:=decide_eq_true c6;clear c6
     by_cases c7:x7_1<(t125.length:Int)
     ·rw[if_pos c7] at H
      have c7b0:decide (x7_1<(t125.length:Int))=true:=decide_eq_true c7;clear c7
      by_cases c8:(rdOf ByteArray.empty t125 x7_1).toList=a0.toList
      ·rw[if_pos c8] at H
       have c8b0:((rdOf ByteArray.empty t125 x7_1).toList==a0.toList)=true:=beq_iff_eq.mpr c8;have c8b1:((rdOf ByteArray.empty t125 x7_1).toList != a0.toList)=false:=bne_eq_false_iff_eq.mpr c8;clear c8;obtain rfl:=Option.some.inj H;have p128:0<=(x7_1:Int):=of_decide_eq_true (by first|(with_reducible assumption)|assumption);have q128:x7_1<(t125.length:Int):=of_decide_eq_true (by first|(with_reducible assumption)|assumption);obtain⟨ad128,e128,hx128_0⟩:=Kd.at_string (Kd.R_reads' HO_5.out).2.2 x7_1 p128 q128
       cases e128
       replace p128:=eq_true p128;replace q128:=eq_true q128
       go_wp2
       go_ret;exact⟨by first|rfl|(simp[errW_none,errW_some]<;>rfl)|(simp[*,errW_none,errW_some]<;>rfl),by repeat (first|(with_reducible first|exact HB.out|apply bA|apply pD|apply bD)|exact HB.out)⟩
      ·rw[if_neg c8] at H
       have c8b0:((rdOf ByteArray.empty t125 x7_1).toList==a0.toList)=false:=beq_eq_false_iff_ne.mpr c8;have c8b1:((rdOf ByteArray.empty t125 x7_1).toList != a0.toList)=true:=bne_iff_ne.mpr c8;have H':=aM H;clear H;have p128:0<=(x7_1:Int):=of_decide_eq_true (by first|(with_reducible assumption)|assumption);have q128:x7_1<(t125.length:Int):=of_decide_eq_true (by first|(with_reducible assumption)|assumption);obtain⟨ad128,e128,hx128_0⟩:=Kd.at_string (Kd.R_reads' HO_5.out).2.2 x7_1 p128 q128
       cases e128
       replace p128:=eq_true p128;replace q128:=eq_true q128
       go_wp2
       go_roundg k1
       case measure=>have:=HK1.out;omega
       case rel=>exact⟨(wrap64 (x7_1+1)),(by first|rfl|(simp;done)|(simp[*];done)),H',⟨by have:=HK1.out;omega⟩,⟨by(with_reducible repeat (first|apply Kd.R_alloc|apply Kd.R_drewN|apply Kd.R_drew));exact HO_5.out⟩,⟨by repeat (first|(with_reducible first|exact HB.out|apply bA|apply pD|apply bD)|exact HB.out)⟩⟩
     ·rw[if_neg c7] at H
      exact absurd H (by simp)
    ·rw[if_neg c6] at H
     exact absurd H (by simp)
   ·rw[if_neg c5] at H
    have c5b0:decide (x7_1<(t125.length:Int))=false:=decide_eq_false c5;clear c5;obtain rfl:=Option.some.inj H
    go_wp2
    go_ret;exact⟨by first|rfl|(simp[errW_none,errW_some]<;>rfl)|(simp[*,errW_none,errW_some]<;>rfl),by repeat (first|(with_reducible first|exact HB.out|apply bA|apply pD|apply bD)|exact HB.out)⟩
mutual
def spec_lxHex.j0:Nat->Int->Bool->Option (Int)
 |0,_,_=>none
 |k+1,x0,x3=>if x3=true then(some ((x0-48)%256)) else(if x0>=97 then(spec_lxHex.j1 k x0 (decide (x0<=102))) else(spec_lxHex.j1 k x0 false))
def spec_lxHex.j1:Nat->Int->Bool->Option (Int)
 |0,_,_=>none
 |k+1,x0,x13=>if x13=true then(some (((x0-97)%256)+10)) else(if x0>=65 then(if x0<=70 then(some (((x0-65)%256)+10)) else(some (-1))) else(some (-1)))
end
def spec_lxHex.f(k:Nat)(a0:Int):Option (Int):=if a0>=48 then(spec_lxHex.j0 k a0 (decide (a0<=57))) else(spec_lxHex.j0 k a0 false)
set_option maxHeartbeats 8000000 in
set_option maxRecDepth 100000 in
theorem spec_lxHex.calls(k:Nat)(a0:Int)(r:Int)(w:World)(h:spec_lxHex.f k a0=some r):
  Calls Tryz.prog 131 #[.int .u8 a0] w fun e w'=>e = .returned (.int .i64 r)/\Drawn0 w w':=by
 have H:(if a0>=48 then(spec_lxHex.j0 k a0 (decide (a0<=57))) else(spec_lxHex.j0 k a0 false))=some r:=h;clear h;have HC2:=aM H;clear H;go_enter Tryz.func131,Tryz.ntmps131
 go_upto_region 1 with(fail)
 go_cut [3] (fun v3 wc=>∃(kq:Nat) (x3_1:Bool),v3 = .bool x3_1/\Aside0 (spec_lxHex.j0 kq a0 x3_1=some r)/\Aside0 (kq<=k)/\Drawn0 w wc)
 case first=>
  have H:=HC2.out;clear HC2
  by_cases c3:a0>=48
  ·rw[if_pos c3] at H
   have c3b0:decide (48<=a0)=true:=decide_eq_true c3;clear c3
   (first|rw[c3b0]|(simp only[i64_w,i32_w];rw[c3b0])|skip)
   have H':=aM H;clear H
   go_wp2
   go_meet
   case rel=>exact⟨_,(decide (a0<=57)),(by first|rfl|(simp;done)|(simp[*];done)),H',⟨by first|omega|exact Nat.le_refl _⟩,by repeat (first|exact Drawn0.refl _|apply Drawn0.step)⟩
  ·rw[if_neg c3] at H
   have c3b0:decide (48<=a0)=false:=decide_eq_false c3;clear c3
   (first|rw[c3b0]|(simp only[i64_w,i32_w];rw[c3b0])|skip)
   have H':=aM H;clear H
   go_wp2
   go_meet
   case rel=>exact⟨_,(false),(by first|rfl|(simp;done)|(simp[*];done)),H',⟨by first|omega|exact Nat.le_refl _⟩,by repeat (first|exact Drawn0.refl _|apply Drawn0.step)⟩
 case rest=>
  clear HC2
  try clear c1
  try clear p2
  try clear c3
  try clear c3b0
  obtain⟨kq,x3_1,rfl,HA,HJ1,⟨mc1,rfl⟩⟩:=hcut
  cases kq with
  |zero=>exact absurd HA.out (by simp[spec_lxHex.j0])
  |succ kj1=>
   have H:=HA.out;clear HA;simp only[spec_lxHex.j0] at H
   by_cases c4:x3_1=true
   ·subst c4
    have H1:(some ((a0-48)%256))=some r:=by rw[if_pos rfl] at H;exact H
    clear H;have H:=H1;clear H1;obtain rfl:=Option.some.inj H
    go_wp2
    go_ret;exact⟨by first|rfl|(simp;done)|(simp[*];done),by repeat (first|exact Drawn0.refl _|apply Drawn0.step)⟩
   ·replace c4:=Bool.eq_false_iff.mpr c4
    subst c4;have H1:(if a0>=97 then(spec_lxHex.j1 kj1 a0 (decide (a0<=102))) else(spec_lxHex.j1 kj1 a0 false))=some r:=by rw[if_neg (show ¬(false=true) by decide)] at H;exact H
    clear H;have H:=H1;clear H1;have HC5:=aM H;clear H;go_upto_region 3 with(fail)
    go_cut [13] (fun v13 wc=>∃(kq:Nat) (x13_4:Bool),v13 = .bool x13_4/\Aside0 (spec_lxHex.j1 kq a0 x13_4=some r)/\Aside0 (kq<=kj1)/\Drawn0 w wc)
    case first=>
     have H:=HC5.out;clear HC5
     by_cases c6:a0>=97
     ·rw[if_pos c6] at H
      have c6b0:decide (97<=a0)=true:=decide_eq_true c6;clear c6
      (first|rw[c6b0]|(simp only[i64_w,i32_w];rw[c6b0])|skip)
      have H':=aM H;clear H
      go_wp2
      go_meet
      case rel=>exact⟨_,(decide (a0<=102)),(by first|rfl|(simp;done)|(simp[*];done)),H',⟨by have:=HJ1.out;first|omega|exact Nat.le_refl _⟩,by repeat (first|exact Drawn0.refl _|apply Drawn0.step)⟩
     ·rw[if_neg c6] at H
      have c6b0:decide (97<=a0)=false:=decide_eq_false c6;clear c6
      (first|rw[c6b0]|(simp only[i64_w,i32_w];rw[c6b0])|skip)
      have H':=aM H;clear H
      go_wp2
      go_meet
      case rel=>exact⟨_,(false),(by first|rfl|(simp;done)|(simp[*];done)),H',⟨by have:=HJ1.out;first|omega|exact Nat.le_refl _⟩,by repeat (first|exact Drawn0.refl _|apply Drawn0.step)⟩
    case rest=>
     clear HC5
     try clear c1
     try clear p2
     try clear c3
     try clear c3b0
     try clear c4
     try clear c6
     try clear c6b0
     try clear p2
     obtain⟨kq,x13_4,rfl,HA,HJ4,⟨mc4,rfl⟩⟩:=hcut
     cases kq with
     |zero=>exact absurd HA.out (by simp[spec_lxHex.j1])
     |succ kj4=>
      have H:=HA.out;clear HA;simp only[spec_lxHex.j1] at H
      by_cases c7:x13_4=true
      ·subst c7
       have H1:(some (((a0-97)%256)+10))=some r:=by rw[if_pos rfl] at H;exact H
       clear H;have H:=H1;clear H1;obtain rfl:=Option.some.inj H
       go_wp2
       go_ret;exact⟨by first|rfl|(simp;done)|(simp[*];done),by repeat (first|exact Drawn0.refl _|apply Drawn0.step)⟩
      ·replace c7:=Bool.eq_false_iff.mpr c7
       subst c7;have H1:(if a0>=65 then(if a0<=70 then(some (((a0-65)%256)+10)) else(some (-1))) else(some (-1)))=some r:=by rw[if_neg (show ¬(false=true) by decide)] at H;exact H
       clear H;have H:=H1;clear H1
       by_cases c8:a0>=65
       ·rw[if_pos c8] at H
        have c8b0:decide (65<=a0)=true:=decide_eq_true c8;clear c8
        by_cases c9:a0<=70
        ·rw[if_pos c9] at H
         have c9b0:decide (a0<=70)=true:=decide_eq_true c9;clear c9;obtain rfl:=Option.some.inj H
         go_wp2
         go_ret;exact⟨by first|rfl|(simp;done)|(simp[*];done),by repeat (first|exact Drawn0.refl _|apply Drawn0.step)⟩
        ·rw[if_neg c9] at H
         have c9b0:decide (a0<=70)=false:=decide_eq_false c9;clear c9;obtain rfl:=Option.some.inj H
         go_wp2
         go_ret;exact⟨by first|rfl|(simp;done)|(simp[*];done),by repeat (first|exact Drawn0.refl _|apply Drawn0.step)⟩
       ·rw[if_neg c8] at H
        have c8b0:decide (65<=a0)=false:=decide_eq_false c8;clear c8;obtain rfl:=Option.some.inj H
        go_wp2
        go_ret;exact⟨by first|rfl|(simp;done)|(simp[*];done),by repeat (first|exact Drawn0.refl _|apply Drawn0.step)⟩
def spec_lxDigits.f:Nat->Int->Option (ByteArray)
 |0,_=>none
 |k+1,a0=>if a0<10 then(some (strOfNums (([(wrap64 (48+a0))%256]:List Int)))) else((spec_lxDigits.f k (wrap64 (Int.tdiv a0 10))).bind fun t132=>((some (([(wrap64 (48+(Int.tmod a0 10)))%256]:List Int):List Int)).bind fun y133=>(if t132.size+(strOfNums y133).size<=9223372036854775807 then(some (t132++(strOfNums y133))) else(none))))
def spec_lxDigits.T3:Bool×List (List Nat×List Nat):=(true,[([],[]),([0],[0]),([1],[1]),([],[]),([3],[3]),([4],[4]),([5],[5]),([6],[6]),([7],[7]),([2,8],[2,8]),([9,2,0,1,2,3,4,5,6,7,8,9],[9])])
def spec_lxDigits.B3:List Nat:=[0,1,3,0,8,24,56,120,248,511,1023]
theorem spec_lxDigits.tab3:rtab .any (opsOf Tryz.f149 3)=spec_lxDigits.T3:=by kernel_rfl
theorem spec_lxDigits.bits3:waitsOk spec_lxDigits.T3.2 spec_lxDigits.B3=true:=by kernel_rfl
set_option maxHeartbeats 8000000 in
set_option maxRecDepth 100000 in
theorem spec_lxDigits.calls(k:Nat):∀(a0:Int) (r:ByteArray) (w:World) (h:spec_lxDigits.f k a0=some r),
  Calls Tryz.prog 149 #[.int .i64 a0] w fun e w'=>e = .returned (.string r)/\Below w.heap.size w w':=by
 induction k using Nat.strongRecOn with
 |_ k ih=>
 intro a0 r w h
 cases k with
 |zero=>exact absurd h (by simp[spec_lxDigits.f])
 |succ k=>
 simp only[spec_lxDigits.f] at h;have HB:=aM (bR w.heap.size w);have H:(if a0<10 then(some (strOfNums (([(wrap64 (48+a0))%256]:List Int)))) else((spec_lxDigits.f k (wrap64 (Int.tdiv a0 10))).bind fun t132=>((some (([(wrap64 (48+(Int.tmod a0 10)))%256]:List Int):List Int)).bind fun y133=>(if t132.size+(strOfNums y133).size<=9223372036854775807 then(some (t132++(strOfNums y133))) else(none)))))=some r:=h;clear h
 by_cases c2:a0<10
 ·rw[if_pos c2] at H
  have c2b0:decide (a0<10)=true:=decide_eq_true c2;clear c2;obtain⟨y129,hy129⟩:∃y_:List Int,y_=(([(wrap64 (48+a0))%256]:List Int)):=⟨_,rfl⟩;replace H:(some (strOfNums y129))=some r:=by first|(rw[hy129];with_reducible exact H)|(have H2_:=(Option.bind_some _ _).symm.trans H;rw[hy129];with_reducible exact H2_)|(have H2_:=(Option.bind_some _ _).symm.trans H;with_reducible exact H2_)|with_reducible exact H|(rw[hy129];exact H)|exact H
  have Ny129:=aM hy129;clear hy129;obtain rfl:=Option.some.inj H;go_enter Tryz.func149,Tryz.ntmps149
  go_wp2_with (first|((with_reducible refine gate_dst (N:=8) rfl ?_);refine Kd.R_lit (Kd.int .u8) _ 5 ?hg (N:=8) ?hd (xs:=([(wrap64 (48+a0))%256]:List Int)) (inner:=[.int .u8 ((wrap64 (48+a0))%256)]) (ok:=fun _=>True) (okp:=fun _=>True) ?hr ?hp (fun _ hk=>hk) trivial (bR _ _) (Nat.le_refl _) (by simp) ?_;(case hd=>rfl);(case hg=>rfl);(case hr=>first|(go_simp;done)|(go_simp;rfl));(case hp=>exact(Reps.one (show Kd.M (Kd.int .u8) _ _ _ ((wrap64 (48+a0))%256) [.int .u8 ((wrap64 (48+a0))%256)] from rfl) (Reps.none _ _)));intro v130 w3 ho4 hb hg_ hnew_;clear hg_ hnew_;(first|rw[<-Ny129.out] at ho4|(simp only[Int.reduceToNat] at ho4;rw[<-Ny129.out] at ho4));have n0_:=aM (Kd.R_lower ho4 (below_size (by repeat (first|(with_reducible first|exact HB.out|apply bA|apply pD|apply bD)|exact HB.out))));have n1_:=aM (below_step (by repeat (first|(with_reducible first|exact HB.out|apply bA|apply pD|apply bD)|exact HB.out)) hb);clear HB;have HO131:=n0_;have HB:=n1_;clear n0_ n1_;clear hb ho4;have hcv5:=own_string (P:=Tryz.prog) Tryz.underlying41 Tryz.underlying5 Tryz.underlying9 (Kd.own_of_R HO131.out)))
  go_ret;exact⟨by first|rfl|(simp[errW_none,errW_some]<;>rfl)|(simp[*,errW_none,errW_some]<;>rfl),by repeat (first|(with_reducible first|exact HB.out|apply bA|apply pD|apply bD)|exact HB.out)⟩
 ·rw[if_neg c2] at H
  have c2b0:decide (a0<10)=false:=decide_eq_false c2;clear c2;replace H:=Option.bind_eq_some_iff.mp H;obtain⟨t132,A60,H⟩:=H;replace H:((some (([(wrap64 (48+(Int.tmod a0 10)))%256]:List Int):List Int)).bind fun y133=>(if t132.size+(strOfNums y133).size<=9223372036854775807 then(some (t132++(strOfNums y133))) else(none)))=some r:=H;have A6:=aM A60;clear A60;obtain⟨y133,hy133⟩:∃y_:List Int,y_=(([(wrap64 (48+(Int.tmod a0 10)))%256]:List Int)):=⟨_,rfl⟩;replace H:(if t132.size+(strOfNums y133).size<=9223372036854775807 then(some (t132++(strOfNums y133))) else(none))=some r:=by first|(rw[hy133];with_reducible exact H)|(have H2_:=(Option.bind_some _ _).symm.trans H;rw[hy133];with_reducible exact H2_)|(have H2_:=(Option.bind_some _ _).symm.trans H;with_reducible exact H2_)|with_reducible exact H|(rw[hy133];exact H)|exact H
  have Ny133:=aM hy133;clear hy133
  by_cases c7:t132.size+(strOfNums y133).size<=9223372036854775807
  ·rw[if_pos c7] at H
   have c7b0:=eq_true c7;have c7b1:decide (t132.size+(strOfNums y133).size<=9223372036854775807)=true:=decide_eq_true c7
   try have c7b2:(9223372036854775807<t132.size+(strOfNums y133).size)=False:=eq_false (Nat.not_lt.2 c7)
   obtain rfl:=Option.some.inj H;go_enter Tryz.func149,Tryz.ntmps149
   try go_wp2
   have n0_:=aM (bD HB.out);clear HB;have HB:=n0_;clear n0_;refine start_ (n:=11) (S:=fun w'=>True) (ds:=[]) #[false,false,false,false,false,false,false,false,false,false,false] (by kernel_rfl) rfl rfl trivial (fun hHeld=> ?_);refine with_tabW spec_lxDigits.tab3 spec_lxDigits.bits3 (fun HT_ HW_=> ?_)
   generalize w.drew=w8 at HB hHeld|-;refine pure_ (i:=0) (N:=some 10) (v:= ?_) (a':= ?_) #[true,false,false,false,false,false,false,false,false,false,false] rfl rfl (any_of HT_.out (by kernel_rfl)) (fun _ _ _ h=>h) (Or.inl ⟨by rfl,?_⟩) ?_ ?_
   rotate_left
   ·intro w'
    go_simp
    with_reducible rfl
   rotate_left
   ·simp only[Act.put,List.setIfInBounds_toArray,List.set_cons_zero,List.set_cons_succ,i64_w,i32_w]
    rfl
   refine pure_ (i:=1) (N:=some 11) (v:= ?_) (a':= ?_) #[true,true,false,false,false,false,false,false,false,false,false] rfl rfl (any_of HT_.out (by kernel_rfl)) (fun _ _ _ h=>h) (Or.inl ⟨by rfl,?_⟩) ?_ ?_
   rotate_left
   ·intro w'
    go_simp
    with_reducible rfl
   rotate_left
   ·simp only[Act.put,List.setIfInBounds_toArray,List.set_cons_zero,List.set_cons_succ,i64_w,i32_w]
    rfl
   refine pure_ (i:=3) (N:=some 13) (v:= ?_) (a':= ?_) #[true,true,false,true,false,false,false,false,false,false,false] rfl rfl (any_of HT_.out (by kernel_rfl)) (fun _ _ _ h=>h) (Or.inl ⟨by rfl,?_⟩) ?_ ?_
   rotate_left
   ·intro w'
    go_simp
    with_reducible rfl
   rotate_left
   ·simp only[Act.put,List.setIfInBounds_toArray,List.set_cons_zero,List.set_cons_succ,i64_w,i32_w]
    rfl
   refine pure_ (i:=4) (N:=some 14) (v:= ?_) (a':= ?_) #[true,true,false,true,true,false,false,false,false,false,false] rfl rfl (any_of HT_.out (by kernel_rfl)) (fun _ _ _ h=>h) (Or.inl ⟨by rfl,?_⟩) ?_ ?_
   rotate_left
   ·intro w'
    go_simp
    with_reducible rfl
   rotate_left
   ·simp only[Act.put,List.setIfInBounds_toArray,List.set_cons_zero,List.set_cons_succ,i64_w,i32_w]
    rfl
   refine pure_ (i:=5) (N:=some 15) (v:= ?_) (a':= ?_) #[true,true,false,true,true,true,false,false,false,false,false] rfl rfl (any_of HT_.out (by kernel_rfl)) (fun _ _ _ h=>h) (Or.inl ⟨by rfl,?_⟩) ?_ ?_
   rotate_left
   ·intro w'
    go_simp
    with_reducible rfl
   rotate_left
   ·simp only[Act.put,List.setIfInBounds_toArray,List.set_cons_zero,List.set_cons_succ,i64_w,i32_w]
    rfl
   refine pure_ (i:=6) (N:=some 16) (v:= ?_) (a':= ?_) #[true,true,false,true,true,true,true,false,false,false,false] rfl rfl (any_of HT_.out (by kernel_rfl)) (fun _ _ _ h=>h) (Or.inl ⟨by rfl,?_⟩) ?_ ?_
   rotate_left
   ·intro w'
    go_simp
    with_reducible rfl
   rotate_left
   ·simp only[Act.put,List.setIfInBounds_toArray,List.set_cons_zero,List.set_cons_succ,i64_w,i32_w]
    rfl
   refine join_ (σ:=Value) 2 #[true,true,true,true,true,true,true,true,true,false,false] (fun s_=>[(12,.string t132),(17,s_),(18,.string (strOfNums y133))]) (fun s_ w'=>(Kd.R (Kd.int .u8) 5 w' w.heap.size (fun _=>True) s_ y133)/\(Below w.heap.size w w')) ?_ ?_
   rotate_left
   ·intro hCont
    refine two_ (i:=2) (j:=7) (Ni:=some 12) (Nj:=some 17) #[true,true,true,true,true,true,true,false,false,false,false] #[true,true,false,true,true,true,true,true,false,false,false] rfl rfl rfl rfl (two_of HT_.out (by kernel_rfl)) (by decide) (by decide) (fun K hK=> ?_) (fun K hK=> ?_)
    ·skip
     refine goes_ Tryz.func149 (by kernel_rfl) rfl #[.int .i64 (wrap64 (Int.tdiv a0 10))] (by rfl) rfl rfl (by(try simp only[List.map_toArray,List.map_cons,List.map_nil]);first|done|rfl|(simp only[List.length_drop,List.length_take];rfl)) ?_
     with_reducible refine(ih k (by omega) (wrap64 (Int.tdiv a0 10)) t132 _ A6.out).mono ?_
     rintro e w9 ⟨rfl,hb⟩;refine⟨_,rfl,?_⟩;have n0_:=aM (below_step (by repeat (first|(with_reducible first|exact HB.out|apply bA|apply pD|apply bD)|exact HB.out)) hb);clear HB;have HB:=n0_;clear n0_
     (try clear hb)
     (try clear hb2)
     (try clear hk)
     (try clear hi)
     refine hK.out _ _ trivial (fun hHeld=> ?_);clear hK K;refine norm_ (a':= ?_) ?_ ?_
     rotate_left
     ·show Act.put _ (some 12) _=_
      simp only[Act.put,List.setIfInBounds_toArray,List.set_cons_zero,List.set_cons_succ,i64_w,i32_w]
      rfl
     refine one_ (i:=7) (N:=some 17) #[true,true,true,true,true,true,true,true,false,false,false] rfl rfl (one_of HT_.out (by kernel_rfl)) (by decide) (fun K hK=> ?_);refine Kd.R_lit_step (Kd.int .u8) _ 5 ?hg (N:=17) ?hd (xs:=([(wrap64 (48+(Int.tmod a0 10)))%256]:List Int)) (inner:=[.int .u8 ((wrap64 (48+(Int.tmod a0 10)))%256)]) (ok:=fun _=>True) (okp:=fun _=>True) ?hr ?hp (fun _ hk=>hk) trivial (bR _ _) (Nat.le_refl _) (by simp) ?_;(case hd=>rfl);(case hg=>rfl);(case hr=>first|(go_simp;done)|(go_simp;rfl));(case hp=>exact(Reps.one (show Kd.M (Kd.int .u8) _ _ _ ((wrap64 (48+(Int.tmod a0 10)))%256) [.int .u8 ((wrap64 (48+(Int.tmod a0 10)))%256)] from rfl) (Reps.none _ _)))
     intro v134 w10 ho11 hb hg_ hnew_;clear hg_ hnew_
     (first|rw[<-Ny133.out] at ho11|(simp only[Int.reduceToNat] at ho11;rw[<-Ny133.out] at ho11))
     have n0_:=aM (Kd.R_lower ho11 (below_size (by repeat (first|(with_reducible first|exact HB.out|apply bA|apply pD|apply bD)|exact HB.out))));have n1_:=aM (below_step (by repeat (first|(with_reducible first|exact HB.out|apply bA|apply pD|apply bD)|exact HB.out)) hb);clear HB;have HO135:=n0_;have HB:=n1_;clear n0_ n1_;clear hb ho11;refine hK.out _ _ trivial (fun hHeld=> ?_);clear hK K;refine norm_ (a':= ?_) ?_ ?_
     rotate_left
     ·show Act.put _ (some 17) _=_
      simp only[Act.put,List.setIfInBounds_toArray,List.set_cons_zero,List.set_cons_succ,i64_w,i32_w]
      rfl
     refine one_ (i:=8) (N:=some 18) #[true,true,true,true,true,true,true,true,true,false,false] rfl rfl (one_of HT_.out (by kernel_rfl)) (by decide) (fun K hK=> ?_);have hcv12:=own_string (P:=Tryz.prog) Tryz.underlying41 Tryz.underlying5 Tryz.underlying9 (Kd.own_of_R HO135.out);refine value_ (w1:= ?_) (v:= ?_) (by rfl) rfl ?_ ?_
     rotate_left 2
     ·go_simp
      constructor
      ·rfl
      ·rfl
     clear hcv12;refine hK.out _ _ trivial (fun hHeld=> ?_);clear hK K;refine norm_ (a':= ?_) ?_ ?_
     rotate_left
     ·show Act.put _ (some 18) _=_
      simp only[Act.put,List.setIfInBounds_toArray,List.set_cons_zero,List.set_cons_succ,i64_w,i32_w]
      rfl
     exact norm_ (by simp only[putAll,Act.put,List.setIfInBounds_toArray,List.set_cons_zero,List.set_cons_succ]) (hCont (v134) _ ⟨(by(with_reducible repeat (first|apply Kd.R_alloc|apply Kd.R_drewN|apply Kd.R_drew));exact HO135.out),(by repeat (first|(with_reducible first|exact HB.out|apply bA|apply pD|apply bD)|exact HB.out))⟩)
    ·skip
     refine Kd.R_lit_step (Kd.int .u8) _ 5 ?hg (N:=17) ?hd (xs:=([(wrap64 (48+(Int.tmod a0 10)))%256]:List Int)) (inner:=[.int .u8 ((wrap64 (48+(Int.tmod a0 10)))%256)]) (ok:=fun _=>True) (okp:=fun _=>True) ?hr ?hp (fun _ hk=>hk) trivial (bR _ _) (Nat.le_refl _) (by simp) ?_;(case hd=>rfl);(case hg=>rfl);(case hr=>first|(go_simp;done)|(go_simp;rfl));(case hp=>exact(Reps.one (show Kd.M (Kd.int .u8) _ _ _ ((wrap64 (48+(Int.tmod a0 10)))%256) [.int .u8 ((wrap64 (48+(Int.tmod a0 10)))%256)] from rfl) (Reps.none _ _)))
     intro v134 w9 ho10 hb hg_ hnew_;clear hg_ hnew_
     (first|rw[<-Ny133.out] at ho10|(simp only[Int.reduceToNat] at ho10;rw[<-Ny133.out] at ho10))
     have n0_:=aM (Kd.R_lower ho10 (below_size (by repeat (first|(with_reducible first|exact HB.out|apply bA|apply pD|apply bD)|exact HB.out))));have n1_:=aM (below_step (by repeat (first|(with_reducible first|exact HB.out|apply bA|apply pD|apply bD)|exact HB.out)) hb);clear HB;have HO135:=n0_;have HB:=n1_;clear n0_ n1_;clear hb ho10;refine hK.out _ _ trivial (fun hHeld=> ?_);clear hK K;refine norm_ (a':= ?_) ?_ ?_
     rotate_left
     ·show Act.put _ (some 17) _=_
      simp only[Act.put,List.setIfInBounds_toArray,List.set_cons_zero,List.set_cons_succ,i64_w,i32_w]
      rfl
     refine two_ (i:=2) (j:=8) (Ni:=some 12) (Nj:=some 18) #[true,true,true,true,true,true,true,true,false,false,false] #[true,true,false,true,true,true,true,true,true,false,false] rfl rfl rfl rfl (two_of HT_.out (by kernel_rfl)) (by decide) (by decide) (fun K hK=> ?_) (fun K hK=> ?_)
     ·skip
      refine goes_ Tryz.func149 (by kernel_rfl) rfl #[.int .i64 (wrap64 (Int.tdiv a0 10))] (by rfl) rfl rfl (by(try simp only[List.map_toArray,List.map_cons,List.map_nil]);first|done|rfl|(simp only[List.length_drop,List.length_take];rfl)) ?_
      with_reducible refine(ih k (by omega) (wrap64 (Int.tdiv a0 10)) t132 _ A6.out).mono ?_
      rintro e w11 ⟨rfl,hb⟩;refine⟨_,rfl,?_⟩;have n0_:=aM (Kd.R_below (by(with_reducible repeat (first|apply Kd.R_alloc|apply Kd.R_drewN|apply Kd.R_drew));exact HO135.out) hb);have n1_:=aM (below_step (by repeat (first|(with_reducible first|exact HB.out|apply bA|apply pD|apply bD)|exact HB.out)) hb);clear HO135;clear HB;have HO135:=n0_;have HB:=n1_;clear n0_ n1_
      (try clear hb)
      (try clear hb2)
      (try clear hk)
      (try clear hi)
      refine hK.out _ _ trivial (fun hHeld=> ?_);clear hK K;refine norm_ (a':= ?_) ?_ ?_
      rotate_left
      ·show Act.put _ (some 12) _=_
       simp only[Act.put,List.setIfInBounds_toArray,List.set_cons_zero,List.set_cons_succ,i64_w,i32_w]
       rfl
      refine one_ (i:=8) (N:=some 18) #[true,true,true,true,true,true,true,true,true,false,false] rfl rfl (one_of HT_.out (by kernel_rfl)) (by decide) (fun K hK=> ?_);have hcv12:=own_string (P:=Tryz.prog) Tryz.underlying41 Tryz.underlying5 Tryz.underlying9 (Kd.own_of_R HO135.out);refine value_ (w1:= ?_) (v:= ?_) (by rfl) rfl ?_ ?_
      rotate_left 2
      ·go_simp
       constructor
       ·rfl
       ·rfl
      clear hcv12;refine hK.out _ _ trivial (fun hHeld=> ?_);clear hK K;refine norm_ (a':= ?_) ?_ ?_
      rotate_left
      ·show Act.put _ (some 18) _=_
       simp only[Act.put,List.setIfInBounds_toArray,List.set_cons_zero,List.set_cons_succ,i64_w,i32_w]
       rfl
      exact norm_ (by simp only[putAll,Act.put,List.setIfInBounds_toArray,List.set_cons_zero,List.set_cons_succ]) (hCont (v134) _ ⟨(by(with_reducible repeat (first|apply Kd.R_alloc|apply Kd.R_drewN|apply Kd.R_drew));exact HO135.out),(by repeat (first|(with_reducible first|exact HB.out|apply bA|apply pD|apply bD)|exact HB.out))⟩)
     ·skip
      have hcv11:=own_string (P:=Tryz.prog) Tryz.underlying41 Tryz.underlying5 Tryz.underlying9 (Kd.own_of_R HO135.out);refine value_ (w1:= ?_) (v:= ?_) (by rfl) rfl ?_ ?_
      rotate_left 2
      ·go_simp
       constructor
       ·rfl
       ·rfl
      clear hcv11;refine hK.out _ _ trivial (fun hHeld=> ?_);clear hK K;refine norm_ (a':= ?_) ?_ ?_
      rotate_left
      ·show Act.put _ (some 18) _=_
       simp only[Act.put,List.setIfInBounds_toArray,List.set_cons_zero,List.set_cons_succ,i64_w,i32_w]
       rfl
      refine one_ (i:=2) (N:=some 12) #[true,true,true,true,true,true,true,true,true,false,false] rfl rfl (one_of HT_.out (by kernel_rfl)) (by decide) (fun K hK=> ?_);refine goes_ Tryz.func149 (by kernel_rfl) rfl #[.int .i64 (wrap64 (Int.tdiv a0 10))] (by rfl) rfl rfl (by(try simp only[List.map_toArray,List.map_cons,List.map_nil]);first|done|rfl|(simp only[List.length_drop,List.length_take];rfl)) ?_
      with_reducible refine(ih k (by omega) (wrap64 (Int.tdiv a0 10)) t132 _ A6.out).mono ?_
      rintro e w12 ⟨rfl,hb⟩;refine⟨_,rfl,?_⟩;have n0_:=aM (Kd.R_below (by(with_reducible repeat (first|apply Kd.R_alloc|apply Kd.R_drewN|apply Kd.R_drew));exact HO135.out) hb);have n1_:=aM (below_step (by repeat (first|(with_reducible first|exact HB.out|apply bA|apply pD|apply bD)|exact HB.out)) hb);clear HO135;clear HB;have HO135:=n0_;have HB:=n1_;clear n0_ n1_
      (try clear hb)
      (try clear hb2)
      (try clear hk)
      (try clear hi)
      refine hK.out _ _ trivial (fun hHeld=> ?_);clear hK K;refine norm_ (a':= ?_) ?_ ?_
      rotate_left
      ·show Act.put _ (some 12) _=_
       simp only[Act.put,List.setIfInBounds_toArray,List.set_cons_zero,List.set_cons_succ,i64_w,i32_w]
       rfl
      exact norm_ (by simp only[putAll,Act.put,List.setIfInBounds_toArray,List.set_cons_zero,List.set_cons_succ]) (hCont (v134) _ ⟨(by(with_reducible repeat (first|apply Kd.R_alloc|apply Kd.R_drewN|apply Kd.R_drew));exact HO135.out),(by repeat (first|(with_reducible first|exact HB.out|apply bA|apply pD|apply bD)|exact HB.out))⟩)
   rintro v134 w13 ⟨h0_,h1_⟩;have n0_:Aside0 (Kd.R (Kd.int .u8) 5 w13 w.heap.size (fun _=>True) v134 y133):=⟨h0_⟩;have n1_:Aside0 (Below w.heap.size w w13):=⟨h1_⟩;clear HB;clear h0_ h1_;have HO135:=n0_;have HB:=n1_;clear n0_ n1_;have hHeld:=trivial;refine norm_ (a':= ?_) ?_ ?_
   rotate_left
   ·simp only[putAll,Act.put,List.setIfInBounds_toArray,List.set_cons_zero,List.set_cons_succ]
    rfl
   refine pure_ (i:=9) (N:=some 19) (v:= ?_) (a':= ?_) #[true,true,true,true,true,true,true,true,true,true,false] rfl rfl (any_of HT_.out (by kernel_rfl)) (fun _ _ _ h=>h) (Or.inl ⟨by rfl,?_⟩) ?_ ?_
   rotate_left
   ·intro w'
    go_simp
    with_reducible rfl
   rotate_left
   ·simp only[Act.put,List.setIfInBounds_toArray,List.set_cons_zero,List.set_cons_succ,i64_w,i32_w]
    rfl
   refine pure_ (i:=10) (N:=some 2) (v:= ?_) (a':= ?_) #[true,true,true,true,true,true,true,true,true,true,true] rfl rfl (any_of HT_.out (by kernel_rfl)) (fun _ _ _ h=>h) (Or.inl ⟨by rfl,?_⟩) ?_ ?_
   rotate_left
   ·intro w'
    go_simp
    with_reducible rfl
   rotate_left
   ·simp only[Act.put,List.setIfInBounds_toArray,List.set_cons_zero,List.set_cons_succ,i64_w,i32_w]
    rfl
   refine done_ (done_of HT_.out (by kernel_rfl)) ?_
   try go_wp2
   go_ret;exact⟨by first|rfl|(simp[errW_none,errW_some]<;>rfl)|(simp[*,errW_none,errW_some]<;>rfl),by repeat (first|(with_reducible first|exact HB.out|apply bA|apply pD|apply bD)|exact HB.out)⟩
  ·rw[if_neg c7] at H
   exact absurd H (by simp)
def spec_lxSigns.f:Option (List ByteArray):=some (([(⟨#[46,46,46]⟩:ByteArray),(⟨#[46,46]⟩:ByteArray),(⟨#[61,61]⟩:ByteArray),(⟨#[126,61]⟩:ByteArray),(⟨#[60,61]⟩:ByteArray),(⟨#[62,61]⟩:ByteArray),(⟨#[43]⟩:ByteArray),(⟨#[45]⟩:ByteArray),(⟨#[42]⟩:ByteArray),(⟨#[47]⟩:ByteArray),(⟨#[37]⟩:ByteArray),(⟨#[94]⟩:ByteArray),(⟨#[35]⟩:ByteArray),(⟨#[60]⟩:ByteArray),(⟨#[62]⟩:ByteArray),(⟨#[61]⟩:ByteArray),(⟨#[40]⟩:ByteArray),(⟨#[41]⟩:ByteArray),(⟨#[123]⟩:ByteArray),(⟨#[125]⟩:ByteArray),(⟨#[91]⟩:ByteArray),(⟨#[93]⟩:ByteArray),(⟨#[59]⟩:ByteArray),(⟨#[58]⟩:ByteArray),(⟨#[44]⟩:ByteArray),(⟨#[46]⟩:ByteArray)]:List ByteArray))
set_option maxHeartbeats 8000000 in
set_option maxRecDepth 100000 in
theorem spec_lxSigns.calls(r:List ByteArray)(w:World)(h:spec_lxSigns.f=some r):
  Calls Tryz.prog 109 #[] w fun e w'=>∃v0_:Value,e = .returned (v0_)/\Kd.R Kd.string 9 w' w.heap.size (fun _=>True) v0_ r/\Below w.heap.size w w':=by
 have HB:=aM (bR w.heap.size w);have H:(some (([(⟨#[46,46,46]⟩:ByteArray),(⟨#[46,46]⟩:ByteArray),(⟨#[61,61]⟩:ByteArray),(⟨#[126,61]⟩:ByteArray),(⟨#[60,61]⟩:ByteArray),(⟨#[62,61]⟩:ByteArray),(⟨#[43]⟩:ByteArray),(⟨#[45]⟩:ByteArray),(⟨#[42]⟩:ByteArray),(⟨#[47]⟩:ByteArray),(⟨#[37]⟩:ByteArray),(⟨#[94]⟩:ByteArray),(⟨#[35]⟩:ByteArray),(⟨#[60]⟩:ByteArray),(⟨#[62]⟩:ByteArray),(⟨#[61]⟩:ByteArray),(⟨#[40]⟩:ByteArray),(⟨#[41]⟩:ByteArray),(⟨#[123]⟩:ByteArray),(⟨#[125]⟩:ByteArray),(⟨#[91]⟩:ByteArray),(⟨#[93]⟩:ByteArray),(⟨#[59]⟩:ByteArray),(⟨#[58]⟩:ByteArray),(⟨#[44]⟩:ByteArray),(⟨#[46]⟩:ByteArray)]:List ByteArray)))=some r:=h;clear h;obtain⟨y166,hy166⟩:∃y_:List ByteArray,y_=(([(⟨#[46,46,46]⟩:ByteArray),(⟨#[46,46]⟩:ByteArray),(⟨#[61,61]⟩:ByteArray),(⟨#[126,61]⟩:ByteArray),(⟨#[60,61]⟩:ByteArray),(⟨#[62,61]⟩:ByteArray),(⟨#[43]⟩:ByteArray),(⟨#[45]⟩:ByteArray),(⟨#[42]⟩:ByteArray),(⟨#[47]⟩:ByteArray),(⟨#[37]⟩:ByteArray),(⟨#[94]⟩:ByteArray),(⟨#[35]⟩:ByteArray),(⟨#[60]⟩:ByteArray),(⟨#[62]⟩:ByteArray),(⟨#[61]⟩:ByteArray),(⟨#[40]⟩:ByteArray),(⟨#[41]⟩:ByteArray),(⟨#[123]⟩:ByteArray),(⟨#[125]⟩:ByteArray),(⟨#[91]⟩:ByteArray),(⟨#[93]⟩:ByteArray),(⟨#[59]⟩:ByteArray),(⟨#[58]⟩:ByteArray),(⟨#[44]⟩:ByteArray),(⟨#[46]⟩:ByteArray)]:List ByteArray)):=⟨_,rfl⟩;replace H:(some y166)=some r:=by first|(rw[hy166];with_reducible exact H)|(have H2_:=(Option.bind_some _ _).symm.trans H;rw[hy166];with_reducible exact H2_)|(have H2_:=(Option.bind_some _ _).symm.trans H;with_reducible exact H2_)|with_reducible exact H|(rw[hy166];exact H)|exact H
 have Ny166:=aM hy166;clear hy166;obtain rfl:=Option.some.inj H;go_enter Tryz.func109,Tryz.ntmps109
 go_wp2_with (first|((with_reducible refine gate_dst (N:=1) rfl ?_);refine Kd.R_lit Kd.string _ 9 ?hg (N:=1) ?hd (xs:=([(⟨#[46,46,46]⟩:ByteArray),(⟨#[46,46]⟩:ByteArray),(⟨#[61,61]⟩:ByteArray),(⟨#[126,61]⟩:ByteArray),(⟨#[60,61]⟩:ByteArray),(⟨#[62,61]⟩:ByteArray),(⟨#[43]⟩:ByteArray),(⟨#[45]⟩:ByteArray),(⟨#[42]⟩:ByteArray),(⟨#[47]⟩:ByteArray),(⟨#[37]⟩:ByteArray),(⟨#[94]⟩:ByteArray),(⟨#[35]⟩:ByteArray),(⟨#[60]⟩:ByteArray),(⟨#[62]⟩:ByteArray),(⟨#[61]⟩:ByteArray),(⟨#[40]⟩:ByteArray),(⟨#[41]⟩:ByteArray),(⟨#[123]⟩:ByteArray),(⟨#[125]⟩:ByteArray),(⟨#[91]⟩:ByteArray),(⟨#[93]⟩:ByteArray),(⟨#[59]⟩:ByteArray),(⟨#[58]⟩:ByteArray),(⟨#[44]⟩:ByteArray),(⟨#[46]⟩:ByteArray)]:List ByteArray)) (inner:=[.string (⟨#[46,46,46]⟩:ByteArray),.string (⟨#[46,46]⟩:ByteArray),.string (⟨#[61,61]⟩:ByteArray),.string (⟨#[126,61]⟩:ByteArray),.string (⟨#[60,61]⟩:ByteArray),.string (⟨#[62,61]⟩:ByteArray),.string (⟨#[43]⟩:ByteArray),.string (⟨#[45]⟩:ByteArray),.string (⟨#[42]⟩:ByteArray),.string (⟨#[47]⟩:ByteArray),.string (⟨#[37]⟩:ByteArray),.string (⟨#[94]⟩:ByteArray),.string (⟨#[35]⟩:ByteArray),.string (⟨#[60]⟩:ByteArray),.string (⟨#[62]⟩:ByteArray),.string (⟨#[61]⟩:ByteArray),.string (⟨#[40]⟩:ByteArray),.string (⟨#[41]⟩:ByteArray),.string (⟨#[123]⟩:ByteArray),.string (⟨#[125]⟩:ByteArray),.string (⟨#[91]⟩:ByteArray),.string (⟨#[93]⟩:ByteArray),.string (⟨#[59]⟩:ByteArray),.string (⟨#[58]⟩:ByteArray),.string (⟨#[44]⟩:ByteArray),.string (⟨#[46]⟩:ByteArray)]) (ok:=fun _=>True) (okp:=fun _=>True) ?hr ?hp (fun _ hk=>hk) trivial (bR _ _) (Nat.le_refl _) (by simp) ?_;(case hd=>rfl);(case hg=>rfl);(case hr=>first|(go_simp;done)|(go_simp;rfl));(case hp=>exact(Reps.one (show Kd.M Kd.string _ _ _ (⟨#[46,46,46]⟩:ByteArray) [.string (⟨#[46,46,46]⟩:ByteArray)] from rfl) (Reps.one (show Kd.M Kd.string _ _ _ (⟨#[46,46]⟩:ByteArray) [.string (⟨#[46,46]⟩:ByteArray)] from rfl) (Reps.one (show Kd.M Kd.string _ _ _ (⟨#[61,61]⟩:ByteArray) [.string (⟨#[61,61]⟩:ByteArray)] from rfl) (Reps.one (show Kd.M Kd.string _ _ _ (⟨#[126,61]⟩:ByteArray) [.string (⟨#[126,61]⟩:ByteArray)] from rfl) (Reps.one (show Kd.M Kd.string _ _ _ (⟨#[60,61]⟩:ByteArray) [.string (⟨#[60,61]⟩:ByteArray)] from rfl) (Reps.one (show Kd.M Kd.string _ _ _ (⟨#[62,61]⟩:ByteArray) [.string (⟨#[62,61]⟩:ByteArray)] from rfl) (Reps.one (show Kd.M Kd.string _ _ _ (⟨#[43]⟩:ByteArray) [.string (⟨#[43]⟩:ByteArray)] from rfl) (Reps.one (show Kd.M Kd.string _ _ _ (⟨#[45]⟩:ByteArray) [.string (⟨#[45]⟩:ByteArray)] from rfl) (Reps.one (show Kd.M Kd.string _ _ _ (⟨#[42]⟩:ByteArray) [.string (⟨#[42]⟩:ByteArray)] from rfl) (Reps.one (show Kd.M Kd.string _ _ _ (⟨#[47]⟩:ByteArray) [.string (⟨#[47]⟩:ByteArray)] from rfl) (Reps.one (show Kd.M Kd.string _ _ _ (⟨#[37]⟩:ByteArray) [.string (⟨#[37]⟩:ByteArray)] from rfl) (Reps.one (show Kd.M Kd.string _ _ _ (⟨#[94]⟩:ByteArray) [.string (⟨#[94]⟩:ByteArray)] from rfl) (Reps.one (show Kd.M Kd.string _ _ _ (⟨#[35]⟩:ByteArray) [.string (⟨#[35]⟩:ByteArray)] from rfl) (Reps.one (show Kd.M Kd.string _ _ _ (⟨#[60]⟩:ByteArray) [.string (⟨#[60]⟩:ByteArray)] from rfl) (Reps.one (show Kd.M Kd.string _ _ _ (⟨#[62]⟩:ByteArray) [.string (⟨#[62]⟩:ByteArray)] from rfl) (Reps.one (show Kd.M Kd.string _ _ _ (⟨#[61]⟩:ByteArray) [.string (⟨#[61]⟩:ByteArray)] from rfl) (Reps.one (show Kd.M Kd.string _ _ _ (⟨#[40]⟩:ByteArray) [.string (⟨#[40]⟩:ByteArray)] from rfl) (Reps.one (show Kd.M Kd.string _ _ _ (⟨#[41]⟩:ByteArray) [.string (⟨#[41]⟩:ByteArray)] from rfl) (Reps.one (show Kd.M Kd.string _ _ _ (⟨#[123]⟩:ByteArray) [.string (⟨#[123]⟩:ByteArray)] from rfl) (Reps.one (show Kd.M Kd.string _ _ _ (⟨#[125]⟩:ByteArray) [.string (⟨#[125]⟩:ByteArray)] from rfl) (Reps.one (show Kd.M Kd.string _ _ _ (⟨#[91]⟩:ByteArray) [.string (⟨#[91]⟩:ByteArray)] from rfl) (Reps.one (show Kd.M Kd.string _ _ _ (⟨#[93]⟩:ByteArray) [.string (⟨#[93]⟩:ByteArray)] from rfl) (Reps.one (show Kd.M Kd.string _ _ _ (⟨#[59]⟩:ByteArray) [.string (⟨#[59]⟩:ByteArray)] from rfl) (Reps.one (show Kd.M Kd.string _ _ _ (⟨#[58]⟩:ByteArray) [.string (⟨#[58]⟩:ByteArray)] from rfl) (Reps.one (show Kd.M Kd.string _ _ _ (⟨#[44]⟩:ByteArray) [.string (⟨#[44]⟩:ByteArray)] from rfl) (Reps.one (show Kd.M Kd.string _ _ _ (⟨#[46]⟩:ByteArray) [.string (⟨#[46]⟩:ByteArray)] from rfl) (Reps.none _ _))))))))))))))))))))))))))));intro v167 w1 ho2 hb hg_ hnew_;clear hg_ hnew_;(first|rw[<-Ny166.out] at ho2|(simp only[Int.reduceToNat] at ho2;rw[<-Ny166.out] at ho2));have n0_:=aM (Kd.R_lower ho2 (below_size (by repeat (first|(with_reducible first|exact HB.out|apply bA|apply pD|apply bD)|exact HB.out))));have n1_:=aM (below_step (by repeat (first|(with_reducible first|exact HB.out|apply bA|apply pD|apply bD)|exact HB.out)) hb);clear HB;have HO168:=n0_;have HB:=n1_;clear n0_ n1_;clear hb ho2))
 go_ret;exact⟨_,by first|rfl|(simp[errW_none,errW_some]<;>rfl)|(simp[*,errW_none,errW_some]<;>rfl),by(with_reducible repeat (first|apply Kd.R_alloc|apply Kd.R_drewN|apply Kd.R_drew));exact HO168.out,by repeat (first|(with_reducible first|exact HB.out|apply bA|apply pD|apply bD)|exact HB.out)⟩
end Go.Proofs.YtoimaaonloibfaaGreatDoor.PF
namespace Go.Proofs.YtoimaaonloibfaaGreatDoor.Wf
open Go.RowKit W1 PF
theorem bytesOf_append(s u:ByteArray):bytesOf (s++u)=bytesOf s++bytesOf u:=by
 simp[bytesOf]
theorem bytesOf_nums{xs:List Int}(h:∀x∈xs,0<=x/\x<=255):bytesOf (strOfNums xs)=xs:=by
 unfold bytesOf;rw[strOfNums_data,List.map_map];have:∀x∈xs,((fun b:UInt8=>(b.toNat:Int))∘fun n:Int=>UInt8.ofNat n.toNat) x=x:=by
  intro x hx;have:=h x hx;simp only[Function.comp,UInt8.toNat_ofNat'];omega
 rw[List.map_congr_left this,List.map_id']
def Digs(l:List Int):Prop:=l≠[]/\∀x∈l,48<=x/\x<=57
def NumT(l:List Int):Prop:=∃ds,Digs ds/\(ds=[48]\/ds.head?≠some 48)/\(l=ds\/∃es,Digs es/\(l=ds++101::es\/l=ds++101::45::es))
theorem digs_f:∀(k:Nat) (n:Int),k<=30->0<=n->n<=9000000000000000000->n<10 ^ (k+1)->∃r,spec_lxDigits.f (k+1) n=some r/\Digs (bytesOf r)/\(n=0->bytesOf r=[48])/\(0<n->(bytesOf r).head?≠some 48)/\r.size<=k+1/\n<10 ^ r.size:=by
 intro k
 induction k with
 |zero=>
  intro n hk h0 h1 h2;have e1:wrap64 (48+n)%256=48+n:=by rw[IntWalk.wrap64_in _ (by omega)];omega
  refine⟨strOfNums [48+n],?_,?_⟩
  ·simp only[spec_lxDigits.f]
   rw[if_pos (by omega),e1]
  ·rw[bytesOf_nums (by intro x hx;simp at hx;omega),strOfNums_size]
   exact⟨⟨by simp,by intro x hx;simp at hx;omega⟩,fun h=>by rw[h];rfl,fun h=>by simp;omega,by simp,by simp;omega⟩
 |succ k ih=>
  intro n hk h0 h1 h2
  by_cases h10:n<10
  ·have e1:wrap64 (48+n)%256=48+n:=by rw[IntWalk.wrap64_in _ (by omega)];omega
   refine⟨strOfNums [48+n],?_,?_⟩
   ·simp only[spec_lxDigits.f]
    rw[if_pos h10,e1]
   ·rw[bytesOf_nums (by intro x hx;simp at hx;omega),strOfNums_size]
    exact⟨⟨by simp,by intro x hx;simp at hx;omega⟩,fun h=>by rw[h];rfl,fun h=>by simp;omega,by simp,by simp;omega⟩
  ·have hd:Int.tdiv n 10=n/10:=Int.tdiv_eq_ediv_of_nonneg h0
   have hm:Int.tmod n 10=n%10:=Int.tmod_eq_emod_of_nonneg h0;have hw:wrap64 (n/10)=n/10:=IntWalk.wrap64_in _ (by omega);obtain⟨r,hr,h3,h4,h5,h6,h7⟩:=ih (n/10) (by omega) (by omega) (by omega) (by
    have:(10:Int) ^ (k+1+1)=10 ^ (k+1)*10:=Int.pow_succ ..
    omega)
   have e1:wrap64 (48+n%10)%256=48+n%10:=by rw[IntWalk.wrap64_in _ (by omega)];omega
   refine⟨r++strOfNums [48+n%10],?_,?_⟩
   ·rw[spec_lxDigits.f]
    rw[if_neg h10,hd,hw,hr,hm,e1];simp only[Option.bind_some];rw[if_pos];rw[strOfNums_size];simp only[List.length_singleton];omega
   ·rw[bytesOf_append,bytesOf_nums (by intro x hx;simp at hx;omega),ByteArray.size_append,strOfNums_size]
    refine⟨⟨by simp,?_⟩,fun h=>by omega,fun h=> ?_,by simp;omega,?_⟩
    ·intro x hx
     rcases List.mem_append.1 hx with hx|hx
     ·exact h3.2 x hx
     ·simp at hx
      omega
    ·have:=h5 (by omega)
     have hne:=h3.1
     cases hb:bytesOf r with
     |nil=>exact absurd hb hne
     |cons y ys=>rw[hb] at this;simpa using this
    ·have e2:(10:Int) ^ (r.size+[48+n%10].length)=10 ^ r.size*10:=Int.pow_succ ..
     rw[e2];omega
theorem digs_any(n:Int)(h0:0<=n)(h1:n<=9000000000000000000):∃r:ByteArray,Digs (bytesOf r)/\(n=0->bytesOf r=[48])/\(0<n->(bytesOf r).head?≠some 48)/\r.size<=19/\n<10 ^ r.size/\∀w:World,Calls Tryz.prog 149 #[.int .i64 n] w fun e w'=>e = .returned (.string r)/\Below w.heap.size w w':=by
 obtain⟨r,h2,h3,h4,h5,h6,h7⟩:=digs_f 18 n (by omega) h0 h1 (by omega);exact⟨r,h3,h4,h5,h6,h7,fun w=>spec_lxDigits.calls 19 n r w h2⟩
theorem bytesOf_inj{a b:ByteArray}(h:bytesOf a=bytesOf b):a=b:=by
 have h2:a.data.toList=b.data.toList:=by
  unfold bytesOf at h;refine List.map_inj_right (fun x y hxy=> ?_) |>.1 h
  have:x.toNat=y.toNat:=Int.ofNat.inj hxy;exact UInt8.toNat_inj.1 this
 cases a with
 |mk a=>cases b with
  |mk b=>exact congrArg ByteArray.mk (Array.toList_inj.1 h2)
theorem toList_iff{a b:ByteArray}:a.toList=b.toList↔bytesOf a=bytesOf b:=by
 rw[ByteArray.toList_eq,ByteArray.toList_eq]
 constructor
 ·intro h
  unfold bytesOf;rw[h]
 ·intro h
  rw[bytesOf_inj h]
def wordsL:List (List Int):=[[97,110,100],[98,114,101,97,107],[100,111],[101,108,115,101],[101,108,115,101,105,102],[101,110,100],[102,97,108,115,101],[102,111,114],[102,117,110,99,116,105,111,110],[105,102],[105,110],[108,111,99,97,108],[110,105,108],[110,111,116],[111,114],[114,101,112,101,97,116],[114,101,116,117,114,110],[116,104,101,110],[116,114,117,101],[117,110,116,105,108],[119,104,105,108,101]]
def signsL:List (List Int):=[[46,46,46],[46,46],[61,61],[126,61],[60,61],[62,61],[43],[45],[42],[47],[37],[94],[35],[60],[62],[61],[40],[41],[123],[125],[91],[93],[59],[58],[44],[46]]
def gotoL:List Int:=[103,111,116,111]
theorem words_ok:∃ws,spec_lxWords.f=some ws/\ws.map bytesOf=wordsL:=⟨_,rfl,by decide⟩
theorem signs_ok:∃ws,spec_lxSigns.f=some ws/\ws.map bytesOf=signsL:=⟨_,rfl,by decide⟩
theorem isWord_l0{s:ByteArray}{ws:List ByteArray}(hw:ws.length<=1000):∀(d i:Nat),i+d=ws.length->spec_lxIsWord.l0 (d+1) s ws (ws.length:Int) (i:Int)=some ((ws.drop i).any (fun x=>bytesOf x==bytesOf s)):=by
 intro d
 induction d with
 |zero=>
  intro i hi;simp only[spec_lxIsWord.l0];rw[if_neg (by omega),List.drop_of_length_le (by omega)]
  rfl
 |succ d ih=>
  intro i hi;have hl:i<ws.length:=by omega
  rw[spec_lxIsWord.l0];rw[if_pos (by omega),if_pos (by omega),if_pos (by omega),IntWalk.wrap64_in _ (by omega)];have e1:rdOf ByteArray.empty ws (i:Int)=ws[i]:=by simp[rdOf,hl]
  rw[e1,List.drop_eq_getElem_cons hl,List.any_cons]
  by_cases h:ws[i].toList=s.toList
  ·rw[if_pos h]
   have:=toList_iff.1 h;simp[this]
  ·rw[if_neg h]
   have h2:¬bytesOf ws[i]=bytesOf s:=fun e=>h (toList_iff.2 e)
   have:=ih (i+1) (by omega);rw[Int.natCast_add,Int.natCast_one] at this;rw[this];simp[h2]
def isw(s:ByteArray):Bool:=wordsL.any (fun x=>x==bytesOf s)
theorem isWord_q(s:ByteArray)(w:World):Calls Tryz.prog 105 #[.string s] w fun e w'=>e = .returned (.bool (isw s))/\Below w.heap.size w w':=by
 obtain⟨ws,h1,h2⟩:=words_ok;refine spec_lxIsWord.calls (ws.length+1) s _ w ?_;have hl:ws.length=21:=by rw[<-List.length_map (f:=bytesOf),h2];rfl
 unfold spec_lxIsWord.f;rw[h1];simp only[Option.bind_some];have:=isWord_l0 (s:=s) (ws:=ws) (by omega) ws.length 0 (by omega);rw[Int.natCast_zero] at this;rw[this,List.drop_zero];unfold isw;rw[<-h2,List.any_map]
 rfl
def isDg(x:Int):Bool:=decide (48<=x)&&decide (x<=57)
def isLt(x:Int):Bool:=(decide (97<=x)&&decide (x<=122))||(decide (65<=x)&&decide (x<=90))||x==95
def isWy(x:Int):Bool:=isLt x||isDg x
def Ident(l:List Int):Prop:=∃x r,l=x::r/\isLt x=true/\∀y∈r,isWy y=true
def WT(k:Int)(s:List Int):Prop:=(k=1/\Ident s/\s∉wordsL/\s≠gotoL)\/(k=2/\s∈wordsL)\/(k=3/\s∈signsL)\/(k=4/\NumT s)\/k=5
theorem isw_iff{s:ByteArray}:isw s=true↔bytesOf s∈wordsL:=by
 unfold isw;simp
end Go.Proofs.YtoimaaonloibfaaGreatDoor.Wf
namespace Go.Proofs.YtoimaaonloibfaaGreatDoor.Tk
open Go.RowKit W1 W2 PF Wf
structure Sk where
 B:Nat
 g:Nat
 d:Nat
 row:Nat
 sr:Nat
 t:ByteArray
 pe:Addr
def Sk.S(k:Sk)(x:Nat):Prop:=x=k.g\/x=k.d\/x=k.row\/x=k.sr
def Sk.D(k:Sk)(x:Nat):Prop:=x=k.d\/x=k.row\/x=k.sr
theorem Sk.DS{k:Sk}{x:Nat}(h:k.D x):k.S x:= .inr h
def Sk.ev(k:Sk):Value:= .iface 181 (.pointer (some k.pe))
structure Env(w:World)(k:Sk):Prop where
 n:k.t.size<=2000
 b:∀x,k.S x->k.B<=x
 b2:12<k.B
 e:w.cell? ⟨2,0,none⟩=some (.iface 181 (.pointer (some k.pe)))
 lt:k.B<=w.heap.size
structure Kf(w w':World)(k:Sk):Prop where
 b:Below k.B w w'
 k:Kept w w' k.D
structure Bf(w:World)(k:Sk)(i r n:Nat)(er:Value)(lb lr:Int):Prop where
 d:w.heap[k.d]? = some (.cells #[.slice (some ⟨k.row,0,none⟩) 4096 4096,.iface 54 (.pointer (some ⟨k.sr,0,none⟩)),.int .i64 (r:Int),.int .i64 (n:Int),er,.int .i64 lb,.int .i64 lr] 119 (0,0))
 r:∃A:Array Value,w.heap[k.row]? = some (.cells A 5 (0,0))/\A.size=4096/\∀j,j<i->A[j]? = some (.int .u8 (bt k.t (j:Int)))
 s:∃pv:Int,w.heap[k.sr]? = some (.cells #[.string k.t,.int .i64 (i:Int),.int .i64 pv] 91 (0,0))
section
variable {w w1 w2:World} {k:Sk} {i r n:Nat} {er:Value} {lb lr:Int}
theorem Kf.refl(w:World)(k:Sk):Kf w w k:=⟨bR _ _,Kept.refl _ _⟩
theorem Kf.trans(h:Kf w w1 k)(h2:Kf w1 w2 k):Kf w w2 k:=⟨h.b.trans h2.b,h.k.then_ h2.k (fun _ hx=> .inl hx)⟩
theorem Kf.drewN(h:Kf w w1 k)(m:Nat):Kf w (w1.drewN m) k:=⟨pD h.b m,h.k.drewN m⟩
theorem Kf.set(h:Kf w w1 k)(hE:Env w2 k){p:Addr}(hp:k.D p.block)(u:Value):Kf w (w1.setCell p u) k:=⟨h.b.setCell (hE.b _ (Sk.DS hp)) u,h.k.setCell (.inl hp) u⟩
theorem Kf.setRow(h:Kf w w1 k)(hE:Env w2 k){g:Nat}(hp:k.D g)(A:Array Value):Kf w (w1.setRow g A) k:=
 ⟨h.b.trans ⟨rfl,rfl,rfl,by simp[World.setRow],fun j hj=>setRow_other w1 g j A (by have:=hE.b g (Sk.DS hp);omega)⟩,h.k.then_ (S2:=k.D) ⟨by simp[World.setRow],fun j hj hn=>setRow_other w1 g j A (by rintro rfl;exact hn hp)⟩ (fun _ hx=> .inl hx)⟩
theorem Env.on(h:Env w k)(hb:Below k.B w w1):Env w1 k:=⟨h.n,h.b,h.b2,(hb.cell (by have:=h.b2;show 2<k.B;omega)).trans h.e,Nat.le_trans h.lt hb.size⟩
theorem Bf.c0(h:Bf w k i r n er lb lr):w.cell? ⟨k.d,0,none⟩=some (.slice (some ⟨k.row,0,none⟩) 4096 4096):=bC h.d 0
theorem Bf.c1(h:Bf w k i r n er lb lr):w.cell? ⟨k.d,1,none⟩=some (.iface 54 (.pointer (some ⟨k.sr,0,none⟩))):=bC h.d 1
theorem Bf.c2(h:Bf w k i r n er lb lr):w.cell? ⟨k.d,2,none⟩=some (.int .i64 (r:Int)):=bC h.d 2
theorem Bf.c3(h:Bf w k i r n er lb lr):w.cell? ⟨k.d,3,none⟩=some (.int .i64 (n:Int)):=bC h.d 3
theorem Bf.c4(h:Bf w k i r n er lb lr):w.cell? ⟨k.d,4,none⟩=some er:=bC h.d 4
theorem Bf.c5(h:Bf w k i r n er lb lr):w.cell? ⟨k.d,5,none⟩=some (.int .i64 lb):=bC h.d 5
theorem Bf.c6(h:Bf w k i r n er lb lr):w.cell? ⟨k.d,6,none⟩=some (.int .i64 lr):=bC h.d 6
theorem Bf.f(h:Bf w k i r n er lb lr)(j:Nat):w.frozen? ⟨k.d,j,none⟩=false:=bF h.d j
theorem Bf.dr(h:Bf w k i r n er lb lr):k.row≠k.d:=by
 obtain⟨A,hA,_⟩:=h.r;intro e;rw[e,h.d] at hA;simp at hA
theorem Bf.ds(h:Bf w k i r n er lb lr):k.sr≠k.d:=by
 obtain⟨A,hA⟩:=h.s;intro e;rw[e,h.d] at hA;simp at hA
theorem Bf.rs(h:Bf w k i r n er lb lr):k.sr≠k.row:=by
 obtain⟨A,hA,_⟩:=h.r;obtain⟨p,hp⟩:=h.s;intro e;rw[e,hA] at hp;simp at hp
theorem Bf.drewN(h:Bf w k i r n er lb lr)(m:Nat):Bf (w.drewN m) k i r n er lb lr:=⟨h.d,h.r,h.s⟩
theorem Bf.drew(h:Bf w k i r n er lb lr):Bf w.drew k i r n er lb lr:=⟨h.d,h.r,h.s⟩
theorem Kf.drew(h:Kf w w1 k):Kf w w1.drew k:=⟨h.b.drew,h.k.drew⟩
theorem Bf.onD(h:Bf w k i r n er lb lr)(j:Nat)(u:Value){r' n':Nat}{er':Value}{lb' lr':Int}(hd:(w.setCell ⟨k.d,j,none⟩ u).heap[k.d]? = some (.cells #[.slice (some ⟨k.row,0,none⟩) 4096 4096,.iface 54 (.pointer (some ⟨k.sr,0,none⟩)),.int .i64 (r':Int),.int .i64 (n':Int),er',.int .i64 lb',.int .i64 lr'] 119 (0,0))):Bf (w.setCell ⟨k.d,j,none⟩ u) k i r' n' er' lb' lr':=by
 refine⟨hd,?_,?_⟩
 ·obtain⟨A,h1,h2,h3⟩:=h.r
  exact⟨A,(Below.heap_setCell _ _ _ _ h.dr).trans h1,h2,h3⟩
 ·obtain⟨p,h1⟩:=h.s
  exact⟨p,(Below.heap_setCell _ _ _ _ h.ds).trans h1⟩
theorem Bf.s2(h:Bf w k i r n er lb lr)(x:Nat):Bf (w.setCell ⟨k.d,2,none⟩ (.int .i64 (x:Int))) k i x n er lb lr:=h.onD 2 _ (blk_set h.d 2 _)
theorem Bf.s3(h:Bf w k i r n er lb lr)(x:Nat):Bf (w.setCell ⟨k.d,3,none⟩ (.int .i64 (x:Int))) k i r x er lb lr:=h.onD 3 _ (blk_set h.d 3 _)
theorem Bf.s4(h:Bf w k i r n er lb lr)(u:Value):Bf (w.setCell ⟨k.d,4,none⟩ u) k i r n u lb lr:=h.onD 4 _ (blk_set h.d 4 _)
theorem Bf.s5(h:Bf w k i r n er lb lr)(x:Int):Bf (w.setCell ⟨k.d,5,none⟩ (.int .i64 x)) k i r n er x lr:=h.onD 5 _ (blk_set h.d 5 _)
theorem Bf.s6(h:Bf w k i r n er lb lr)(x:Int):Bf (w.setCell ⟨k.d,6,none⟩ (.int .i64 x)) k i r n er lb x:=h.onD 6 _ (blk_set h.d 6 _)
theorem Sk.Sd(k:Sk):k.D k.d:= .inl rfl
theorem Sk.Sg(k:Sk):k.S k.g:= .inl rfl
theorem Sk.Sr(k:Sk):k.D k.row:= .inr (.inl rfl)
theorem Sk.Ss(k:Sk):k.D k.sr:= .inr (.inr rfl)
end
set_option maxRecDepth 10000 in
theorem readErr_q(w:World)(k:Sk)(i r n:Nat)(er:Value)(her:er = .nilIface\/er=k.ev)(lb lr:Int)(hE:Env w k)(h:Bf w k i r n er lb lr):Calls Tryz.prog 135 #[.pointer (some ⟨k.d,0,none⟩)] w fun e w'=>e = .returned er/\Bf w' k i r n .nilIface lb lr/\Kf w w' k:=by
 have c4:=h.c4;have f4:=h.f 4;have HE:=aM hE;have HH:=aM h;clear h hE;rcases her with rfl|rfl
 ·go_enter Tryz.func135,Tryz.ntmps135
  go_wp2
  go_ret;exact⟨rfl,HH.out.s4 _,(Kf.refl _ _).set HE.out k.Sd _⟩
 ·unfold Sk.ev at c4|-
  go_enter Tryz.func135,Tryz.ntmps135
  go_wp2
  go_ret;exact⟨rfl,HH.out.s4 _,(Kf.refl _ _).set HE.out k.Sd _⟩
theorem Bf.sc{w:World}{k:Sk}{i r n:Nat}{er:Value}{lb lr:Int}(h:Bf w k i r n er lb lr):∃pv:Int,w.cell? ⟨k.sr,0,none⟩=some (.string k.t)/\w.cell? ⟨k.sr,1,none⟩=some (.int .i64 (i:Int))/\w.cell? ⟨k.sr,2,none⟩=some (.int .i64 pv)/\∀j,w.frozen? ⟨k.sr,j,none⟩=false:=by
 obtain⟨p,hp⟩:=h.s;exact⟨p,bC hp 0,bC hp 1,bC hp 2,fun j=>bF hp j⟩
set_option maxRecDepth 10000 in
theorem read_end(w:World)(k:Sk)(i r n:Nat)(er:Value)(lb lr:Int)(hE:Env w k)(h:Bf w k i r n er lb lr)(hi:k.t.size<=i)(hi2:i<=2000)(dst:Value):Calls Tryz.prog 195 #[.pointer (some ⟨k.sr,0,none⟩),dst] w fun e w'=>e = .returned (.tuple #[.int .i64 0,k.ev])/\Bf w' k i r n er lb lr/\Kf w w' k:=by
 obtain⟨pv,c0,c1,c2,f⟩:=h.sc;have HE:=aM hE;have HH:=aM h;have e0:=hE.e;have hiI:(k.t.size:Int)<=(i:Int):=by omega
 clear h hE;unfold Sk.ev;go_enter Tryz.func195,Tryz.ntmps195
 go_wp2_with fail
 go_quiet (fail)
 go_wp2_with fail
 go_quiet (fail)
 go_wp2_with fail
 go_ret2
 exact⟨rfl,(HH.out.drewN _).drewN _,((Kf.refl _ _).drewN _).drewN _⟩
theorem Bf.prev{w:World}{k:Sk}{i r n:Nat}{er:Value}{lb lr:Int}(h:Bf w k i r n er lb lr)(x:Int):Bf (w.setCell ⟨k.sr,2,none⟩ (.int .i64 x)) k i r n er lb lr:=by
 refine⟨(Below.heap_setCell _ _ _ _ h.ds.symm).trans h.d,?_,?_⟩
 ·obtain⟨A,h1,h2,h3⟩:=h.r
  exact⟨A,(Below.heap_setCell _ _ _ _ h.rs.symm).trans h1,h2,h3⟩
 ·obtain⟨p,h1⟩:=h.s
  exact⟨x,blk_set h1 2 _⟩
theorem cells_bt(t:ByteArray)(A:Array Value)(j:Nat)(hj:j<t.size):(A.toList.take 0++Lib.byteCells t.data.toList++A.toList.drop (0+t.size)).toArray[j]? = some (.int .u8 (bt t (j:Int))):=by
 have hl:(Lib.byteCells t.data.toList).length=t.size:=by rw[Lib.byteCells_length,<-Lib.size_eq]
 have hb:(bytesOf t)[j]? = some (bt t (j:Int)):=by
  have h1:j<(bytesOf t).length:=by rw[bytesOf_length];exact hj
  have:=rd_bytesOf t (j:Int);unfold rd at this;rw[<-this,List.getElem?_eq_getElem h1];simp[h1]
 have hc:Lib.byteCells t.data.toList=(bytesOf t).map (fun x=>Value.int .u8 x):=by
  unfold Lib.byteCells bytesOf;simp
 rw[List.getElem?_toArray,List.take_zero,List.nil_append,List.getElem?_append_left (by omega),hc,List.getElem?_map,hb]
 rfl
theorem Bf.fill{w:World}{k:Sk}{er:Value}{lb lr:Int}(h:Bf w k 0 0 0 er lb lr)(hn:k.t.size<=2000){A:Array Value}(hA:w.heap[k.row]? = some (.cells A 5 (0,0))):
  Bf ((w.setRow k.row (A.toList.take 0++Lib.byteCells k.t.data.toList++A.toList.drop (0+k.t.size)).toArray).setCell ⟨k.sr,1,none⟩ (.int .i64 (k.t.size:Int))) k k.t.size 0 0 er lb lr:=by
 have hl:(Lib.byteCells k.t.data.toList).length=k.t.size:=by rw[Lib.byteCells_length,<-Lib.size_eq]
 have hAs:A.size=4096:=by
  obtain⟨A',h1,h2,_⟩:=h.r;rw[hA] at h1;simp only[Option.some.injEq,Obj.cells.injEq] at h1;rw[h1.1];exact h2
 refine⟨(Below.heap_setCell _ _ _ _ h.ds.symm).trans ((setRow_other _ _ _ _ h.dr.symm).trans h.d),⟨_,(Below.heap_setCell _ _ _ _ h.rs.symm).trans (setRow_heap _ _ _ _ _ _ hA),?_,fun j hj=>cells_bt k.t A j hj⟩,?_⟩
 ·simp[hl,hAs]
  omega
 ·obtain⟨p,h1⟩:=h.s
  exact⟨p,blk_set ((setRow_other _ _ _ _ h.rs).trans h1) 1 _⟩
set_option maxRecDepth 10000 in
theorem read_first(w:World)(k:Sk)(er:Value)(lb lr:Int)(hE:Env w k)(h:Bf w k 0 0 0 er lb lr)(hs:0<k.t.size):Calls Tryz.prog 195 #[.pointer (some ⟨k.sr,0,none⟩),.slice (some ⟨k.row,0,none⟩) 4096 4096] w fun e w'=>e = .returned (.tuple #[.int .i64 (k.t.size:Int),.nilIface])/\Bf w' k k.t.size 0 0 er lb lr/\Kf w w' k:=by
 obtain⟨pv,c0,c1,c2,f⟩:=h.sc;have HE:=aM hE;have HH:=aM h;have hsI:¬k.t=ByteArray.empty:=by rintro e;rw[e] at hs;exact absurd hs (by decide)
 have hn:=hE.n;clear h hE;go_enter Tryz.func195,Tryz.ntmps195
 go_wp2_with fail
 go_quiet (fail)
 go_wp2_with fail;obtain⟨A,hA,hAs,_⟩:=HH.out.r;go_upto_region 4 with(fail)
 have HH1:=aM ((HH.out.drewN nq).prev (-1));have HK1:=aM (((Kf.refl w k).drewN nq).set HE.out k.Ss (p:=⟨k.sr,2,none⟩) (.int .i64 (-1)));have hA1:((w.drewN nq).setCell ⟨k.sr,2,none⟩ (.int .i64 (-1))).heap[k.row]? = some (.cells A 5 (0,0)):=(Below.heap_setCell _ _ _ _ HH.out.rs.symm).trans hA;generalize (w.drewN nq).setCell ⟨k.sr,2,none⟩ (.int .i64 (-1))=w1 at HH1 HK1 hA1|-;obtain⟨pv1,d0,d1,d2,f1⟩:=HH1.out.sc;have d1':w1.cell? ⟨k.sr,1,none⟩=some (.int .i64 0):=d1;clear c0 c1 c2 f d1;have hw2:=aM (Bf.fill (HH1.out.drew) hn hA1);have HK2:=aM ((HK1.out.drew.setRow HE.out k.Sr (A.toList.take 0++Lib.byteCells k.t.data.toList++A.toList.drop (0+k.t.size)).toArray).set HE.out k.Ss (p:=⟨k.sr,1,none⟩) (.int .i64 (k.t.size:Int)));have hcp:=Lib.run_copy_row_string (P:=Tryz.prog) w1.drew 41 9 3 5 k.row 0 4096 4096 k.t A 5 (by kernel_rfl) (by kernel_rfl) hA1 (by omega) (by omega);generalize (A.toList.take 0++Lib.byteCells k.t.data.toList++A.toList.drop (0+k.t.size)).toArray=A2 at hcp hw2 HK2;have e1:(w1.drew.setRow k.row A2).cell? ⟨k.sr,1,none⟩=some (.int .i64 0):=(World.cell?_of_block (w:=w1) (setRow_other w1 k.row k.sr A2 (HH.out.rs))).trans d1';have e2:(w1.drew.setRow k.row A2).frozen? ⟨k.sr,1,none⟩=false:=(World.frozen?_of_block (w:=w1) (setRow_other w1 k.row k.sr A2 (HH.out.rs))).trans (f1 1)
 go_still_tail 10,(by kernel_rfl)
 go_wp2_with fail
 go_ret2
 exact⟨rfl,hw2.out,HK2.out⟩
theorem me54 (a : Addr) (w : World) : (method 318 54 (.pointer (some a)) "Read").run Tryz.prog w = .ok (195, .pointer (some a)) w := by kernel_rfl
set_option maxRecDepth 10000 in
set_option maxHeartbeats 2000000 in
theorem fill_first(w:World)(k:Sk)(lb lr:Int)(hE:Env w k)(h:Bf w k 0 0 0 .nilIface lb lr)(hs:0<k.t.size):Calls Tryz.prog 136 #[.pointer (some ⟨k.d,0,none⟩)] w fun e w'=>e = .returned (.tuple #[])/\Bf w' k k.t.size 0 k.t.size .nilIface lb lr/\Kf w w' k:=by
 have c0:=h.c0;have c1:=h.c1;have c2:w.cell? ⟨k.d,2,none⟩=some (.int .i64 0):=h.c2;have c3:w.cell? ⟨k.d,3,none⟩=some (.int .i64 0):=h.c3;have HE:=aM hE;have HH:=aM h;have hn:=hE.n;clear h hE;go_enter Tryz.func136,Tryz.ntmps136
 go_wp2_with fail
 go_quiet (fail)
 go_wp2_with fail;have HH1:=aM (HH.out.drewN nq);have HK1:=aM ((Kf.refl w k).drewN nq);clear HH c0 c1 c2 c3;generalize w.drewN nq=w1 at HH1 HK1|-;have c0:=HH1.out.c0;have c1:=HH1.out.c1;have c3:w1.cell? ⟨k.d,3,none⟩=some (.int .i64 0):=HH1.out.c3;go_loopg [2] 0 (fun q v2 wr=>q=0/\v2 = .int .i64 100/\wr=w1)
 case atStart=>exact⟨rfl,rfl,rfl⟩
 case round=>
  obtain⟨rfl,rfl,rfl⟩:=hrel;go_wp2_with fail;go_upto_region 9 with(fail)
  have HD:=aM HH1.out.drew;have d0:=HD.out.c0;have d1:=HD.out.c1;have d3:wr.drew.cell? ⟨k.d,3,none⟩=some (.int .i64 0):=HD.out.c3;have hme:=me54;have HR:=aM (read_first wr.drew k .nilIface lb lr (HE.out.on HK1.out.drew.b) HD.out hs)
  go_region_held3 (fun w'=>w'.cell? ⟨k.d,0,none⟩=some (.slice (some ⟨k.row,0,none⟩) 4096 4096)/\w'.cell? ⟨k.d,1,none⟩=some (.iface 54 (.pointer (some ⟨k.sr,0,none⟩)))/\w'.cell? ⟨k.d,3,none⟩=some (.int .i64 0)) (first|exact⟨d0,d1,d3⟩|exact⟨H2.out.c0,H2.out.c1,H2.out.c3⟩) ((go_at_call 195;refine HR.out.mono ?_;rintro e w5 ⟨rfl,h2,hk2⟩;have H2:=aM h2;have HK2:=aM hk2;clear h2 hk2))
  clear hme d0 d1 d3 HD HR;have s0:((k.t.size:Int)<0)=False:=eq_false (by omega);have s1:(k.t.size:Int)>0:=by omega
  have c3:w5.cell? ⟨k.d,3,none⟩=some (.int .i64 0):=H2.out.c3;have f3:=H2.out.f 3;have qw:IntKind.i64.wrap (0+(k.t.size:Int))=(k.t.size:Int):=by rw[Int.zero_add];exact IntWalk.i64_in _ (by omega)
  go_wp2_with fail;refine bodyPost_ret (results_none rfl _ _ _) rfl ?_;exact⟨rfl,H2.out.s3 _,(HK1.out.drew.trans HK2.out).set HE.out k.Sd _⟩
set_option maxRecDepth 10000 in
set_option maxHeartbeats 2000000 in
theorem fill_endr(w:World)(k:Sk)(i r:Nat)(lb lr:Int)(hE:Env w k)(h:Bf w k i r r .nilIface lb lr)(hi:k.t.size<=i)(hi2:i<=2000)(hr:r<=2000)(h0:¬r=0):Calls Tryz.prog 136 #[.pointer (some ⟨k.d,0,none⟩)] w fun e w'=>e = .returned (.tuple #[])/\Bf w' k i 0 0 k.ev lb lr/\Kf w w' k:=by
 unfold Sk.ev;have c0:=h.c0;have c1:=h.c1;have c2:=h.c2;have c3:=h.c3;have HE:=aM hE;have HH:=aM h;have hn:=hE.n;have r0:(0:Int)<(r:Int):=by omega
 have hcp:=fun w':World=>run_copy_none (P:=Tryz.prog) w' 41 41 3 5 (some ⟨k.row,0,none⟩) (some ⟨k.row,r,none⟩) 4096 4096 0 (4096-r) (by kernel_rfl) (by kernel_rfl) (by simp)
 clear h hE;go_enter Tryz.func136,Tryz.ntmps136
 go_wp2_with fail
 go_quiet (fail)
 go_upto_region 2 with(fail)
 have HH0:=aM (HH.out.drewN nq);have HK0:=aM ((Kf.refl w k).drewN nq);clear HH c0 c1 c2 c3 hcp;generalize w.drewN nq=w0 at HH0 HK0|-;have c2:=HH0.out.drew.c2;have c3:=HH0.out.drew.c3;have f3:=HH0.out.drew.f 3;have qs:IntKind.i64.wrap ((r:Int)-(r:Int))=0:=by rw[Int.sub_self];rfl
 have qz:IntKind.i64.wrap 0=0:=rfl;have f2:=HH0.out.f 2;have g2:=HH0.out.c2
 go_still_tail 9,(by kernel_rfl)
 go_upto_region 4 with(fail)
 have HH1:Aside0 (Bf ((w0.setCell ⟨k.d,3,none⟩ (.int .i64 0)).setCell ⟨k.d,2,none⟩ (.int .i64 0)).drew k i 0 0 .nilIface lb lr):=⟨((HH0.out.s3 0).s2 0).drew⟩;have HK1:Aside0 (Kf w ((w0.setCell ⟨k.d,3,none⟩ (.int .i64 0)).setCell ⟨k.d,2,none⟩ (.int .i64 0)).drew k):=⟨((HK0.out.set HE.out k.Sd (p:=⟨k.d,3,none⟩) (.int .i64 0)).set HE.out k.Sd (p:=⟨k.d,2,none⟩) (.int .i64 0)).drew⟩;clear c2 c3 f3 qs qz f2 g2 HH0 HK0;generalize ((w0.setCell ⟨k.d,3,none⟩ (.int .i64 0)).setCell ⟨k.d,2,none⟩ (.int .i64 0)).drew=w2 at HH1 HK1|-;have c0:=HH1.out.c0;have c3:=HH1.out.c3;go_wp2_with fail
 go_quiet (fail)
 go_wp2_with fail;have HH2:=aM (HH1.out.drewN nq);have HK2:=aM (HK1.out.drewN nq);clear HH1 HK1 c0 c3;generalize w2.drewN nq=w1 at HH2 HK2|-;have HH1:=HH2;have HK1:=HK2;clear HH2 HK2;have c0:=HH1.out.c0;have c1:=HH1.out.c1;have c3:w1.cell? ⟨k.d,3,none⟩=some (.int .i64 0):=HH1.out.c3;go_loopg [2] 0 (fun q v2 wr=>q=0/\v2 = .int .i64 100/\wr=w1)
 case atStart=>exact⟨rfl,rfl,rfl⟩
 case round=>
  obtain⟨rfl,rfl,rfl⟩:=hrel;go_wp2_with fail;go_upto_region 9 with(fail)
  have HD:=aM HH1.out.drew;have d0:=HD.out.c0;have d1:=HD.out.c1;have d3:wr.drew.cell? ⟨k.d,3,none⟩=some (.int .i64 0):=HD.out.c3;have hme:=me54;have HR:=aM (read_end wr.drew k i 0 0 .nilIface lb lr (HE.out.on HK1.out.drew.b) HD.out hi hi2 (.slice (some ⟨k.row,0,none⟩) 4096 4096));unfold Sk.ev at HR
  go_region_held3 (fun w'=>w'.cell? ⟨k.d,0,none⟩=some (.slice (some ⟨k.row,0,none⟩) 4096 4096)/\w'.cell? ⟨k.d,1,none⟩=some (.iface 54 (.pointer (some ⟨k.sr,0,none⟩)))/\w'.cell? ⟨k.d,3,none⟩=some (.int .i64 0)) (first|exact⟨d0,d1,d3⟩|exact⟨H2.out.c0,H2.out.c1,H2.out.c3⟩) ((go_at_call 195;refine HR.out.mono ?_;rintro e w5 ⟨rfl,h2,hk2⟩;have H2:=aM h2;have HK2:=aM hk2;clear h2 hk2))
  clear hme d0 d1 d3 HD HR;have c3:w5.cell? ⟨k.d,3,none⟩=some (.int .i64 0):=H2.out.c3;have f3:=H2.out.f 3;have f4:=H2.out.f 4;have c4:=H2.out.c4;go_wp2_with fail;refine bodyPost_ret (results_none rfl _ _ _) rfl ?_;exact⟨rfl,(H2.out.s3 0).s4 _,((HK1.out.drew.trans HK2.out).set HE.out k.Sd _).set HE.out k.Sd _⟩
set_option maxRecDepth 10000 in
set_option maxHeartbeats 2000000 in
theorem fill_end(w:World)(k:Sk)(i r:Nat)(lb lr:Int)(hE:Env w k)(h:Bf w k i r r .nilIface lb lr)(hi:k.t.size<=i)(hi2:i<=2000)(hr:r<=2000):Calls Tryz.prog 136 #[.pointer (some ⟨k.d,0,none⟩)] w fun e w'=>e = .returned (.tuple #[])/\Bf w' k i 0 0 k.ev lb lr/\Kf w w' k:=by
 by_cases h0:r=0
 ·subst h0
  unfold Sk.ev;have c0:=h.c0;have c1:=h.c1;have c2:w.cell? ⟨k.d,2,none⟩=some (.int .i64 0):=h.c2;have c3:w.cell? ⟨k.d,3,none⟩=some (.int .i64 0):=h.c3;have HE:=aM hE;have HH:=aM h;have hn:=hE.n;clear h hE;go_enter Tryz.func136,Tryz.ntmps136
  go_wp2_with fail
  go_quiet (fail)
  go_wp2_with fail;have HH1:=aM (HH.out.drewN nq);have HK1:=aM ((Kf.refl w k).drewN nq);clear HH c0 c1 c2 c3;generalize w.drewN nq=w1 at HH1 HK1|-;have c0:=HH1.out.c0;have c1:=HH1.out.c1;have c3:w1.cell? ⟨k.d,3,none⟩=some (.int .i64 0):=HH1.out.c3;go_loopg [2] 0 (fun q v2 wr=>q=0/\v2 = .int .i64 100/\wr=w1)
  case atStart=>exact⟨rfl,rfl,rfl⟩
  case round=>
   obtain⟨rfl,rfl,rfl⟩:=hrel;go_wp2_with fail;go_upto_region 9 with(fail)
   have HD:=aM HH1.out.drew;have d0:=HD.out.c0;have d1:=HD.out.c1;have d3:wr.drew.cell? ⟨k.d,3,none⟩=some (.int .i64 0):=HD.out.c3;have hme:=me54;have HR:=aM (read_end wr.drew k i 0 0 .nilIface lb lr (HE.out.on HK1.out.drew.b) HD.out hi hi2 (.slice (some ⟨k.row,0,none⟩) 4096 4096));unfold Sk.ev at HR
   go_region_held3 (fun w'=>w'.cell? ⟨k.d,0,none⟩=some (.slice (some ⟨k.row,0,none⟩) 4096 4096)/\w'.cell? ⟨k.d,1,none⟩=some (.iface 54 (.pointer (some ⟨k.sr,0,none⟩)))/\w'.cell? ⟨k.d,3,none⟩=some (.int .i64 0)) (first|exact⟨d0,d1,d3⟩|exact⟨H2.out.c0,H2.out.c1,H2.out.c3⟩) ((go_at_call 195;refine HR.out.mono ?_;rintro e w5 ⟨rfl,h2,hk2⟩;have H2:=aM h2;have HK2:=aM hk2;clear h2 hk2))
   clear hme d0 d1 d3 HD HR;have c3:w5.cell? ⟨k.d,3,none⟩=some (.int .i64 0):=H2.out.c3;have f3:=H2.out.f 3;have f4:=H2.out.f 4;have c4:=H2.out.c4;go_wp2_with fail;refine bodyPost_ret (results_none rfl _ _ _) rfl ?_;exact⟨rfl,(H2.out.s3 0).s4 _,((HK1.out.drew.trans HK2.out).set HE.out k.Sd _).set HE.out k.Sd _⟩
 ·exact fill_endr w k i r lb lr hE h hi hi2 hr h0
def Fm(k:Sk)(i r n:Nat)(l:List Int):Prop:=(i=0/\r=0/\n=0/\l=bytesOf k.t)\/(i=k.t.size/\n=k.t.size/\r<=n/\l=(bytesOf k.t).drop r)\/(i=k.t.size/\r=0/\n=0/\l=[])
theorem bt_list(t:ByteArray)(r:Nat)(c:Int)(l:List Int)(h:(bytesOf t).drop r=c::l):r<t.size/\bt t (r:Int)=c/\(bytesOf t).drop (r+1)=l:=by
 have hr:r<(bytesOf t).length:=by
  rcases Nat.lt_or_ge r (bytesOf t).length with h2|h2
  ·exact h2
  ·rw[List.drop_of_length_le h2] at h
   cases h
 have h3:=hr;rw[bytesOf_length] at hr;rw[List.drop_eq_getElem_cons h3] at h;simp only[List.cons.injEq] at h;refine⟨hr,?_,h.2⟩;have:=rd_bytesOf t (r:Int);unfold rd at this;rw[<-this,<-h.1];simp[h3]
theorem Bf.rb{w:World}{k:Sk}{i r n:Nat}{er:Value}{lb lr:Int}(h:Bf w k i r n er lb lr)(j:Nat)(hj:j<i):w.cell? ⟨k.row,j,none⟩=some (.int .u8 (bt k.t (j:Int)))/\∀q,w.frozen? ⟨k.row,q,none⟩=false:=by
 obtain⟨A,h1,h2,h3⟩:=h.r;exact⟨by rw[Lib.cell_of_heap h1];exact h3 j hj,fun q=>bF h1 q⟩
set_option maxRecDepth 100000 in
set_option maxHeartbeats 2000000 in
theorem readByte_c(w:World)(k:Sk)(i r n:Nat)(lb lr:Int)(hE:Env w k)(h:Bf w k i r n .nilIface lb lr)(hf:(i=k.t.size/\n=k.t.size/\r<n)\/(i=0/\r=0/\n=0/\0<k.t.size)):Calls Tryz.prog 110 #[.pointer (some ⟨k.d,0,none⟩)] w fun e w'=>e = .returned (.tuple #[.int .u8 (bt k.t (r:Int)),.nilIface])/\Bf w' k k.t.size (r+1) k.t.size .nilIface (bt k.t (r:Int)) (-1)/\Kf w w' k:=by
 have HE:=aM hE;have HH:=aM (h.s6 (-1));have HK:=aM ((Kf.refl w k).set hE k.Sd (p:=⟨k.d,6,none⟩) (.int .i64 (-1)));have HF:=aM hf;have hn:=hE.n;have c6:=h.c6;have f6:=h.f 6;clear h hE hf;go_enter Tryz.func110,Tryz.ntmps110
 go_upto_region 2 with(fail)
 generalize w.setCell ⟨k.d,6,none⟩ (.int .i64 (-1))=w1 at HH HK|-;clear c6 f6;go_loopg [] 1 (fun q wr=>∃i n:Nat,Aside0 (Bf wr k i r n .nilIface lb (-1))/\Aside0 (Kf w wr k)/\Aside0 ((i=k.t.size/\n=k.t.size/\r<n)\/(q=1/\i=0/\r=0/\n=0/\0<k.t.size)))
 case atStart=>
  rcases HF.out with⟨a1,a2,a3⟩|⟨a1,a2,a3,a4⟩
  ·exact⟨i,n,HH,HK,⟨.inl ⟨a1,a2,a3⟩⟩⟩
  ·exact⟨i,n,HH,HK,⟨.inr ⟨rfl,a1,a2,a3,a4⟩⟩⟩
 case round=>
  obtain⟨i,n,HB,HK2,HF2⟩:=hrel;have c2:=HB.out.c2;have c3:=HB.out.c3;rcases HF2.out with⟨hi,hn2,hr⟩|⟨q0,hi,hr,hn2,hz⟩
  ·have hrn:((r:Int)==(n:Int))=false:=beq_eq_false_iff_ne.mpr (by omega)
   clear HF2 HF HH HK;go_wp2_with fail
   go_quiet (fail)
   have HB2:=aM (HB.out.drewN nq);have HK3:=aM (HK2.out.drewN nq);clear HB HK2 c2 c3;generalize wr.drewN nq=w2 at HB2 HK3|-;have HB:=HB2;have HK2:=HK3;have c2:=HB2.out.c2;clear HB2 HK3;have c0:=HB.out.c0;have f2:=HB.out.f 2;have f5:=HB.out.f 5;have c5:=HB.out.c5;obtain⟨hx,_⟩:=HB.out.rb r (by omega);have r0:(0:Int)<=(r:Int):=by omega
   have r1:(r:Int)<4096:=by omega
   have r2:((r:Int)).toNat=r:=by omega
   have q1:IntKind.i64.wrap ((r:Int)+1)=((r+1:Nat):Int):=by rw[IntWalk.i64_in _ (by omega)];omega
   generalize hc:bt k.t (r:Int)=c at hx|-;have HC:=aM hc;clear hc;have hc0:0<=c/\c<=255:=by rw[<-HC.out];exact bt_range _ _
   go_wp2_with fail
   go_quiet (fail)
   go_wp2_with fail
   go_ret2
   rw[HC.out];subst hi;have hfin:=((HB.out.drewN nq).s2 (r+1)).s5 c;rw[hn2] at hfin;exact⟨rfl,hfin,((HK2.out.drewN _).set HE.out k.Sd _).set HE.out k.Sd _⟩
  ·subst hi
   subst hr;subst hn2;have c4:=HB.out.c4;clear HF2 HF HH HK;have hrn:(((0:Nat):Int)==((0:Nat):Int))=true:=rfl;go_wp2_with fail
   go_quiet (fail)
   have HR:=aM (fill_first (wr.drewN nq) k lb (-1) (HE.out.on (HK2.out.drewN nq).b) (HB.out.drewN nq) hz);go_wp2_with (go_at_call 136;refine HR.out.mono ?_;rintro e w5 ⟨rfl,h5,k5⟩;have H5:=aM h5;have K5:=aM k5;clear h5 k5)
   go_roundg 0
   case measure=>omega
   case rel=>exact⟨_,_,H5,⟨(HK2.out.drewN _).trans K5.out⟩,⟨.inl ⟨rfl,rfl,hz⟩⟩⟩
set_option maxRecDepth 100000 in
set_option maxHeartbeats 2000000 in
theorem readByte_e(w:World)(k:Sk)(i r:Nat)(lb lr:Int)(hE:Env w k)(h:Bf w k i r r .nilIface lb lr)(hi:k.t.size<=i)(hi2:i<=2000)(hr:r<=2000):Calls Tryz.prog 110 #[.pointer (some ⟨k.d,0,none⟩)] w fun e w'=>e = .returned (.tuple #[.int .u8 0,.iface 181 (.pointer (some k.pe))])/\Bf w' k i 0 0 .nilIface lb (-1)/\Kf w w' k:=by
 have HE:=aM hE;have HH:=aM (h.s6 (-1));have HK:=aM ((Kf.refl w k).set hE k.Sd (p:=⟨k.d,6,none⟩) (.int .i64 (-1)));have hn:=hE.n;have c6:=h.c6;have f6:=h.f 6;clear h hE;go_enter Tryz.func110,Tryz.ntmps110
 go_upto_region 2 with(fail)
 generalize w.setCell ⟨k.d,6,none⟩ (.int .i64 (-1))=w1 at HH HK|-;clear c6 f6;go_loopg [] 1 (fun q wr=>Aside0 (Kf w wr k)/\((q=1/\Aside0 (Bf wr k i r r .nilIface lb (-1)))\/Aside0 (Bf wr k i 0 0 (.iface 181 (.pointer (some k.pe))) lb (-1))))
 case atStart=>exact⟨HK,.inl ⟨rfl,HH⟩⟩
 case round=>
  obtain⟨HK2,hrel⟩:=hrel;clear HH HK;rcases hrel with⟨q0,HB⟩|HB
  ·have c2:=HB.out.c2
   have c3:=HB.out.c3;have c4:=HB.out.c4;have hrn:((r:Int)==(r:Int))=true:=by simp
   go_wp2_with fail
   go_quiet (fail)
   have HR:=aM (fill_end (wr.drewN nq) k i r lb (-1) (HE.out.on (HK2.out.drewN nq).b) (HB.out.drewN nq) hi hi2 hr);unfold Sk.ev at HR;go_wp2_with (go_at_call 136;refine HR.out.mono ?_;rintro e w5 ⟨rfl,h5,k5⟩;have H5:=aM h5;have K5:=aM k5;clear h5 k5)
   go_roundg 0
   case measure=>omega
   case rel=>exact⟨⟨(HK2.out.drewN _).trans K5.out⟩,.inr H5⟩
  ·have c2:wr.cell? ⟨k.d,2,none⟩=some (.int .i64 0):=HB.out.c2
   have c3:wr.cell? ⟨k.d,3,none⟩=some (.int .i64 0):=HB.out.c3;have c4:=HB.out.c4;go_wp2_with fail
   go_quiet (fail)
   have HR:=aM (readErr_q (wr.drewN nq) k i 0 0 (.iface 181 (.pointer (some k.pe))) (.inr rfl) lb (-1) (HE.out.on (HK2.out.drewN nq).b) (HB.out.drewN nq));go_wp2_with (go_at_call 135;refine HR.out.mono ?_;rintro e w5 ⟨rfl,h5,k5⟩;have H5:=aM h5;have K5:=aM k5;clear h5 k5)
   go_ret2
   exact⟨rfl,H5.out,(HK2.out.drewN _).trans K5.out⟩
theorem Bf.same{w:World}{k:Sk}{i r n:Nat}{er:Value}{lb lr:Int}(h:Bf w k i r n er lb lr)(j:Nat)(hj:j<i):Bf (w.setCell ⟨k.row,j,none⟩ (.int .u8 (bt k.t (j:Int)))) k i r n er lb lr:=by
 refine⟨(Below.heap_setCell _ _ _ _ h.dr.symm).trans h.d,?_,?_⟩
 ·obtain⟨A,h1,h2,h3⟩:=h.r
  refine⟨A.setIfInBounds j (.int .u8 (bt k.t (j:Int))),blk_set h1 j _,by simpa using h2,fun q hq=> ?_⟩;rw[Array.getElem?_setIfInBounds]
  split
  ·rename_i e
   subst e;have:=h3 j hq;have hlt:j<A.size:=(Array.getElem?_eq_some_iff.1 this).1;simp[hlt]
  ·exact h3 q hq
 ·obtain⟨p,h1⟩:=h.s
  exact⟨p,(Below.heap_setCell _ _ _ _ h.rs).trans h1⟩
set_option maxRecDepth 100000 in
set_option maxHeartbeats 2000000 in
theorem unread_q(w:World)(k:Sk)(i r n:Nat)(lr:Int)(hE:Env w k)(h:Bf w k i (r+1) n .nilIface (bt k.t (r:Int)) lr)(hi:r<i)(hn:r<n)(hi2:i<=2000):Calls Tryz.prog 83 #[.pointer (some ⟨k.d,0,none⟩)] w fun e w'=>(∃v,e = .returned v)/\Bf w' k i r n .nilIface (-1) (-1)/\Kf w w' k:=by
 have HE:=aM hE;have HH:=aM h;have c0:=h.c0;have c2:w.cell? ⟨k.d,2,none⟩=some (.int .i64 ((r:Int)+1)):=h.c2;have c3:=h.c3;have c5:=h.c5;have c6:=h.c6;have f2:=h.f 2;have f5:=h.f 5;have f6:=h.f 6;obtain⟨hx,hfx⟩:=h.rb r hi;have fx:=hfx r;obtain⟨hb0,hb1⟩:=bt_range k.t (r:Int);have b0:¬bt k.t (r:Int)<0:=by omega
 have b1:(((r:Int)+1)==0)=false:=beq_eq_false_iff_ne.mpr (by omega);have b2:((r:Int)+1)>0:=by omega
 have q1:IntKind.i64.wrap ((r:Int)+1-1)=(r:Int):=by rw[show(r:Int)+1-1=r by omega,IntWalk.i64_in _ (by omega)]
 have r0:(0:Int)<=(r:Int):=by omega
 have r1:(r:Int)<4096:=by omega
 have r2:((r:Int)).toNat=r:=by omega
 clear h hE hfx;go_enter Tryz.func83,Tryz.ntmps83
 go_wp2_with fail;have HB1:=aM (HH.out.s2 r);have HK1:=aM ((Kf.refl w k).set HE.out k.Sd (p:=⟨k.d,2,none⟩) (.int .i64 (r:Int)));clear HH c0 c2 c3 c5 c6 f2 f5 f6 hx fx;generalize w.setCell ⟨k.d,2,none⟩ (.int .i64 (r:Int))=w1 at HB1 HK1|-;have c0:=HB1.out.c0;have c2:=HB1.out.c2;have c5:=HB1.out.c5;have c6:=HB1.out.c6;have f5:=HB1.out.f 5;have f6:=HB1.out.f 6;obtain⟨hx,hfx⟩:=HB1.out.rb r hi;have fx:=hfx r;clear hfx;have hdr:=HB1.out.dr;have hdr2:¬k.d=k.row:=fun e=>hdr e.symm
 have HB2:=aM (((HB1.out.same r hi).s5 (-1)).s6 (-1));have HK2:=aM (((HK1.out.set HE.out k.Sr (p:=⟨k.row,r,none⟩) (.int .u8 (bt k.t (r:Int)))).set HE.out k.Sd (p:=⟨k.d,5,none⟩) (.int .i64 (-1))).set HE.out k.Sd (p:=⟨k.d,6,none⟩) (.int .i64 (-1)));generalize bt k.t (r:Int)=c at *;have cv:IntKind.u8.wrap c=c:=IntWalk.u8_in _ (by omega)
 go_still_tail 14,(by kernel_rfl)
 go_wp2_with fail;go_ret;exact⟨⟨_,rfl⟩,HB2.out.drew,HK2.out.drew⟩
end Go.Proofs.YtoimaaonloibfaaGreatDoor.Tk
