/- FnTokensSpaced (part 7): joined texts of this seat: Rm, Re, Rf, Rj, Rk. -/
import Derived.Test.YtoimaaonloibfaaGreatDoorG06
set_option linter.unusedVariables false
set_option linter.unusedSimpArgs false
set_option linter.constructorNameAsVariable false
set_option linter.unnecessarySimpa false
namespace Go.Proofs.YtoimaaonloibfaaGreatDoor.Pa
open Go.RowKit W1 W2 PF Wf Lx Rg
attribute [local go_sem] run_store_float fld49_0 fld49_1 fld49_3
def pHead(i:Nat)(LL:List ByteArray):List ByteArray:=if i=0 then LL else LL++[(⟨#[44]⟩:ByteArray)]
theorem list_of:∀(n:Nat) (vs:List Value),vs.length=n->vs=(List.range n).map fun j=>vs.getD j undef:=by
 intro n vs h;subst h;refine List.ext_getElem (by simp) (fun i h1 h2=> ?_);simp[h1]
theorem Ok.field{g:Prop}{x:Nd}(h:Ok g .f x):(x.k=35/\∃y,x.kids=[y]/\Ok g .e y)\/(x.k=36/\∃y z,x.kids=[y,z]/\Ok g .e y/\Ok g .e z):=by
 cases h with
 |item h1 _ h3 h4=>exact .inl ⟨h1,_,h3,h4⟩
 |par h1 _ h3 h4 h5=>exact .inr ⟨h1,_,_,h3,h4,h5⟩
set_option maxRecDepth 10000 in
set_option maxHeartbeats 8000000 in
theorem fields_pr(m:Nat)(hm:m<=6010)(hP:PA m)(hlen:∀s x,(pr m s x).length<=10*x.wt)(hFl:∀y,(sField (pr m) y).length<=20*y.wt+6):LCt 104 m .f (sFields (pr m)):=by
 intro l hl hO w A cp hcp hC;have HP:=aM hP;have HC:=aM hC;have HO:=aM hO;have HCT:=aM (fun i=>comma_take_le (sField (pr m)) 20 6 (fun y=>hFl y) l i);have HLN:=aM hlen;have HFL:=aM hFl;have HWL:=aM hl;have hll:l.length<=6010:=by have:=wts_len l;omega
 have HT:=aM (show Tw2 w (w.alloc (.cells #[] 9)) (.slice (some ⟨w.heap.size,0,none⟩) 0 0) (pComma ((l.map (sField (pr m))).take 0)) from⟨bA (bR _ _) _,NR.lit0 w w.heap.size (Nat.le_refl _)⟩);clear hP hC hO hlen hl hFl;go_enter Tryz.func104,Tryz.ntmps104
 go_wp2_with fail;generalize w.alloc _=w1 at HT|-;go_loopg [5,11] l.length (fun k v5 v11 wr=>∃(i:Nat) (AL:Option Addr) (cL nL:Nat),v5 = .slice AL nL cL/\v11 = .int .i64 (i:Int)/\k=l.length-i/\i<=l.length/\Aside0 (nL=(pComma ((l.map (sField (pr m))).take i)).length)/\Aside0 (Tw2 w wr (.slice AL nL cL) (pComma ((l.map (sField (pr m))).take i))))
 case atStart=>exact⟨0,_,_,_,rfl,rfl,rfl,Nat.zero_le _,⟨rfl⟩,HT⟩
 case round=>
  clear HT;obtain⟨i,AL,cL,nL,rfl,rfl,hk,hi,HNL,HT⟩:=hrel
  by_cases hlt:i<l.length
  case neg=>
   have hltI:¬((i:Int)<(l.length:Int)):=by omega
   go_wp2_with fail;go_ret;have e:pComma ((l.map (sField (pr m))).take i)=sFields (pr m) l:=by
    unfold sFields;rw[List.take_of_length_le (by rw[List.length_map];omega)]
   rw[<-e];exact HT.out.out
  case pos=>
   have hltI:(i:Int)<(l.length:Int):=by omega
   have h0I:(0:Int)<=(i:Int):=by omega
   have qi:IntKind.i64.wrap ((i:Int)+1)=((i+1:Nat):Int):=by rw[IntWalk.i64_in _ (by omega)];omega
   obtain⟨ad,y,Bn,dn,Bk,dk,rfl,hy,hym,x0,x1,x2,x3,x4,x5,x6,hky⟩:=kid_at HC.out (bR w.heap.size w) i hlt;replace x0:=pB HT.out.b x0;replace x1:=pB HT.out.b x1;replace x2:=pB HT.out.b x2;replace x3:=pB HT.out.b x3;replace x4:=pB HT.out.b x4;replace x5:=pB HT.out.b x5;replace x6:=pB HT.out.b x6;have HKW:=aM hky;have ei:((i:Nat):Int).toNat=i:=by omega
   have HOY:=aM (HO.out y hym);have HWY:=aM (show y.wt<=m by have:=wts_mem hym;have:=HWL.out;omega);have HYI:=aM (show pComma ((l.map (sField (pr m))).take (i+1))=pHead i (pComma ((l.map (sField (pr m))).take i))++sField (pr m) y from by
    rw[pComma_take _ i (by rw[List.length_map];exact hlt),List.getElem_map];rw[List.getElem?_eq_getElem hlt] at hy;rw[Option.some.inj hy];unfold pHead
    split
    ·rename_i h0
     subst h0;simp[pComma]
    ·rfl)
   have HLI:=aM (show(pComma ((l.map (sField (pr m))).take i)).length<=200000 by have:=HCT.out i;have:=HWL.out;omega);have HT2:=aM (HT.out.alloc (.cells #[.int .i64 y.k,.string y.s,.float .f64 y.x,.int .i64 y.n,.bool y.b,(.slice Bn y.names.length dn),(.slice Bk y.kids.length dk)] 27));have HV:=aM (Vb.new wr #[.int .i64 y.k,.string y.s,.float .f64 y.x,.int .i64 y.n,.bool y.b,(.slice Bn y.names.length dn),(.slice Bk y.kids.length dk)]);obtain⟨LL,hLL⟩:∃L,pComma ((l.map (sField (pr m))).take i)=L:=⟨_,rfl⟩;rw[hLL] at HYI HLI HT2 HNL;clear HT hky hy hym hLL;go_upto_region 5 with fail;generalize wr.alloc _=w2 at HT2 HV|-;generalize wr.heap.size=n7 at HV|-;obtain⟨bg,hbg⟩:∃b:Bool,decide ((i:Int)>0)=b:=⟨_,rfl⟩
   go_upto_if 17 with fail
   go_cut [5] from 17 to 20 (fun v wc=>∃(A2:Option Addr) (c2 n2:Nat),v = .slice A2 n2 c2/\Aside0 (n2=(pHead i LL).length)/\Aside0 (Tw2 w wc (.slice A2 n2 c2) (pHead i LL))/\Aside0 (Vb wc n7 #[.int .i64 y.k,.string y.s,.float .f64 y.x,.int .i64 y.n,.bool y.b,(.slice Bn y.names.length dn),(.slice Bk y.kids.length dk)]))
   case first=>
    by_cases h0:i=0
    case pos=>
     subst h0;have HH:=aM (show pHead 0 LL=LL from rfl);go_wp2_with fail;go_meet
     case rel=>exact⟨AL,cL,nL,rfl,⟨by rw[HH.out];exact HNL.out⟩,⟨by rw[HH.out];exact HT2.out⟩,HV⟩
    case neg=>
     have h0I2:(i:Int)>0:=by omega
     have HH:=aM (show pHead i LL=LL++[(⟨#[44]⟩:ByteArray)] by unfold pHead;rw[if_neg h0]);clear h0;go_wp2_with (at_builtin;refine Tw2.push rfl (.tmp 18) (.tmp 19) (by rfl) (by rfl) (by rfl) HT2.out (by rfl) ⟨#[44]⟩ (by have:=HLI.out;omega) ?_;intro A8 c8 w9 h9 v9;have H9:=aM h9;have HV9:=aM (v9 _ _ HV.out);clear h9 v9)
     go_meet
     case rel=>exact⟨A8,c8,LL.length+1,rfl,⟨by rw[HH.out];simp⟩,⟨by rw[HH.out];exact H9.out⟩,HV9⟩
   clear HT2 HV hbg x0 x1 x2 x3 x4 x5 x6;obtain⟨A2,c2,n2,rfl,HN2,HT2,HV⟩:=hcut;have HHL:=aM (show(pHead i LL).length<=200001 by have:=HLI.out;unfold pHead;split<;>simp<;>omega);obtain⟨v0,v1,v2,v3,v4,v5,v6⟩:=bC7 HV.out;obtain⟨LH,hLH⟩:∃L,pHead i LL=L:=⟨_,rfl⟩;rw[hLH] at HYI HN2 HT2 HHL;clear hLH;rcases HOY.out.field with⟨h35,p,hyk,op⟩|⟨h36,p,q,hyk,op,oq⟩
   ·have hkb:(y.k==36)=false:=by rw[h35];rfl
    have hwy:=wt_eq y;rw[hyk] at hwy;simp only[wts] at hwy;have hl1:y.kids.length=1:=by rw[hyk];rfl
    have hl0:0<y.kids.length:=by omega
    have hl0I:(0:Int)<(y.kids.length:Int):=by omega
    obtain⟨bd,p',Pn,pn,Pk,pk,rfl,hp,_,p0,p1,p2,p3,p4,p5,p6,hkp⟩:=kid_at HKW.out.kids.2 (bR w.heap.size w) 0 (by omega);obtain rfl:p=p':=by rw[hyk] at hp;simpa using hp
    simp only[Nat.zero_mul,Addr.add_zero'] at p0 p1 p2 p3 p4 p5 p6;replace p0:=pB HT2.out.b p0;replace p1:=pB HT2.out.b p1;replace p2:=pB HT2.out.b p2;replace p3:=pB HT2.out.b p3;replace p4:=pB HT2.out.b p4;replace p5:=pB HT2.out.b p5;replace p6:=pB HT2.out.b p6;have HKP:=aM (hkp.below HT2.out.b);have HOP:=aM op;have HWP:=aM (show p.wt<=m by have:=HWY.out;omega);have HSF:=aM (show sField (pr m) y=pr m .e p by
     unfold sField kid;rw[hyk,if_neg (by rw[h35];rintro⟨h,_⟩;cases h),if_neg (by rw[h35];decide)]
     rfl)
    have HPL:=aM (show(pr m .e p).length<=60100 by have:=HLN.out .e p;have:=HWP.out;omega);clear h35 hyk op hl1 hp hkp;go_wp2_with fail;refine(HP.out.e p HWP.out HOP.out wc Pn pn Pk pk HKP.out).mono ?_;rintro e w8 ⟨u,rfl,hR,hB⟩;obtain⟨Au,cu,rfl⟩:=hR.sl;have HR:=aM hR;have HT3:=aM (HT2.out.below hB);clear hR hB;have HNQ:=aM HN2.out;go_wp2_with (at_builtin;refine Tw2.cat rfl (.tmp 69) (.tmp 75) (by rfl) (by rfl) (by rfl) HT3.out HR.out (by have:=HPL.out;have:=HHL.out;omega) ?_;intro A9 c9 w9 h9 v9;have H9:=aM h9;clear h9 v9)
    go_roundg (l.length-(i+1))
    case measure=>omega
    case rel=>exact⟨i+1,A9,c9,_,rfl,by first|rfl|simp[qi],rfl,by omega,⟨by rw[HYI.out,HSF.out,List.length_append]⟩,by rw[HYI.out,HSF.out];exact H9⟩
   ·have hkb:(y.k==36)=true:=by rw[h36];rfl
    have hwy:=wt_eq y;rw[hyk] at hwy;simp only[wts] at hwy;have hl2:y.kids.length=2:=by rw[hyk];rfl
    have hl0:0<y.kids.length:=by omega
    have hl1:1<y.kids.length:=by omega
    have hl0I:(0:Int)<(y.kids.length:Int):=by omega
    have hl1I:(1:Int)<(y.kids.length:Int):=by omega
    obtain⟨bd,p',Pn,pn,Pk,pk,rfl,hp,_,p0,p1,p2,p3,p4,p5,p6,hkp⟩:=kid_at HKW.out.kids.2 (bR w.heap.size w) 0 (by omega);obtain⟨bd',q',Qn,qn,Qk,qk,hbd,hq,_,q0,q1,q2,q3,q4,q5,q6,hkq⟩:=kid_at HKW.out.kids.2 (bR w.heap.size w) 1 (by omega);cases hbd
    obtain rfl:p=p':=by rw[hyk] at hp;simpa using hp
    obtain rfl:q=q':=by rw[hyk] at hq;simpa using hq
    simp only[Nat.zero_mul,Addr.add_zero'] at p0 p1 p2 p3 p4 p5 p6;replace p0:=pB HT2.out.b p0;replace p1:=pB HT2.out.b p1;replace p2:=pB HT2.out.b p2;replace p3:=pB HT2.out.b p3;replace p4:=pB HT2.out.b p4;replace p5:=pB HT2.out.b p5;replace p6:=pB HT2.out.b p6;have HYK:=aM hyk;have H36:=aM h36;have HKP:=aM hkp;have HKQ:=aM hkq;have HOp:=aM op;have HOq:=aM oq;have HWp:=aM (show p.wt<=m by have:=HWY.out;omega);have HWq:=aM (show q.wt<=m by have:=HWY.out;omega);have HPS:=aM (op.tx trivial).1;have hpl1:=HLN.out .e p;have hpl2:=HLN.out .e q;have hhl:=HHL.out;have hwp:=HWp.out;have hwq:=HWq.out;clear h36 hyk op oq hl2 hp hq hkp hkq;go_wp2_with fail;refine(isName_pr p HPS.out wc Pn pn Pk pk).mono ?_;rintro e w4 ⟨rfl,hb⟩;obtain⟨bn,hbn⟩:∃b,pIsName p=b:=⟨_,rfl⟩;rw[hbn];have HBN:=aM hbn;replace HT2:=aM (HT2.out.below hb);replace HV:=aM (HV.out.below hb);have HKp:=aM (HKP.out.below HT2.out.b);have HKq:=aM (HKQ.out.below HT2.out.b);replace p0:=pB hb p0;replace p1:=pB hb p1;replace p2:=pB hb p2;replace p3:=pB hb p3;replace p4:=pB hb p4;replace p5:=pB hb p5;replace p6:=pB hb p6;replace q0:w4.cell? ⟨bd.block,bd.off+7,none⟩=some (.int .i64 q.k):=pB HT2.out.b q0;replace q1:w4.cell? ⟨bd.block,bd.off+8,none⟩=some (.string q.s):=pB HT2.out.b q1;replace q2:w4.cell? ⟨bd.block,bd.off+9,none⟩=some (.float .f64 q.x):=pB HT2.out.b q2;replace q3:w4.cell? ⟨bd.block,bd.off+10,none⟩=some (.int .i64 q.n):=pB HT2.out.b q3;replace q4:w4.cell? ⟨bd.block,bd.off+11,none⟩=some (.bool q.b):=pB HT2.out.b q4;replace q5:w4.cell? ⟨bd.block,bd.off+12,none⟩=some (.slice Qn q.names.length qn):=pB HT2.out.b q5;replace q6:w4.cell? ⟨bd.block,bd.off+13,none⟩=some (.slice Qk q.kids.length qk):=pB HT2.out.b q6;clear hb hbn;obtain⟨v0,v1,v2,v3,v4,v5,v6⟩:=bC7 HV.out;replace v6:w4.cell? ⟨n7,6,none⟩=some (.slice (some bd) y.kids.length dk):=v6
    cases bn with
    |true=>
     have HSF:=aM (show sField (pr m) y=[p.s,⟨#[61]⟩]++pr m .e q by
      have k0:kid y 0=p:=by unfold kid;rw[HYK.out];rfl
      have k1:kid y 1=q:=by unfold kid;rw[HYK.out];rfl
      unfold sField;rw[k0,k1,if_pos ⟨H36.out,HBN.out⟩])
     go_upto_region 8 with fail;refine wp_region_specs [.row (LH),.eq (.pointer (some ⟨n7,6,none⟩)),.eq (.slice (some bd) y.kids.length dk),.eq (.pointer (some bd)),.eq (.pointer (some ⟨bd.block,bd.off+1,none⟩)),.eq (.string p.s),.row ([p.s,⟨#[61]⟩]),.eq (.bool true),.eq (.pointer (some ⟨n7,6,none⟩)),.eq (.slice (some bd) y.kids.length dk),.eq (.pointer (some ⟨bd.block,bd.off+7,none⟩)),.eq (.agg #[.int .i64 q.k,.string q.s,.float .f64 q.x,.int .i64 q.n,.bool q.b,(.slice Qn q.names.length qn),(.slice Qk q.kids.length qk)]),.row (pr m .e q),.rows ([LH,[p.s,⟨#[61]⟩],pr m .e q]),.row (pJ [LH,[p.s,⟨#[61]⟩],pr m .e q]),.row (pJ [LH,[p.s,⟨#[61]⟩],pr m .e q])] (w.heap.size) (by rfl) (by kernel_rfl) ?steps ?fin
     case steps=>
      refine⟨?_,?_,?_,?_,?_,?_,?_,?_,?_,?_,?_,?_,?_,?_,?_,?_,trivial⟩
      ·intro a w' hb ho hr
       have t5:a.tmps[5]? = some (.slice A2 n2 c2):=ho 5 rfl;go_simp;exact⟨_,rfl,bR _ _,(HT2.out.r.below hb)⟩
      ·intro a w' hb ho hr
       have t7:a.tmps[7]? = some (.pointer (some ⟨n7,0,none⟩)):=ho 7 rfl;go_simp;exact⟨_,rfl,bR _ _,rfl⟩
      ·intro a w' hb ho hr
       obtain⟨u1,d1,rfl⟩:=hr 1 _ _ rfl rfl rfl;have c0:=pB hb v6;go_simp;exact⟨_,rfl,bR _ _,rfl⟩
      ·intro a w' hb ho hr
       obtain⟨u2,d2,rfl⟩:=hr 2 _ _ rfl rfl rfl;go_simp;exact⟨_,rfl,bR _ _,rfl⟩
      ·intro a w' hb ho hr
       obtain⟨u3,d3,rfl⟩:=hr 3 _ _ rfl rfl rfl;go_simp;exact⟨_,rfl,bR _ _,rfl⟩
      ·intro a w' hb ho hr
       obtain⟨u4,d4,rfl⟩:=hr 4 _ _ rfl rfl rfl;have c0:=pB hb p1;go_simp;exact⟨_,rfl,bR _ _,rfl⟩
      ·intro a w' hb ho hr
       obtain⟨u5,d5,rfl⟩:=hr 5 _ _ rfl rfl rfl;go_simp;exact⟨_,rfl,bA (bR _ _) _,NR.lits w' _ (Nat.le_trans HT2.out.b.size hb.size) [p.s,⟨#[61]⟩] (by simp)⟩
      ·intro a w' hb ho hr
       have t0:a.tmps[0]? = some (.bool true):=ho 0 rfl;go_simp;exact⟨_,rfl,bR _ _,rfl⟩
      ·intro a w' hb ho hr
       have t7:a.tmps[7]? = some (.pointer (some ⟨n7,0,none⟩)):=ho 7 rfl;go_simp;exact⟨_,rfl,bR _ _,rfl⟩
      ·intro a w' hb ho hr
       obtain⟨u8,d8,rfl⟩:=hr 8 _ _ rfl rfl rfl;have c0:=pB hb v6;go_simp;exact⟨_,rfl,bR _ _,rfl⟩
      ·intro a w' hb ho hr
       obtain⟨u9,d9,rfl⟩:=hr 9 _ _ rfl rfl rfl;go_simp;exact⟨_,rfl,bR _ _,rfl⟩
      ·intro a w' hb ho hr
       obtain⟨u10,d10,rfl⟩:=hr 10 _ _ rfl rfl rfl;obtain⟨c0,c1,c2,c3,c4,c5,c6⟩:=pB7 hb q0 q1 q2 q3 q4 q5 q6;go_simp;exact⟨_,rfl,bR _ _,rfl⟩
      ·intro a w' hb ho hr
       obtain⟨u7,d7,rfl⟩:=hr 7 _ _ rfl rfl rfl;obtain⟨u11,d11,rfl⟩:=hr 11 _ _ rfl rfl rfl;go_simp
       go_at_call 65
       refine(HP.out.e q HWq.out HOq.out w' Qn qn Qk qk (HKq.out.below hb)).mono ?_;rintro e w8 ⟨u,rfl,hR,hB⟩;exact⟨_,rfl,hB,NR.lower hR (Nat.le_trans HT2.out.b.size hb.size)⟩
      ·intro a w' hb ho hr
       obtain⟨u0,d0,h0⟩:=hr 0 _ _ rfl rfl rfl;replace h0:NR w' w.heap.size u0 (LH):=h0;obtain⟨A0,q0,rfl⟩:=h0.sl;obtain⟨u6,d6,h6⟩:=hr 6 _ _ rfl rfl rfl;replace h6:NR w' w.heap.size u6 ([p.s,⟨#[61]⟩]):=h6;obtain⟨A6,q6,rfl⟩:=h6.sl;obtain⟨u12,d12,h12⟩:=hr 12 _ _ rfl rfl rfl;replace h12:NR w' w.heap.size u12 (pr m .e q):=h12;obtain⟨A12,q12,rfl⟩:=h12.sl;go_simp;exact⟨_,rfl,bA (bR _ _) _,LR.lit (ps:=[(.slice A0 (LH).length q0,LH),(.slice A6 ([p.s,⟨#[61]⟩]).length q6,[p.s,⟨#[61]⟩]),(.slice A12 (pr m .e q).length q12,pr m .e q)]) (Nat.le_trans HT2.out.b.size hb.size) (LRs.cons h0 (LRs.cons h6 (LRs.cons h12 LRs.nil))) (by simp)⟩
      ·intro a w' hb ho hr
       obtain⟨u13,d13,h13⟩:=hr 13 _ _ rfl rfl rfl;replace h13:LR w' w.heap.size u13 ([LH,[p.s,⟨#[61]⟩],pr m .e q]):=h13;go_simp
       go_at_call 60
       refine(join_q h13 (by simp) (by simp;omega)).mono ?_;rintro e w8 ⟨u,rfl,hR,hB⟩;exact⟨_,rfl,hB,NR.lower hR (Nat.le_trans HT2.out.b.size hb.size)⟩
      ·intro a w' hb ho hr
       obtain⟨u14,d14,h14⟩:=hr 14 _ _ rfl rfl rfl;replace h14:NR w' w.heap.size u14 (pJ [LH,[p.s,⟨#[61]⟩],pr m .e q]):=h14;obtain⟨A14,q14,rfl⟩:=h14.sl;go_simp;exact⟨_,rfl,bR _ _,h14⟩
     case fin=>
      intro a w' hb hd hs ho hr;obtain⟨vs,hvl,hvs,rfl⟩:=act_of hd hs ho hr (by rfl);obtain⟨u0,u1,u2,u3,u4,u5,u6,u7,u8,u9,u10,u11,u12,u13,u14,u15,rfl⟩:∃u0 u1 u2 u3 u4 u5 u6 u7 u8 u9 u10 u11 u12 u13 u14 u15,vs=[u0,u1,u2,u3,u4,u5,u6,u7,u8,u9,u10,u11,u12,u13,u14,u15]:=⟨_,_,_,_,_,_,_,_,_,_,_,_,_,_,_,_,list_of 16 vs hvl⟩;have hu:NR w' w.heap.size u15 (pJ [LH,[p.s,⟨#[61]⟩],pr m .e q]):=hvs 15 (by decide);obtain⟨A9,c9,rfl⟩:=hu.sl;have H9:=aM (show Tw2 w w' (.slice A9 (pJ [LH,[p.s,⟨#[61]⟩],pr m .e q]).length c9) (pJ [LH,[p.s,⟨#[61]⟩],pr m .e q]) from⟨HT2.out.b.trans (hb.mono HT2.out.b.size),hu⟩);have HEQ:=aM (show(pJ [LH,[p.s,⟨#[61]⟩],pr m .e q])=pComma ((l.map (sField (pr m))).take (i+1)) from by rw[HYI.out,HSF.out];simp[pJ]);rw[HEQ.out] at H9|-;clear hvs hvl hs ho hr hd hu;simp only[putl];go_simp;go_wp2_with fail;go_roundg (l.length-(i+1))
      case measure=>omega
      case rel=>exact⟨i+1,A9,c9,_,rfl,by first|rfl|simp[qi],rfl,by omega,⟨rfl⟩,H9⟩
    |false=>
     have HSF:=aM (show sField (pr m) y=[⟨#[91]⟩]++pr m .e p++[⟨#[93]⟩,⟨#[61]⟩]++pr m .e q by
      have k0:kid y 0=p:=by unfold kid;rw[HYK.out];rfl
      have k1:kid y 1=q:=by unfold kid;rw[HYK.out];rfl
      unfold sField;rw[k0,k1,if_neg (fun h=>by rw[HBN.out] at h;cases h.2),if_pos H36.out])
     go_upto_region 10 with fail;refine wp_region_specs [.row (LH),.row ([⟨#[91]⟩]),.eq (.bool true),.eq (.pointer (some ⟨n7,6,none⟩)),.eq (.slice (some bd) y.kids.length dk),.eq (.pointer (some bd)),.eq (.agg #[.int .i64 p.k,.string p.s,.float .f64 p.x,.int .i64 p.n,.bool p.b,(.slice Pn p.names.length pn),(.slice Pk p.kids.length pk)]),.row (pr m .e p),.row ([⟨#[93]⟩,⟨#[61]⟩]),.eq (.bool true),.eq (.pointer (some ⟨n7,6,none⟩)),.eq (.slice (some bd) y.kids.length dk),.eq (.pointer (some ⟨bd.block,bd.off+7,none⟩)),.eq (.agg #[.int .i64 q.k,.string q.s,.float .f64 q.x,.int .i64 q.n,.bool q.b,(.slice Qn q.names.length qn),(.slice Qk q.kids.length qk)]),.row (pr m .e q),.rows ([LH,[⟨#[91]⟩],pr m .e p,[⟨#[93]⟩,⟨#[61]⟩],pr m .e q]),.row (pJ [LH,[⟨#[91]⟩],pr m .e p,[⟨#[93]⟩,⟨#[61]⟩],pr m .e q]),.row (pJ [LH,[⟨#[91]⟩],pr m .e p,[⟨#[93]⟩,⟨#[61]⟩],pr m .e q])] (w.heap.size) (by rfl) (by kernel_rfl) ?steps ?fin
     case steps=>
      refine⟨?_,?_,?_,?_,?_,?_,?_,?_,?_,?_,?_,?_,?_,?_,?_,?_,?_,?_,trivial⟩
      ·intro a w' hb ho hr
       have t5:a.tmps[5]? = some (.slice A2 n2 c2):=ho 5 rfl;go_simp;exact⟨_,rfl,bR _ _,(HT2.out.r.below hb)⟩
      ·intro a w' hb ho hr
       go_simp;exact⟨_,rfl,bA (bR _ _) _,NR.lits w' _ (Nat.le_trans HT2.out.b.size hb.size) [⟨#[91]⟩] (by simp)⟩
      ·intro a w' hb ho hr
       have t0:a.tmps[0]? = some (.bool true):=ho 0 rfl;go_simp;exact⟨_,rfl,bR _ _,rfl⟩
      ·intro a w' hb ho hr
       have t7:a.tmps[7]? = some (.pointer (some ⟨n7,0,none⟩)):=ho 7 rfl;go_simp;exact⟨_,rfl,bR _ _,rfl⟩
      ·intro a w' hb ho hr
       obtain⟨u3,d3,rfl⟩:=hr 3 _ _ rfl rfl rfl;have c0:=pB hb v6;go_simp;exact⟨_,rfl,bR _ _,rfl⟩
      ·intro a w' hb ho hr
       obtain⟨u4,d4,rfl⟩:=hr 4 _ _ rfl rfl rfl;go_simp;exact⟨_,rfl,bR _ _,rfl⟩
      ·intro a w' hb ho hr
       obtain⟨u5,d5,rfl⟩:=hr 5 _ _ rfl rfl rfl;obtain⟨c0,c1,c2,c3,c4,c5,c6⟩:=pB7 hb p0 p1 p2 p3 p4 p5 p6;go_simp;exact⟨_,rfl,bR _ _,rfl⟩
      ·intro a w' hb ho hr
       obtain⟨u2,d2,rfl⟩:=hr 2 _ _ rfl rfl rfl;obtain⟨u6,d6,rfl⟩:=hr 6 _ _ rfl rfl rfl;go_simp
       go_at_call 65
       refine(HP.out.e p HWp.out HOp.out w' Pn pn Pk pk (HKp.out.below hb)).mono ?_;rintro e w8 ⟨u,rfl,hR,hB⟩;exact⟨_,rfl,hB,NR.lower hR (Nat.le_trans HT2.out.b.size hb.size)⟩
      ·intro a w' hb ho hr
       go_simp;exact⟨_,rfl,bA (bR _ _) _,NR.lits w' _ (Nat.le_trans HT2.out.b.size hb.size) [⟨#[93]⟩,⟨#[61]⟩] (by simp)⟩
      ·intro a w' hb ho hr
       have t0:a.tmps[0]? = some (.bool true):=ho 0 rfl;go_simp;exact⟨_,rfl,bR _ _,rfl⟩
      ·intro a w' hb ho hr
       have t7:a.tmps[7]? = some (.pointer (some ⟨n7,0,none⟩)):=ho 7 rfl;go_simp;exact⟨_,rfl,bR _ _,rfl⟩
      ·intro a w' hb ho hr
       obtain⟨u10,d10,rfl⟩:=hr 10 _ _ rfl rfl rfl;have c0:=pB hb v6;go_simp;exact⟨_,rfl,bR _ _,rfl⟩
      ·intro a w' hb ho hr
       obtain⟨u11,d11,rfl⟩:=hr 11 _ _ rfl rfl rfl;go_simp;exact⟨_,rfl,bR _ _,rfl⟩
      ·intro a w' hb ho hr
       obtain⟨u12,d12,rfl⟩:=hr 12 _ _ rfl rfl rfl;obtain⟨c0,c1,c2,c3,c4,c5,c6⟩:=pB7 hb q0 q1 q2 q3 q4 q5 q6;go_simp;exact⟨_,rfl,bR _ _,rfl⟩
      ·intro a w' hb ho hr
       obtain⟨u9,d9,rfl⟩:=hr 9 _ _ rfl rfl rfl;obtain⟨u13,d13,rfl⟩:=hr 13 _ _ rfl rfl rfl;go_simp
       go_at_call 65
       refine(HP.out.e q HWq.out HOq.out w' Qn qn Qk qk (HKq.out.below hb)).mono ?_;rintro e w8 ⟨u,rfl,hR,hB⟩;exact⟨_,rfl,hB,NR.lower hR (Nat.le_trans HT2.out.b.size hb.size)⟩
      ·intro a w' hb ho hr
       obtain⟨u0,d0,h0⟩:=hr 0 _ _ rfl rfl rfl;replace h0:NR w' w.heap.size u0 (LH):=h0;obtain⟨A0,q0,rfl⟩:=h0.sl;obtain⟨u1,d1,h1⟩:=hr 1 _ _ rfl rfl rfl;replace h1:NR w' w.heap.size u1 ([⟨#[91]⟩]):=h1;obtain⟨A1,q1,rfl⟩:=h1.sl;obtain⟨u7,d7,h7⟩:=hr 7 _ _ rfl rfl rfl;replace h7:NR w' w.heap.size u7 (pr m .e p):=h7;obtain⟨A7,q7,rfl⟩:=h7.sl;obtain⟨u8,d8,h8⟩:=hr 8 _ _ rfl rfl rfl;replace h8:NR w' w.heap.size u8 ([⟨#[93]⟩,⟨#[61]⟩]):=h8;obtain⟨A8,q8,rfl⟩:=h8.sl;obtain⟨u14,d14,h14⟩:=hr 14 _ _ rfl rfl rfl;replace h14:NR w' w.heap.size u14 (pr m .e q):=h14;obtain⟨A14,q14,rfl⟩:=h14.sl;go_simp;exact⟨_,rfl,bA (bR _ _) _,LR.lit (ps:=[(.slice A0 (LH).length q0,LH),(.slice A1 ([⟨#[91]⟩]).length q1,[⟨#[91]⟩]),(.slice A7 (pr m .e p).length q7,pr m .e p),(.slice A8 ([⟨#[93]⟩,⟨#[61]⟩]).length q8,[⟨#[93]⟩,⟨#[61]⟩]),(.slice A14 (pr m .e q).length q14,pr m .e q)]) (Nat.le_trans HT2.out.b.size hb.size) (LRs.cons h0 (LRs.cons h1 (LRs.cons h7 (LRs.cons h8 (LRs.cons h14 LRs.nil))))) (by simp)⟩
      ·intro a w' hb ho hr
       obtain⟨u15,d15,h15⟩:=hr 15 _ _ rfl rfl rfl;replace h15:LR w' w.heap.size u15 ([LH,[⟨#[91]⟩],pr m .e p,[⟨#[93]⟩,⟨#[61]⟩],pr m .e q]):=h15;go_simp
       go_at_call 60
       refine(join_q h15 (by simp) (by simp;omega)).mono ?_;rintro e w8 ⟨u,rfl,hR,hB⟩;exact⟨_,rfl,hB,NR.lower hR (Nat.le_trans HT2.out.b.size hb.size)⟩
      ·intro a w' hb ho hr
       obtain⟨u16,d16,h16⟩:=hr 16 _ _ rfl rfl rfl;replace h16:NR w' w.heap.size u16 (pJ [LH,[⟨#[91]⟩],pr m .e p,[⟨#[93]⟩,⟨#[61]⟩],pr m .e q]):=h16;obtain⟨A16,q16,rfl⟩:=h16.sl;go_simp;exact⟨_,rfl,bR _ _,h16⟩
     case fin=>
      intro a w' hb hd hs ho hr;obtain⟨vs,hvl,hvs,rfl⟩:=act_of hd hs ho hr (by rfl);obtain⟨u0,u1,u2,u3,u4,u5,u6,u7,u8,u9,u10,u11,u12,u13,u14,u15,u16,u17,rfl⟩:∃u0 u1 u2 u3 u4 u5 u6 u7 u8 u9 u10 u11 u12 u13 u14 u15 u16 u17,vs=[u0,u1,u2,u3,u4,u5,u6,u7,u8,u9,u10,u11,u12,u13,u14,u15,u16,u17]:=⟨_,_,_,_,_,_,_,_,_,_,_,_,_,_,_,_,_,_,list_of 18 vs hvl⟩;have hu:NR w' w.heap.size u17 (pJ [LH,[⟨#[91]⟩],pr m .e p,[⟨#[93]⟩,⟨#[61]⟩],pr m .e q]):=hvs 17 (by decide);obtain⟨A9,c9,rfl⟩:=hu.sl;have H9:=aM (show Tw2 w w' (.slice A9 (pJ [LH,[⟨#[91]⟩],pr m .e p,[⟨#[93]⟩,⟨#[61]⟩],pr m .e q]).length c9) (pJ [LH,[⟨#[91]⟩],pr m .e p,[⟨#[93]⟩,⟨#[61]⟩],pr m .e q]) from⟨HT2.out.b.trans (hb.mono HT2.out.b.size),hu⟩);have HEQ:=aM (show(pJ [LH,[⟨#[91]⟩],pr m .e p,[⟨#[93]⟩,⟨#[61]⟩],pr m .e q])=pComma ((l.map (sField (pr m))).take (i+1)) from by rw[HYI.out,HSF.out];simp[pJ]);rw[HEQ.out] at H9|-;clear hvs hvl hs ho hr hd hu;simp only[putl];go_simp;go_wp2_with fail;go_roundg (l.length-(i+1))
      case measure=>omega
      case rel=>exact⟨i+1,A9,c9,_,rfl,by first|rfl|simp[qi],rfl,by omega,⟨rfl⟩,H9⟩
set_option maxRecDepth 10000 in
set_option maxHeartbeats 4000000 in
theorem args_pr(m:Nat)(hm:m<=6010)(hP:PA m)(hlen:∀s x,(pr m s x).length<=10*x.wt)(hLs:LCt 62 m .e (sList (pr m)))(hLl:∀l,(sList (pr m) l).length<=20*wts l):LCt 103 m .e (sArgs (pr m)):=by
 intro l hl hO w A cp hcp hC;have HP:=aM hP;have HL:=aM hLs;have HC:=aM hC;have HO:=aM hO;have HWL:=aM hl;have hlls:=hLl l;have HCP:=aM hcp;clear hP hLs hC hO
 by_cases h1:l.length=1
 case pos=>
  obtain⟨ad,y,Bn,dn,Bk,dk,rfl,hy,hym,x0,x1,x2,x3,x4,x5,x6,hky⟩:=kid_at HC.out (bR w.heap.size w) 0 (by omega);simp only[Nat.zero_mul,Addr.add_zero'] at x0 x1 x2 x3 x4 x5 x6;have e1:l=[y]:=by
   match l,h1,hy with
   |[a],_,hy=>simp at hy;rw[hy]
  have HE1:=aM e1;have HKy:=aM hky;have HOy:=aM (HO.out y hym);have HWy:=aM (show y.wt<=m by have:=wts_mem hym;omega);have hlI:(l.length:Int)=1:=by omega
  have hl0:0<l.length:=by omega
  have hl0I:(0:Int)<(l.length:Int):=by omega
  obtain⟨b1,hb1⟩:∃b:Bool,(y.k==24)=b:=⟨_,rfl⟩;obtain⟨b2,hb2⟩:∃b:Bool,(y.k==34)=b:=⟨_,rfl⟩;clear hky hym hy e1;go_enter Tryz.func103,Tryz.ntmps103
  go_upto_region 1 with fail
  go_cut [24] from 5 to 24 (fun v wc=>v = .bool (b1||b2)/\wc=w)
  case first=>
   cases b1
   all_goals
    cases b2
    all_goals
     go_wp2_with fail;go_meet
     case rel=>exact⟨rfl,rfl⟩
  obtain⟨rfl,rfl⟩:=hcut;have HB1:=aM hb1;have HB2:=aM hb2;clear hb1 hb2
  cases hbb:(b1||b2) with
  |true=>
   clear h1 hlI;replace hbb:=aM hbb;go_wp2_with fail;refine(HP.out.e y HWy.out HOy.out wc Bn dn Bk dk HKy.out).mono ?_;rintro e w8 ⟨u,rfl,hR,hB⟩;have HR:=aM hR;have HBB:=aM hB;clear hR hB;go_wp2_with fail;go_ret;have e:sArgs (pr m) l=pr m .e y:=by
    rw[HE1.out];unfold sArgs;rw[if_pos]
    ·rfl
    ·refine⟨rfl,?_⟩
     show y.k=24\/y.k=34
     have:=hbb.out;rw[Bool.or_eq_true] at this;rcases this with h|h
     ·rw[h] at HB1;exact .inl (beq_iff_eq.1 HB1.out)
     ·rw[h] at HB2;exact .inr (beq_iff_eq.1 HB2.out)
   rw[e];exact⟨u,rfl,HR.out,HBB.out⟩
  |false=>
   have e:sArgs (pr m) l=pJ [[⟨#[40]⟩],sList (pr m) l,[⟨#[41]⟩]]:=by
    unfold sArgs;rw[if_neg]
    ·rfl
    ·rw[HE1.out]
     show ¬(_/\(y.k=24\/y.k=34))
     rw[Bool.or_eq_false_iff] at hbb;have f1:=HB1.out;have f2:=HB2.out;rw[hbb.1] at f1;rw[hbb.2] at f2;have g1:=beq_eq_false_iff_ne.1 f1;have g2:=beq_eq_false_iff_ne.1 f2;rintro⟨_,h|h⟩
     ·exact g1 h
     ·exact g2 h
   have HE:=aM e;clear h1 hlI e;replace hbb:=aM hbb;generalize (some ad)=AA at *;go_upto_region 3 with fail;refine wp_region_specs_seq [.row ([⟨#[40]⟩]),.eq (.bool true),.eq (.slice AA l.length cp),.row (sList (pr m) l),.row ([⟨#[41]⟩]),.rows ([[⟨#[40]⟩],sList (pr m) l,[⟨#[41]⟩]]),.row (pJ [[⟨#[40]⟩],sList (pr m) l,[⟨#[41]⟩]]),.row (pJ [[⟨#[40]⟩],sList (pr m) l,[⟨#[41]⟩]])] wc.heap.size (by kernel_rfl) ?steps ?fin
   case steps=>
    refine⟨?_,?_,?_,?_,?_,?_,?_,?_,trivial⟩
    ·intro a w' hb ho hr
     go_simp;exact⟨_,rfl,bA (bR _ _) _,NR.lits w' _ hb.size [⟨#[40]⟩] (by simp)⟩
    ·intro a w' hb ho hr
     have t0:a.tmps[0]? = some (.bool true):=ho 0 rfl;go_simp;exact⟨_,rfl,bR _ _,rfl⟩
    ·intro a w' hb ho hr
     have t1:a.tmps[1]? = some (.slice AA l.length cp):=ho 1 rfl;go_simp;exact⟨_,rfl,bR _ _,rfl⟩
    ·intro a w' hb ho hr
     obtain⟨u1,d1,rfl⟩:=hr 1 _ _ rfl rfl rfl;obtain⟨u2,d2,rfl⟩:=hr 2 _ _ rfl rfl rfl;go_simp
     go_at_call 62
     refine(HL.out l HWL.out HO.out w' AA cp HCP.out (Kd.C_below HC.out hb)).mono ?_;rintro e w8 ⟨u,rfl,hR,hB⟩;exact⟨_,rfl,hB,NR.lower hR hb.size⟩
    ·intro a w' hb ho hr
     go_simp;exact⟨_,rfl,bA (bR _ _) _,NR.lits w' _ hb.size [⟨#[41]⟩] (by simp)⟩
    ·intro a w' hb ho hr
     obtain⟨u0,d0,h0⟩:=hr 0 _ _ rfl rfl rfl;replace h0:NR w' wc.heap.size u0 ([⟨#[40]⟩]):=h0;obtain⟨A0,q0,rfl⟩:=h0.sl;obtain⟨u3,d3,h3⟩:=hr 3 _ _ rfl rfl rfl;replace h3:NR w' wc.heap.size u3 (sList (pr m) l):=h3;obtain⟨A3,q3,rfl⟩:=h3.sl;obtain⟨u4,d4,h4⟩:=hr 4 _ _ rfl rfl rfl;replace h4:NR w' wc.heap.size u4 ([⟨#[41]⟩]):=h4;obtain⟨A4,q4,rfl⟩:=h4.sl;go_simp;exact⟨_,rfl,bA (bR _ _) _,LR.lit (ps:=[(.slice A0 ([⟨#[40]⟩]).length q0,[⟨#[40]⟩]),(.slice A3 (sList (pr m) l).length q3,sList (pr m) l),(.slice A4 ([⟨#[41]⟩]).length q4,[⟨#[41]⟩])]) hb.size (LRs.cons h0 (LRs.cons h3 (LRs.cons h4 LRs.nil))) (by simp)⟩
    ·intro a w' hb ho hr
     obtain⟨u5,d5,h5⟩:=hr 5 _ _ rfl rfl rfl;replace h5:LR w' wc.heap.size u5 ([[⟨#[40]⟩],sList (pr m) l,[⟨#[41]⟩]]):=h5;go_simp
     go_at_call 60
     refine(join_q h5 (by simp) (by simp;omega)).mono ?_;rintro e w8 ⟨u,rfl,hR,hB⟩;exact⟨_,rfl,hB,NR.lower hR hb.size⟩
    ·intro a w' hb ho hr
     obtain⟨u6,d6,h6⟩:=hr 6 _ _ rfl rfl rfl;replace h6:NR w' wc.heap.size u6 (pJ [[⟨#[40]⟩],sList (pr m) l,[⟨#[41]⟩]]):=h6;obtain⟨A6,q6,rfl⟩:=h6.sl;go_simp;exact⟨_,rfl,bR _ _,h6⟩
   case fin=>
    intro a w' hb hd hs ho hr;obtain⟨u,du,hu⟩:=hr 7 _ _ rfl rfl;replace hu:NR w' wc.heap.size u (pJ [[⟨#[40]⟩],sList (pr m) l,[⟨#[41]⟩]]):=hu;go_wp2_with fail;refine⟨hd,u,by simp[results,Tryz.results103,du,go_sem],?_⟩;rw[HE.out];exact⟨u,rfl,hu,hb⟩
 case neg=>
  have e:sArgs (pr m) l=pJ [[⟨#[40]⟩],sList (pr m) l,[⟨#[41]⟩]]:=by
   unfold sArgs;rw[if_neg (fun h=>h1 h.1)]
   rfl
  have HE:=aM e;have hlI:((l.length:Int)==1)=false:=by rw[beq_eq_false_iff_ne];omega
  clear e;go_enter Tryz.func103,Tryz.ntmps103
  go_upto_region 1 with fail
  go_cut [24] from 5 to 24 (fun v wc=>v = .bool false/\wc=w)
  case first=>
   go_wp2_with fail;go_meet
   case rel=>exact⟨rfl,rfl⟩
  obtain⟨rfl,rfl⟩:=hcut;clear h1 hlI;obtain⟨AA,hAA⟩:∃B,A=B:=⟨_,rfl⟩;subst hAA;go_upto_region 3 with fail;refine wp_region_specs_seq [.row ([⟨#[40]⟩]),.eq (.bool true),.eq (.slice A l.length cp),.row (sList (pr m) l),.row ([⟨#[41]⟩]),.rows ([[⟨#[40]⟩],sList (pr m) l,[⟨#[41]⟩]]),.row (pJ [[⟨#[40]⟩],sList (pr m) l,[⟨#[41]⟩]]),.row (pJ [[⟨#[40]⟩],sList (pr m) l,[⟨#[41]⟩]])] wc.heap.size (by kernel_rfl) ?steps ?fin
  case steps=>
   refine⟨?_,?_,?_,?_,?_,?_,?_,?_,trivial⟩
   ·intro a w' hb ho hr
    go_simp;exact⟨_,rfl,bA (bR _ _) _,NR.lits w' _ hb.size [⟨#[40]⟩] (by simp)⟩
   ·intro a w' hb ho hr
    have t0:a.tmps[0]? = some (.bool true):=ho 0 rfl;go_simp;exact⟨_,rfl,bR _ _,rfl⟩
   ·intro a w' hb ho hr
    have t1:a.tmps[1]? = some (.slice A l.length cp):=ho 1 rfl;go_simp;exact⟨_,rfl,bR _ _,rfl⟩
   ·intro a w' hb ho hr
    obtain⟨u1,d1,rfl⟩:=hr 1 _ _ rfl rfl rfl;obtain⟨u2,d2,rfl⟩:=hr 2 _ _ rfl rfl rfl;go_simp
    go_at_call 62
    refine(HL.out l HWL.out HO.out w' A cp HCP.out (Kd.C_below HC.out hb)).mono ?_;rintro e w8 ⟨u,rfl,hR,hB⟩;exact⟨_,rfl,hB,NR.lower hR hb.size⟩
   ·intro a w' hb ho hr
    go_simp;exact⟨_,rfl,bA (bR _ _) _,NR.lits w' _ hb.size [⟨#[41]⟩] (by simp)⟩
   ·intro a w' hb ho hr
    obtain⟨u0,d0,h0⟩:=hr 0 _ _ rfl rfl rfl;replace h0:NR w' wc.heap.size u0 ([⟨#[40]⟩]):=h0;obtain⟨A0,q0,rfl⟩:=h0.sl;obtain⟨u3,d3,h3⟩:=hr 3 _ _ rfl rfl rfl;replace h3:NR w' wc.heap.size u3 (sList (pr m) l):=h3;obtain⟨A3,q3,rfl⟩:=h3.sl;obtain⟨u4,d4,h4⟩:=hr 4 _ _ rfl rfl rfl;replace h4:NR w' wc.heap.size u4 ([⟨#[41]⟩]):=h4;obtain⟨A4,q4,rfl⟩:=h4.sl;go_simp;exact⟨_,rfl,bA (bR _ _) _,LR.lit (ps:=[(.slice A0 ([⟨#[40]⟩]).length q0,[⟨#[40]⟩]),(.slice A3 (sList (pr m) l).length q3,sList (pr m) l),(.slice A4 ([⟨#[41]⟩]).length q4,[⟨#[41]⟩])]) hb.size (LRs.cons h0 (LRs.cons h3 (LRs.cons h4 LRs.nil))) (by simp)⟩
   ·intro a w' hb ho hr
    obtain⟨u5,d5,h5⟩:=hr 5 _ _ rfl rfl rfl;replace h5:LR w' wc.heap.size u5 ([[⟨#[40]⟩],sList (pr m) l,[⟨#[41]⟩]]):=h5;go_simp
    go_at_call 60
    refine(join_q h5 (by simp) (by simp;omega)).mono ?_;rintro e w8 ⟨u,rfl,hR,hB⟩;exact⟨_,rfl,hB,NR.lower hR hb.size⟩
   ·intro a w' hb ho hr
    obtain⟨u6,d6,h6⟩:=hr 6 _ _ rfl rfl rfl;replace h6:NR w' wc.heap.size u6 (pJ [[⟨#[40]⟩],sList (pr m) l,[⟨#[41]⟩]]):=h6;obtain⟨A6,q6,rfl⟩:=h6.sl;go_simp;exact⟨_,rfl,bR _ _,h6⟩
  case fin=>
   intro a w' hb hd hs ho hr;obtain⟨u,du,hu⟩:=hr 7 _ _ rfl rfl;replace hu:NR w' wc.heap.size u (pJ [[⟨#[40]⟩],sList (pr m) l,[⟨#[41]⟩]]):=hu;go_wp2_with fail;refine⟨hd,u,by simp[results,Tryz.results103,du,go_sem],?_⟩;rw[HE.out];exact⟨u,rfl,hu,hb⟩
theorem flat_take(xs:List (List ByteArray))(i:Nat)(h:i<xs.length):(xs.take (i+1)).flatten=(xs.take i).flatten++xs[i]:=by
 rw[List.take_succ_eq_append_getElem h,List.flatten_append];simp
set_option maxRecDepth 10000 in
set_option maxHeartbeats 4000000 in
theorem block_pr(m:Nat)(hm:m<=6010)(hP:PA m)(hlen:∀s x,(pr m s x).length<=10*x.wt):PC 13 (m+1) .b (pr (m+1) .b):=by
 intro x hx hO w An cn Ak ck hk;have HO:=aM (show ∀y∈x.kids,Ok True .s y by cases hO with|block _ _ h=>exact h);have HP:=aM hP;have HC:=aM hk.kids.2;have HCT:=aM (fun i=>sum_take_le (fun y=>pr m .s y++[(⟨#[59]⟩:ByteArray)]) 10 1 (fun y=>by have:=hlen .s y;rw[List.length_append,List.length_singleton];omega) x.kids i);have HLN:=aM hlen;have hwx:=wt_eq x;have HWL:=aM (show wts x.kids<=m by omega);have hll:x.kids.length<=6010:=by have:=wts_len x.kids;omega
 have HV0:=aM (Vb.new w #[.int .i64 x.k,.string x.s,.float .f64 x.x,.int .i64 x.n,.bool x.b,(.slice An x.names.length cn),(.slice Ak x.kids.length ck)]);have HT:=aM (show Tw2 w ((w.alloc (.cells #[.int .i64 x.k,.string x.s,.float .f64 x.x,.int .i64 x.n,.bool x.b,(.slice An x.names.length cn),(.slice Ak x.kids.length ck)] 27)).alloc (.cells #[] 9)) (.slice (some ⟨w.heap.size+1,0,none⟩) 0 0) ((x.kids.map fun y=>pr m .s y++[(⟨#[59]⟩:ByteArray)]).take 0).flatten from⟨bA (bA (bR _ _) _) _,by have:=NR.lit0 (w.alloc (.cells #[.int .i64 x.k,.string x.s,.float .f64 x.x,.int .i64 x.n,.bool x.b,(.slice An x.names.length cn),(.slice Ak x.kids.length ck)] 27)) w.heap.size (by simp);simpa using this⟩);clear hP hO hlen hk hx hwx;go_enter Tryz.func13,Tryz.ntmps13
 obtain⟨v0,v1,v2,v3,v4,v5,v6⟩:=bC7 HV0.out
 go_upto_block 0 with fail
 generalize (w.alloc (.cells #[.int .i64 x.k,.string x.s,.float .f64 x.x,.int .i64 x.n,.bool x.b,(.slice An x.names.length cn),(.slice Ak x.kids.length ck)] 27)).alloc _=w1 at HT|-;clear HV0 v0 v1 v2 v3 v4 v5 v6;go_wp2_with fail;go_loopg [5,12] x.kids.length (fun k v5 v11 wr=>∃(i:Nat) (AL:Option Addr) (cL nL:Nat),v5 = .slice AL nL cL/\v11 = .int .i64 (i:Int)/\k=x.kids.length-i/\i<=x.kids.length/\Aside0 (nL=((x.kids.map fun y=>pr m .s y++[(⟨#[59]⟩:ByteArray)]).take i).flatten.length)/\Aside0 (Tw2 w wr (.slice AL nL cL) ((x.kids.map fun y=>pr m .s y++[(⟨#[59]⟩:ByteArray)]).take i).flatten))
 case atStart=>exact⟨0,_,_,_,rfl,rfl,rfl,Nat.zero_le _,⟨rfl⟩,HT⟩
 case round=>
  clear HT;obtain⟨i,AL,cL,nL,rfl,rfl,hk,hi,HNL,HT⟩:=hrel
  by_cases hlt:i<x.kids.length
  case neg=>
   have hltI:¬((i:Int)<(x.kids.length:Int)):=by omega
   go_wp2_with fail;go_ret;have e:((x.kids.map fun y=>pr m .s y++[(⟨#[59]⟩:ByteArray)]).take i).flatten=pr (m+1) .b x:=by
    show _=sBlock (pr m) x
    unfold sBlock;rw[List.take_of_length_le (by rw[List.length_map];omega)]
   rw[<-e];exact HT.out.out
  case pos=>
   have hltI:(i:Int)<(x.kids.length:Int):=by omega
   have h0I:(0:Int)<=(i:Int):=by omega
   have qi:IntKind.i64.wrap ((i:Int)+1)=((i+1:Nat):Int):=by rw[IntWalk.i64_in _ (by omega)];omega
   obtain⟨ad,y,Bn,dn,Bk,dk,rfl,hy,hym,x0,x1,x2,x3,x4,x5,x6,hky⟩:=kid_at HC.out (bR w.heap.size w) i hlt;replace x0:=pB HT.out.b x0;replace x1:=pB HT.out.b x1;replace x2:=pB HT.out.b x2;replace x3:=pB HT.out.b x3;replace x4:=pB HT.out.b x4;replace x5:=pB HT.out.b x5;replace x6:=pB HT.out.b x6;have ei:((i:Nat):Int).toNat=i:=by omega
   have HK:=aM (hky.below (bA HT.out.b (.cells #[.int .i64 y.k,.string y.s,.float .f64 y.x,.int .i64 y.n,.bool y.b,(.slice Bn y.names.length dn),(.slice Bk y.kids.length dk)] 27)));have HOY:=aM (HO.out y hym);have HWY:=aM (show y.wt<=m by have:=wts_mem hym;have:=HWL.out;omega);have HYL:=aM (show(pr m .s y).length<=60100 by have:=HLN.out .s y;have:=HWY.out;omega);have HYI:=aM (show((x.kids.map fun y=>pr m .s y++[(⟨#[59]⟩:ByteArray)]).take (i+1)).flatten=((x.kids.map fun y=>pr m .s y++[(⟨#[59]⟩:ByteArray)]).take i).flatten++(pr m .s y++[(⟨#[59]⟩:ByteArray)]) from by
    rw[flat_take _ i (by rw[List.length_map];exact hlt),List.getElem_map];rw[List.getElem?_eq_getElem hlt] at hy;rw[Option.some.inj hy])
   have HLI:=aM (show((x.kids.map fun y=>pr m .s y++[(⟨#[59]⟩:ByteArray)]).take i).flatten.length<=70000 by have:=HCT.out i;have:=HWL.out;omega);have HT2:=aM (HT.out.alloc (.cells #[.int .i64 y.k,.string y.s,.float .f64 y.x,.int .i64 y.n,.bool y.b,(.slice Bn y.names.length dn),(.slice Bk y.kids.length dk)] 27));have HV:=aM (Vb.new wr #[.int .i64 y.k,.string y.s,.float .f64 y.x,.int .i64 y.n,.bool y.b,(.slice Bn y.names.length dn),(.slice Bk y.kids.length dk)]);clear hky hy hym;obtain⟨LL,hLL⟩:∃l,((x.kids.map fun y=>pr m .s y++[(⟨#[59]⟩:ByteArray)]).take i).flatten=l:=⟨_,rfl⟩;rw[hLL] at HYI HLI HT2 HNL;clear HT hLL;go_upto_region 5 with fail;generalize wr.alloc _=w2 at HT2 HK HV|-;generalize wr.heap.size=n7 at HV|-;obtain⟨v0,v1,v2,v3,v4,v5,v6⟩:=bC7 HV.out;go_wp2_with fail;refine(HP.out.s y HWY.out HOY.out w2 Bn dn Bk dk HK.out).mono ?_;rintro e w8 ⟨u,rfl,hR,hB⟩;obtain⟨Au,cu,rfl⟩:=hR.sl;have HR:=aM hR;have HT3:=aM (HT2.out.below hB);clear hR hB HT2;go_wp2_with (at_builtin;first|(refine Tw2.cat rfl (.tmp 16) (.tmp 19) (by rfl) (by rfl) (by rfl) HT3.out HR.out (by have:=HYL.out;have:=HLI.out;omega) ?_;intro A9 c9 w9 h9 v9;have H9:=aM h9;clear h9 v9)|(refine Tw2.push rfl (.tmp 20) (.tmp 21) (by rfl) (by rfl) (by rfl) H9.out (by rfl) ⟨#[59]⟩ (by have:=HYL.out;have:=HLI.out;simp only[List.length_append];omega) ?_;intro A7 c7 w7 h7 v7;have H7:=aM h7;clear h7 v7))
   go_roundg (x.kids.length-(i+1))
   case measure=>omega
   case rel=>exact⟨i+1,A7,c7,_,rfl,by first|rfl|simp[qi],rfl,by omega,⟨by rw[HYI.out];simp only[List.length_append,List.length_cons,List.length_nil];omega⟩,by rw[HYI.out];simpa using H7⟩
theorem pNames_nil(ns:List ByteArray):ns=[]↔pNames ns=[]:=by
 cases ns with
 |nil=>simp[pNames,pComma]
 |cons a r=>
  cases r with
  |nil=>simp[pNames,pComma]
  |cons b r=>simp[pNames,pComma,List.intersperse]
set_option maxRecDepth 10000 in
set_option maxHeartbeats 4000000 in
theorem body_pr(m:Nat)(hm:m<=6010)(hP:PA m)(hlen:∀s x,(pr m s x).length<=10*x.wt):BD m:=by
 intro x y hky0 oy hx w An cn Ak ck hk;have HP:=aM hP;have HY:=aM hky0;have HOy:=aM oy;have HN0:=aM hk.names;have HNK:=aM hk;have hwx:=wt_eq x;rw[hky0] at hwx;simp only[wts] at hwx;have hly:=hlen .b y;have hnl:=pNames_len x.names;have hl2:x.kids.length=1:=by rw[hky0];rfl
 have hl0:0<x.kids.length:=by omega
 have hl0I:(0:Int)<(x.kids.length:Int):=by omega
 obtain⟨ad,y',Bn,dn,Bk,dk,rfl,hy,_,x0,x1,x2,x3,x4,x5,x6,hky⟩:=kid_at hk.kids.2 (bR w.heap.size w) 0 (by omega);obtain rfl:y=y':=by rw[hky0] at hy;simpa using hy
 simp only[Nat.zero_mul,Addr.add_zero'] at x0 x1 x2 x3 x4 x5 x6;have HKy:=aM hky;have HWy:=aM (show y.wt<=m by omega);clear hk hP hky0 oy hl2 hy hky hlen;have HV:=aM (Vb.new w #[.int .i64 x.k,.string x.s,.float .f64 x.x,.int .i64 x.n,.bool x.b,(.slice An x.names.length cn),(.slice (some ad) x.kids.length ck)]);have HB:=aM (bA (bR w.heap.size w) (.cells #[.int .i64 x.k,.string x.s,.float .f64 x.x,.int .i64 x.n,.bool x.b,(.slice An x.names.length cn),(.slice (some ad) x.kids.length ck)] 27));go_enter Tryz.func67,Tryz.ntmps67
 go_upto_region 1 with fail;generalize w.alloc _=w1 at HV HB|-;have v5:=bC HV.out 5;have hcn:=HN0.out.1;go_wp2_with fail;refine(prNames_q (Kd.C_below HN0.out.2 HB.out) hcn (by omega)).mono ?_;rintro e w2 ⟨u,rfl,hR,hb⟩;obtain⟨Au,cu,rfl⟩:=hR.sl;have HT:=aM (show Tw2 w w2 (.slice Au (pNames x.names).length cu) (pNames x.names) from⟨HB.out.trans (hb.mono HB.out.size),hR.lower HB.out.size⟩);replace HV:=aM (HV.out.below hb);replace v5:=bC HV.out 5;have v4:=bC HV.out 4;clear hb hR HB;have hne:=pNames_nil x.names;obtain⟨PN,hPN⟩:∃l,pNames x.names=l:=⟨_,rfl⟩;have HPN:=aM hPN;rw[hPN] at HT hnl hne|-;have HNE:=aM hne;clear hPN hne;obtain⟨fl,hfl⟩:∃b,x.b=b:=⟨_,rfl⟩;have HFL:=aM hfl;rw[hfl] at v4;clear hfl
 go_upto_if 10 with fail
 go_cut [5] from 11 to 19 (fun v wc=>∃(L:List ByteArray) (A:Option Addr) (cp:Nat),v = .slice A L.length cp/\L.length<=2*x.names.length+2/\Aside0 (L=if x.b=true then(if x.names=[] then pNames x.names else pNames x.names++[⟨#[44]⟩])++[⟨#[46,46,46]⟩] else pNames x.names)/\Aside0 (Tw2 w wc (.slice A L.length cp) L)/\Aside0 (Vb wc w.heap.size #[.int .i64 x.k,.string x.s,.float .f64 x.x,.int .i64 x.n,.bool x.b,(.slice An x.names.length cn),(.slice (some ad) x.kids.length ck)]))
 case first=>
  cases fl with
  |false=>
   go_wp2_with fail;go_meet
   case rel=>exact⟨PN,Au,cu,rfl,by omega,⟨by rw[HFL.out,HPN.out];rfl⟩,HT,HV⟩
  |true=>
   by_cases h0:PN=[]
   case pos=>
    subst h0;have hnx:=HNE.out.2 rfl;have HNX:=aM hnx;clear hnx;have hlz:¬((([]:List ByteArray).length:Int)>0):=by simp
    go_wp2_with (at_builtin;refine Tw2.push rfl (.tmp 17) (.tmp 18) (by rfl) (by rfl) (by rfl) HT.out (by rfl) ⟨#[46,46,46]⟩ (by simp) ?_;intro A8 c8 w9 h9 v9;have H9:=aM h9;have HV9:=aM (v9 _ _ HV.out);clear h9 v9)
    go_meet
    case rel=>exact⟨[⟨#[46,46,46]⟩],A8,c8,rfl,by simp,⟨by rw[HFL.out,HPN.out,if_pos rfl,if_pos HNX.out];rfl⟩,H9,HV9⟩
   case neg=>
    have hnx:¬x.names=[]:=fun h=>h0 (HNE.out.1 h)
    have HNX:=aM hnx;have hlp:(PN.length:Int)>0:=by have:=List.length_pos_iff.2 h0;omega
    clear hnx h0;go_wp2_with (at_builtin;first|(refine Tw2.push rfl (.tmp 14) (.tmp 15) (by rfl) (by rfl) (by rfl) HT.out (by rfl) ⟨#[44]⟩ (by omega) ?_;intro A8 c8 w9 h9 v9;have H9:=aM h9;have HV9:=aM (v9 _ _ HV.out);clear h9 v9)|(refine Tw2.push rfl (.tmp 17) (.tmp 18) (by rfl) (by rfl) (by rfl) H9.out (by rfl) ⟨#[46,46,46]⟩ (by simp only[List.length_append,List.length_singleton];omega) ?_;intro A7 c7 w7 h7 v7;have H7:=aM h7;have HV7:=aM (v7 _ _ HV9.out);clear h7 v7))
    go_meet
    case rel=>exact⟨(PN++[⟨#[44]⟩])++[⟨#[46,46,46]⟩],A7,c7,by simp,by simp only[List.length_append,List.length_cons,List.length_nil];omega,⟨by rw[HFL.out,HPN.out,if_pos rfl,if_neg HNX.out]⟩,by simpa using H7,HV7⟩
 clear HT HV v4 v5;obtain⟨L,A9,c9,rfl,hLl,HL,HT,HV⟩:=hcut;obtain⟨v0,v1,v2,v3,v4,v5,v6⟩:=bC7 HV.out;replace v6:wc.cell? ⟨w.heap.size,6,none⟩=some (.slice (some ad) x.kids.length ck):=v6;replace x0:=pB HT.out.b x0;replace x1:=pB HT.out.b x1;replace x2:=pB HT.out.b x2;replace x3:=pB HT.out.b x3;replace x4:=pB HT.out.b x4;replace x5:=pB HT.out.b x5;replace x6:=pB HT.out.b x6;go_upto_region 6 with fail;refine wp_region_specs_seq [.row ([⟨#[40]⟩]),.row (L),.row ([⟨#[41]⟩]),.eq (.bool true),.eq (.pointer (some ⟨w.heap.size,6,none⟩)),.eq (.slice (some ad) x.kids.length ck),.eq (.pointer (some ad)),.eq (.agg #[.int .i64 y.k,.string y.s,.float .f64 y.x,.int .i64 y.n,.bool y.b,(.slice Bn y.names.length dn),(.slice Bk y.kids.length dk)]),.row (pr m .b y),.row ([⟨#[101,110,100]⟩]),.rows ([[⟨#[40]⟩],L,[⟨#[41]⟩],pr m .b y,[⟨#[101,110,100]⟩]]),.row (pJ [[⟨#[40]⟩],L,[⟨#[41]⟩],pr m .b y,[⟨#[101,110,100]⟩]]),.row (pJ [[⟨#[40]⟩],L,[⟨#[41]⟩],pr m .b y,[⟨#[101,110,100]⟩]])] (w.heap.size) (by kernel_rfl) ?steps ?fin
 case steps=>
  refine⟨?_,?_,?_,?_,?_,?_,?_,?_,?_,?_,?_,?_,?_,trivial⟩
  ·intro a w' hb ho hr
   go_simp;exact⟨_,rfl,bA (bR _ _) _,NR.lits w' _ (Nat.le_trans HT.out.b.size hb.size) [⟨#[40]⟩] (by simp)⟩
  ·intro a w' hb ho hr
   have t5:a.tmps[5]? = some (.slice A9 L.length c9):=ho 5 rfl;go_simp;exact⟨_,rfl,bR _ _,(HT.out.r.below hb)⟩
  ·intro a w' hb ho hr
   go_simp;exact⟨_,rfl,bA (bR _ _) _,NR.lits w' _ (Nat.le_trans HT.out.b.size hb.size) [⟨#[41]⟩] (by simp)⟩
  ·intro a w' hb ho hr
   have t0:a.tmps[0]? = some (.bool true):=ho 0 rfl;go_simp;exact⟨_,rfl,bR _ _,rfl⟩
  ·intro a w' hb ho hr
   have t3:a.tmps[3]? = some (.pointer (some ⟨w.heap.size,0,none⟩)):=ho 3 rfl;go_simp;exact⟨_,rfl,bR _ _,rfl⟩
  ·intro a w' hb ho hr
   obtain⟨u4,d4,rfl⟩:=hr 4 _ _ rfl rfl rfl;have c0:=pB hb v6;go_simp;exact⟨_,rfl,bR _ _,rfl⟩
  ·intro a w' hb ho hr
   obtain⟨u5,d5,rfl⟩:=hr 5 _ _ rfl rfl rfl;go_simp;exact⟨_,rfl,bR _ _,rfl⟩
  ·intro a w' hb ho hr
   obtain⟨u6,d6,rfl⟩:=hr 6 _ _ rfl rfl rfl;obtain⟨c0,c1,c2,c3,c4,c5,c6⟩:=pB7 hb x0 x1 x2 x3 x4 x5 x6;go_simp;exact⟨_,rfl,bR _ _,rfl⟩
  ·intro a w' hb ho hr
   obtain⟨u3,d3,rfl⟩:=hr 3 _ _ rfl rfl rfl;obtain⟨u7,d7,rfl⟩:=hr 7 _ _ rfl rfl rfl;go_simp
   go_at_call 13
   refine(HP.out.b y HWy.out HOy.out w' Bn dn Bk dk (HKy.out.below (HT.out.b.trans (hb.mono HT.out.b.size)))).mono ?_;rintro e w8 ⟨u,rfl,hR,hB⟩;exact⟨_,rfl,hB,NR.lower hR (Nat.le_trans HT.out.b.size hb.size)⟩
  ·intro a w' hb ho hr
   go_simp;exact⟨_,rfl,bA (bR _ _) _,NR.lits w' _ (Nat.le_trans HT.out.b.size hb.size) [⟨#[101,110,100]⟩] (by simp)⟩
  ·intro a w' hb ho hr
   obtain⟨u0,d0,h0⟩:=hr 0 _ _ rfl rfl rfl;replace h0:NR w' w.heap.size u0 ([⟨#[40]⟩]):=h0;obtain⟨A0,q0,rfl⟩:=h0.sl;obtain⟨u1,d1,h1⟩:=hr 1 _ _ rfl rfl rfl;replace h1:NR w' w.heap.size u1 (L):=h1;obtain⟨A1,q1,rfl⟩:=h1.sl;obtain⟨u2,d2,h2⟩:=hr 2 _ _ rfl rfl rfl;replace h2:NR w' w.heap.size u2 ([⟨#[41]⟩]):=h2;obtain⟨A2,q2,rfl⟩:=h2.sl;obtain⟨u8,d8,h8⟩:=hr 8 _ _ rfl rfl rfl;replace h8:NR w' w.heap.size u8 (pr m .b y):=h8;obtain⟨A8,q8,rfl⟩:=h8.sl;obtain⟨u9,d9,h9⟩:=hr 9 _ _ rfl rfl rfl;replace h9:NR w' w.heap.size u9 ([⟨#[101,110,100]⟩]):=h9;obtain⟨A9,q9,rfl⟩:=h9.sl;go_simp;exact⟨_,rfl,bA (bR _ _) _,LR.lit (ps:=[(.slice A0 ([⟨#[40]⟩]).length q0,[⟨#[40]⟩]),(.slice A1 (L).length q1,L),(.slice A2 ([⟨#[41]⟩]).length q2,[⟨#[41]⟩]),(.slice A8 (pr m .b y).length q8,pr m .b y),(.slice A9 ([⟨#[101,110,100]⟩]).length q9,[⟨#[101,110,100]⟩])]) (Nat.le_trans HT.out.b.size hb.size) (LRs.cons h0 (LRs.cons h1 (LRs.cons h2 (LRs.cons h8 (LRs.cons h9 LRs.nil))))) (by simp)⟩
  ·intro a w' hb ho hr
   obtain⟨u10,d10,h10⟩:=hr 10 _ _ rfl rfl rfl;replace h10:LR w' w.heap.size u10 ([[⟨#[40]⟩],L,[⟨#[41]⟩],pr m .b y,[⟨#[101,110,100]⟩]]):=h10;go_simp
   go_at_call 60
   refine(join_q h10 (by simp) (by simp;omega)).mono ?_;rintro e w8 ⟨u,rfl,hR,hB⟩;exact⟨_,rfl,hB,NR.lower hR (Nat.le_trans HT.out.b.size hb.size)⟩
  ·intro a w' hb ho hr
   obtain⟨u11,d11,h11⟩:=hr 11 _ _ rfl rfl rfl;replace h11:NR w' w.heap.size u11 (pJ [[⟨#[40]⟩],L,[⟨#[41]⟩],pr m .b y,[⟨#[101,110,100]⟩]]):=h11;obtain⟨A11,q11,rfl⟩:=h11.sl;go_simp;exact⟨_,rfl,bR _ _,h11⟩
 case fin=>
  intro a w' hb hd hs ho hr;obtain⟨u,du,hu⟩:=hr 12 _ _ rfl rfl;replace hu:NR w' w.heap.size u (pJ [[⟨#[40]⟩],L,[⟨#[41]⟩],pr m .b y,[⟨#[101,110,100]⟩]]):=hu;go_wp2_with fail;have e:sBody (pr m) x x.names=pJ [[⟨#[40]⟩],L,[⟨#[41]⟩],pr m .b y,[⟨#[101,110,100]⟩]]:=by
   unfold sBody;rw[HL.out];have k0:kid x 0=y:=by unfold kid;rw[HY.out];rfl
   rw[k0]
   rfl
  refine⟨hd,u,by simp[results,Tryz.results67,du,go_sem],?_⟩;rw[e];exact⟨u,rfl,hu,HT.out.b.trans (hb.mono HT.out.b.size)⟩
def ND(m:Nat):Prop:=∀(t x y:Nd),Ok True .e t->t.wt<=m->x.kids=[y]->Ok True .b y->x.wt<=m+1->∀(w:World) (Tn:Option Addr) (tn:Nat) (Tk:Option Addr) (tk:Nat) (An:Option Addr) (cn:Nat) (Ak:Option Addr) (ck:Nat),NK w t Tn tn Tk tk->NK w x An cn Ak ck->
 Calls Tryz.prog 64 #[.bool true,.agg #[.int .i64 t.k,.string t.s,.float .f64 t.x,.int .i64 t.n,.bool t.b,(.slice Tn t.names.length tn),(.slice Tk t.kids.length tk)],.agg #[.int .i64 x.k,.string x.s,.float .f64 x.x,.int .i64 x.n,.bool x.b,(.slice An x.names.length cn),(.slice Ak x.kids.length ck)]] w fun e w'=>OutR w (sNamed (pr m) t x) e w'
set_option maxRecDepth 10000 in
set_option maxHeartbeats 4000000 in
theorem named_pr(m:Nat)(hm:m<=6010)(hP:PA m)(hlen:∀s x,(pr m s x).length<=10*x.wt)(hBd:BD m)(hBl:∀x ns,(sBody (pr m) x ns).length<=20*(x.wt+ns.length)+10):ND m:=by
 intro t x y hO ht hky oy hx w Tn tn Tk tk An cn Ak ck hkt hkx;have HP:=aM hP;have HBD:=aM hBd;have HLN:=aM hlen;have HBL:=aM hBl;have HO:=aM hO;have HT:=aM ht;have HX:=aM hx;have HKY:=aM hky;have HOY:=aM oy;have HNT:=aM hkt;have HNX:=aM hkx;clear hP hBd hlen hBl hO ht hx hky oy hkt hkx;have HVT:=aM ((Vb.new w #[.int .i64 t.k,.string t.s,.float .f64 t.x,.int .i64 t.n,.bool t.b,(.slice Tn t.names.length tn),(.slice Tk t.kids.length tk)]).alloc (.cells #[.int .i64 x.k,.string x.s,.float .f64 x.x,.int .i64 x.n,.bool x.b,(.slice An x.names.length cn),(.slice Ak x.kids.length ck)] 27));have HVN:=aM (show Vb ((w.alloc (.cells #[.int .i64 t.k,.string t.s,.float .f64 t.x,.int .i64 t.n,.bool t.b,(.slice Tn t.names.length tn),(.slice Tk t.kids.length tk)] 27)).alloc (.cells #[.int .i64 x.k,.string x.s,.float .f64 x.x,.int .i64 x.n,.bool x.b,(.slice An x.names.length cn),(.slice Ak x.kids.length ck)] 27)) (w.heap.size+1) #[.int .i64 x.k,.string x.s,.float .f64 x.x,.int .i64 x.n,.bool x.b,(.slice An x.names.length cn),(.slice Ak x.kids.length ck)] by have:=Vb.new (w.alloc (.cells #[.int .i64 t.k,.string t.s,.float .f64 t.x,.int .i64 t.n,.bool t.b,(.slice Tn t.names.length tn),(.slice Tk t.kids.length tk)] 27)) #[.int .i64 x.k,.string x.s,.float .f64 x.x,.int .i64 x.n,.bool x.b,(.slice An x.names.length cn),(.slice Ak x.kids.length ck)];simpa using this);have HB:=aM (bA (bA (bR w.heap.size w) (.cells #[.int .i64 t.k,.string t.s,.float .f64 t.x,.int .i64 t.n,.bool t.b,(.slice Tn t.names.length tn),(.slice Tk t.kids.length tk)] 27)) (.cells #[.int .i64 x.k,.string x.s,.float .f64 x.x,.int .i64 x.n,.bool x.b,(.slice An x.names.length cn),(.slice Ak x.kids.length ck)] 27));go_enter Tryz.func64,Tryz.ntmps64
 go_upto_region 1 with fail;generalize (w.alloc (.cells #[.int .i64 t.k,.string t.s,.float .f64 t.x,.int .i64 t.n,.bool t.b,(.slice Tn t.names.length tn),(.slice Tk t.kids.length tk)] 27)).alloc _=w1 at HVT HVN HB|-;obtain⟨v0,v1,v2,v3,v4,v5,v6⟩:=bC7 HVT.out;obtain⟨n0,n1,n2,n3,n4,n5,n6⟩:=bC7 HVN.out;replace HNT:=aM (HNT.out.below HB.out);replace HNX:=aM (HNX.out.below HB.out)
 go_cut [23] from 8 to 23 (fun v wc=>∃b:Bool,v = .bool b/\Aside0 (b=decide (t.k=28/\x.names.head? = some ⟨#[115,101,108,102]⟩))/\wc=w1)
 case first=>
  by_cases h28:t.k=28
  case neg=>
   have hb:(t.k==28)=false:=beq_eq_false_iff_ne.2 h28;have H:=aM (show false=decide (t.k=28/\x.names.head? = some ⟨#[115,101,108,102]⟩) by simp[h28]);clear h28;go_wp2_with fail;go_meet
   case rel=>exact⟨false,rfl,H,rfl⟩
  case pos=>
   have hb:(t.k==28)=true:=beq_iff_eq.2 h28;have H28:=aM h28;clear h28
   by_cases hn:x.names=[]
   case pos=>
    have hz:¬((x.names.length:Int)>0):=by rw[hn];simp
    have H:=aM (show false=decide (t.k=28/\x.names.head? = some ⟨#[115,101,108,102]⟩) by rw[hn];simp);clear hn;go_wp2_with fail;go_meet
    case rel=>exact⟨false,rfl,H,rfl⟩
   case neg=>
    have hpos:=List.length_pos_iff.2 hn;have hz:(x.names.length:Int)>0:=by omega
    have hz0:(0:Int)<(x.names.length:Int):=by omega
    obtain⟨an,rfl,hx0⟩:=Kd.at_string HNX.out.names.2 0 (by omega) (by omega)
    have hhd:x.names.head? = some (rdOf ByteArray.empty x.names 0):=by
     cases hc:x.names with
     |nil=>exact absurd hc hn
     |cons a r=>rfl
    simp only[Int.toNat_zero,Nat.zero_mul,Addr.add_zero'] at hx0;generalize rdOf ByteArray.empty x.names 0=nm at hx0 hhd;obtain⟨bs,hbs⟩:∃b:Bool,(nm.toList==[115,101,108,102])=b:=⟨_,rfl⟩;have H:=aM (show bs=decide (t.k=28/\x.names.head? = some ⟨#[115,101,108,102]⟩) by
     have e:([115,101,108,102]:List UInt8)=(⟨#[115,101,108,102]⟩:ByteArray).toList:=by rw[ByteArray.toList_eq]
     have hbs2:(nm.toList==(⟨#[115,101,108,102]⟩:ByteArray).toList)=bs:=by rw[<-e];exact hbs
     rw[hhd,<-hbs2,Bool.eq_iff_iff,beq_iff_eq,toList_iff,decide_eq_true_iff]
     constructor
     ·intro h
      exact⟨H28.out,by rw[bytesOf_inj h]⟩
     ·rintro⟨_,h⟩
      rw[Option.some.inj h])
    clear hn hhd;go_wp2_with fail;go_meet
    case rel=>exact⟨bs,rfl,H,rfl⟩
 obtain⟨b23,rfl,HBB,rfl⟩:=hcut
 cases b23 with
 |false=>
  have HS:=aM (show sNamed (pr m) t x=pJ [[⟨#[102,117,110,99,116,105,111,110]⟩],pr m .e t,sBody (pr m) x x.names] by
   unfold sNamed;rw[if_neg (of_decide_eq_false HBB.out.symm)]
   rfl)
  have hl1:=HLN.out .e t;have hl2:=HBL.out x x.names;have hl3:=HT.out;have hl4:=HX.out;have hl5:x.names.length<=x.wt:=by have:=wt_eq x;omega
  go_upto_region 5 with fail;refine wp_region_specs [.row ([⟨#[102,117,110,99,116,105,111,110]⟩]),.eq (.bool true),.eq (.agg #[.int .i64 t.k,.string t.s,.float .f64 t.x,.int .i64 t.n,.bool t.b,(.slice Tn t.names.length tn),(.slice Tk t.kids.length tk)]),.row (pr m .e t),.eq (.bool true),.eq (.agg #[.int .i64 x.k,.string x.s,.float .f64 x.x,.int .i64 x.n,.bool x.b,(.slice An x.names.length cn),(.slice Ak x.kids.length ck)]),.row (sBody (pr m) x x.names),.rows ([[⟨#[102,117,110,99,116,105,111,110]⟩],pr m .e t,sBody (pr m) x x.names]),.row (pJ [[⟨#[102,117,110,99,116,105,111,110]⟩],pr m .e t,sBody (pr m) x x.names]),.row (pJ [[⟨#[102,117,110,99,116,105,111,110]⟩],pr m .e t,sBody (pr m) x x.names])] (wc.heap.size) (by rfl) (by kernel_rfl) ?steps ?fin
  case steps=>
   refine⟨?_,?_,?_,?_,?_,?_,?_,?_,?_,?_,trivial⟩
   ·intro a w' hb ho hr
    go_simp;exact⟨_,rfl,bA (bR _ _) _,NR.lits w' _ (hb.size) [⟨#[102,117,110,99,116,105,111,110]⟩] (by simp)⟩
   ·intro a w' hb ho hr
    have t0:a.tmps[0]? = some (.bool true):=ho 0 rfl;go_simp;exact⟨_,rfl,bR _ _,rfl⟩
   ·intro a w' hb ho hr
    have t4:a.tmps[4]? = some (.pointer (some ⟨w.heap.size,0,none⟩)):=ho 4 rfl;obtain⟨c0,c1,c2,c3,c4,c5,c6⟩:=pB7 hb v0 v1 v2 v3 v4 v5 v6;go_simp;exact⟨_,rfl,bR _ _,rfl⟩
   ·intro a w' hb ho hr
    obtain⟨u1,d1,rfl⟩:=hr 1 _ _ rfl rfl rfl;obtain⟨u2,d2,rfl⟩:=hr 2 _ _ rfl rfl rfl;go_simp
    go_at_call 65
    refine(HP.out.e t HT.out HO.out w' Tn tn Tk tk (HNT.out.below hb)).mono ?_;rintro e w8 ⟨u,rfl,hR,hB⟩;exact⟨_,rfl,hB,NR.lower hR (hb.size)⟩
   ·intro a w' hb ho hr
    have t0:a.tmps[0]? = some (.bool true):=ho 0 rfl;go_simp;exact⟨_,rfl,bR _ _,rfl⟩
   ·intro a w' hb ho hr
    have t5:a.tmps[5]? = some (.pointer (some ⟨w.heap.size+1,0,none⟩)):=ho 5 rfl;obtain⟨c0,c1,c2,c3,c4,c5,c6⟩:=pB7 hb n0 n1 n2 n3 n4 n5 n6;go_simp;exact⟨_,rfl,bR _ _,rfl⟩
   ·intro a w' hb ho hr
    obtain⟨u4,d4,rfl⟩:=hr 4 _ _ rfl rfl rfl;obtain⟨u5,d5,rfl⟩:=hr 5 _ _ rfl rfl rfl;go_simp
    go_at_call 67
    refine(HBD.out x y HKY.out HOY.out HX.out w' An cn Ak ck (HNX.out.below hb)).mono ?_;rintro e w8 ⟨u,rfl,hR,hB⟩;exact⟨_,rfl,hB,NR.lower hR (hb.size)⟩
   ·intro a w' hb ho hr
    obtain⟨u0,d0,h0⟩:=hr 0 _ _ rfl rfl rfl;replace h0:NR w' wc.heap.size u0 ([⟨#[102,117,110,99,116,105,111,110]⟩]):=h0;obtain⟨A0,q0,rfl⟩:=h0.sl;obtain⟨u3,d3,h3⟩:=hr 3 _ _ rfl rfl rfl;replace h3:NR w' wc.heap.size u3 (pr m .e t):=h3;obtain⟨A3,q3,rfl⟩:=h3.sl;obtain⟨u6,d6,h6⟩:=hr 6 _ _ rfl rfl rfl;replace h6:NR w' wc.heap.size u6 (sBody (pr m) x x.names):=h6;obtain⟨A6,q6,rfl⟩:=h6.sl;go_simp;exact⟨_,rfl,bA (bR _ _) _,LR.lit (ps:=[(.slice A0 ([⟨#[102,117,110,99,116,105,111,110]⟩]).length q0,[⟨#[102,117,110,99,116,105,111,110]⟩]),(.slice A3 (pr m .e t).length q3,pr m .e t),(.slice A6 (sBody (pr m) x x.names).length q6,sBody (pr m) x x.names)]) (hb.size) (LRs.cons h0 (LRs.cons h3 (LRs.cons h6 LRs.nil))) (by simp)⟩
   ·intro a w' hb ho hr
    obtain⟨u7,d7,h7⟩:=hr 7 _ _ rfl rfl rfl;replace h7:LR w' wc.heap.size u7 ([[⟨#[102,117,110,99,116,105,111,110]⟩],pr m .e t,sBody (pr m) x x.names]):=h7;go_simp
    go_at_call 60
    refine(join_q h7 (by simp) (by simp;omega)).mono ?_;rintro e w8 ⟨u,rfl,hR,hB⟩;exact⟨_,rfl,hB,NR.lower hR (hb.size)⟩
   ·intro a w' hb ho hr
    obtain⟨u8,d8,h8⟩:=hr 8 _ _ rfl rfl rfl;replace h8:NR w' wc.heap.size u8 (pJ [[⟨#[102,117,110,99,116,105,111,110]⟩],pr m .e t,sBody (pr m) x x.names]):=h8;obtain⟨A8,q8,rfl⟩:=h8.sl;go_simp;exact⟨_,rfl,bR _ _,h8⟩
  case fin=>
   intro a w' hb hd hs ho hr;obtain⟨u,du,hu⟩:=hr 9 _ _ rfl rfl;replace hu:NR w' wc.heap.size u (pJ [[⟨#[102,117,110,99,116,105,111,110]⟩],pr m .e t,sBody (pr m) x x.names]):=hu;go_wp2_with fail;refine⟨hd,u,by simp[results,Tryz.results64,du,go_sem],?_⟩;rw[HS.out];exact⟨u,rfl,hu.lower HB.out.size,HB.out.trans (hb.mono HB.out.size)⟩
 |true=>
  have hcc:=of_decide_eq_true HBB.out.symm;have HHD:=aM hcc.2;obtain⟨p,q,hpq,op,oq⟩:=HO.out.index hcc.1;have HS:=aM (show sNamed (pr m) t x=pJ [[⟨#[102,117,110,99,116,105,111,110]⟩],pr m .e p,[⟨#[58]⟩,q.s],sBody (pr m) x (x.names.drop 1)] by
   have k0:kid t 0=p:=by unfold kid;rw[hpq];rfl
   have k1:kid t 1=q:=by unfold kid;rw[hpq];rfl
   unfold sNamed;rw[if_pos hcc,k0,k1]
   rfl)
  have hwt:=wt_eq t;rw[hpq] at hwt;simp only[wts] at hwt;have hl3:=HT.out;have hl4:=HX.out;have hl1:=HLN.out .e p;have hl2:=HBL.out x (x.names.drop 1);have hl5:(x.names.drop 1).length<=x.wt:=by have:=wt_eq x;simp;omega
  have hl6:t.kids.length=2:=by rw[hpq];rfl
  have hl7:0<t.kids.length:=by omega
  have hl8:1<t.kids.length:=by omega
  have hl7I:(0:Int)<(t.kids.length:Int):=by omega
  have hl8I:(1:Int)<(t.kids.length:Int):=by omega
  have hnp:0<x.names.length:=by
   rcases hc:x.names with _|⟨a,r⟩
   ·have:=hcc.2;rw[hc] at this;cases this
   ·simp
  have hnp1:1<=x.names.length:=by omega
  have hnp1I:(1:Int)<=(x.names.length:Int):=by omega
  have hncap:=HNX.out.names.1;have hcn0:¬cn=0:=by omega
  obtain⟨ad,p',Pn,pn,Pk,pk,rfl,hp,_,x0,x1,x2,x3,x4,x5,x6,hkp⟩:=kid_at HNT.out.kids.2 (bR wc.heap.size wc) 0 (by omega);obtain⟨ad',q',Cn,en,Ck,ek,had,hq,_,z0,z1,z2,z3,z4,z5,z6,hkq⟩:=kid_at HNT.out.kids.2 (bR wc.heap.size wc) 1 (by omega);cases had
  obtain rfl:p=p':=by rw[hpq] at hp;simpa using hp
  obtain rfl:q=q':=by rw[hpq] at hq;simpa using hq
  simp only[Nat.zero_mul,Addr.add_zero'] at x0 x1 x2 x3 x4 x5 x6;replace z1:wc.cell? ⟨ad.block,ad.off+8,none⟩=some (.string q.s):=z1;have HKP:=aM hkp;have HOP:=aM op;have HWP:=aM (show p.wt<=m by omega);obtain⟨ND,hNDq⟩:∃l,x.names.drop 1=l:=⟨_,rfl⟩;rw[hNDq] at HS hl2 hl5;obtain⟨an,rfl,_⟩:=Kd.at_string HNX.out.names.2 0 (by omega) (by omega)
  have hcs:=Kd.C_drop HNX.out.names.2 (m:=1) hnp1 hncap;obtain⟨AS,hAS⟩:∃B,B=(if cn=1 then some an else some ⟨an.block,an.off+1,none⟩):=⟨_,rfl⟩;have hcs2:Kd.string.C wc AS ND.length ND:=by rw[hAS,<-hNDq];exact hcs
  have hdl:ND.length=x.names.length-1:=by rw[<-hNDq];simp
  have HAS:=aM hAS;have HDL:=aM hdl;have HXO:=aM (show(⟨x.k,x.s,x.x,x.n,x.b,ND,x.kids⟩:Nd).wt<=m+1 by rw[wt_eq];have:=wt_eq x;show 1+ND.length+wts x.kids<=m+1;rw[hdl];omega);have HOWN:=aM (show NK wc ⟨x.k,x.s,x.x,x.n,x.b,ND,x.kids⟩ AS (cn-1) Ak ck from node_mkK (by show ND.length<=cn-1;omega) hcs2 HNX.out.kids.1 HNX.out.kids.2);have HOB:=aM (show ∀w':World,Below wc.heap.size wc w'->Calls Tryz.prog 67 #[.bool true,.agg #[.int .i64 x.k,.string x.s,.float .f64 x.x,.int .i64 x.n,.bool x.b,.slice AS ND.length (cn-1),.slice Ak x.kids.length ck]] w' fun e w2=>OutR w' (sBody (pr m) x (ND)) e w2 from fun w' hb=>by
   have h:=HBD.out ⟨x.k,x.s,x.x,x.n,x.b,ND,x.kids⟩ y HKY.out HOY.out HXO.out w' AS (cn-1) Ak ck (HOWN.out.below hb);have e:sBody (pr m) ⟨x.k,x.s,x.x,x.n,x.b,ND,x.kids⟩ (⟨x.k,x.s,x.x,x.n,x.b,ND,x.kids⟩:Nd).names=sBody (pr m) x (ND):=by
    unfold sBody kid
    rfl
   rw[e] at h;exact h)
  clear hNDq hpq hcc hl6 hp hq hkp hkq op oq z0 z2 z3 z4 z5 z6 hcs hcs2 hAS hdl hnp;have HVO:=aM (Vb.new wc #[.int .i64 x.k,.string x.s,.float .f64 x.x,.int .i64 x.n,.bool x.b,(.slice (some an) x.names.length cn),(.slice Ak x.kids.length ck)]);have HB2:=aM (bA (bR wc.heap.size wc) (.cells #[.int .i64 x.k,.string x.s,.float .f64 x.x,.int .i64 x.n,.bool x.b,(.slice (some an) x.names.length cn),(.slice Ak x.kids.length ck)] 27));have o5:=bC HVO.out 5;have fo5:=bF HVO.out 5;have m5:=pB HB2.out n5;have HB3:=aM (bA (bR wc.heap.size wc) (.cells #[.int .i64 x.k,.string x.s,.float .f64 x.x,.int .i64 x.n,.bool x.b,.slice AS ND.length (cn-1),.slice Ak x.kids.length ck] 27));have HVO3:=aM (Vb.new wc #[.int .i64 x.k,.string x.s,.float .f64 x.x,.int .i64 x.n,.bool x.b,.slice AS ND.length (cn-1),.slice Ak x.kids.length ck]);rw[HAS.out,HDL.out] at HB3 HVO3;go_upto_region 4 with fail;generalize wc.alloc _=w3 at HB3 HVO3|-;clear HVO HB2 o5 fo5 m5;rw[<-HAS.out,<-HDL.out] at HVO3;replace v6:w3.cell? ⟨w.heap.size,6,none⟩=some (.slice (some ad) t.kids.length tk):=pB HB3.out v6;obtain⟨o0,o1,o2,o3,o4,o5,o6⟩:=bC7 HVO3.out;replace o0:w3.cell? ⟨wc.heap.size,0,none⟩=some (.int .i64 x.k):=o0;replace o1:w3.cell? ⟨wc.heap.size,1,none⟩=some (.string x.s):=o1;replace o2:w3.cell? ⟨wc.heap.size,2,none⟩=some (.float .f64 x.x):=o2;replace o3:w3.cell? ⟨wc.heap.size,3,none⟩=some (.int .i64 x.n):=o3;replace o4:w3.cell? ⟨wc.heap.size,4,none⟩=some (.bool x.b):=o4;replace o5:w3.cell? ⟨wc.heap.size,5,none⟩=some (.slice AS ND.length (cn-1)):=o5;replace o6:w3.cell? ⟨wc.heap.size,6,none⟩=some (.slice Ak x.kids.length ck):=o6;replace x0:=pB HB3.out x0;replace x1:=pB HB3.out x1;replace x2:=pB HB3.out x2;replace x3:=pB HB3.out x3;replace x4:=pB HB3.out x4;replace x5:=pB HB3.out x5;replace x6:=pB HB3.out x6;replace z1:=pB HB3.out z1;refine wp_region_specs [.row ([⟨#[102,117,110,99,116,105,111,110]⟩]),.eq (.bool true),.eq (.pointer (some ⟨w.heap.size,6,none⟩)),.eq (.slice (some ad) t.kids.length tk),.eq (.pointer (some ad)),.eq (.agg #[.int .i64 p.k,.string p.s,.float .f64 p.x,.int .i64 p.n,.bool p.b,(.slice Pn p.names.length pn),(.slice Pk p.kids.length pk)]),.row (pr m .e p),.eq (.pointer (some ⟨w.heap.size,6,none⟩)),.eq (.slice (some ad) t.kids.length tk),.eq (.pointer (some ⟨ad.block,ad.off+7,none⟩)),.eq (.pointer (some ⟨ad.block,ad.off+8,none⟩)),.eq (.string q.s),.row ([⟨#[58]⟩,q.s]),.eq (.bool true),.eq (.agg #[.int .i64 x.k,.string x.s,.float .f64 x.x,.int .i64 x.n,.bool x.b,(.slice AS ND.length (cn-1)),(.slice Ak x.kids.length ck)]),.row (sBody (pr m) x (ND)),.rows ([[⟨#[102,117,110,99,116,105,111,110]⟩],pr m .e p,[⟨#[58]⟩,q.s],sBody (pr m) x (ND)]),.row (pJ [[⟨#[102,117,110,99,116,105,111,110]⟩],pr m .e p,[⟨#[58]⟩,q.s],sBody (pr m) x (ND)]),.row (pJ [[⟨#[102,117,110,99,116,105,111,110]⟩],pr m .e p,[⟨#[58]⟩,q.s],sBody (pr m) x (ND)])] (w.heap.size) (by rfl) (by kernel_rfl) ?steps ?fin
  case steps=>
   refine⟨?_,?_,?_,?_,?_,?_,?_,?_,?_,?_,?_,?_,?_,?_,?_,?_,?_,?_,?_,trivial⟩
   ·intro a w' hb ho hr
    go_simp;exact⟨_,rfl,bA (bR _ _) _,NR.lits w' _ (Nat.le_trans HB.out.size (Nat.le_trans HB3.out.size hb.size)) [⟨#[102,117,110,99,116,105,111,110]⟩] (by simp)⟩
   ·intro a w' hb ho hr
    have t0:a.tmps[0]? = some (.bool true):=ho 0 rfl;go_simp;exact⟨_,rfl,bR _ _,rfl⟩
   ·intro a w' hb ho hr
    have t4:a.tmps[4]? = some (.pointer (some ⟨w.heap.size,0,none⟩)):=ho 4 rfl;go_simp;exact⟨_,rfl,bR _ _,rfl⟩
   ·intro a w' hb ho hr
    obtain⟨u2,d2,rfl⟩:=hr 2 _ _ rfl rfl rfl;have c0:=pB hb v6;go_simp;exact⟨_,rfl,bR _ _,rfl⟩
   ·intro a w' hb ho hr
    obtain⟨u3,d3,rfl⟩:=hr 3 _ _ rfl rfl rfl;go_simp;exact⟨_,rfl,bR _ _,rfl⟩
   ·intro a w' hb ho hr
    obtain⟨u4,d4,rfl⟩:=hr 4 _ _ rfl rfl rfl;obtain⟨c0,c1,c2,c3,c4,c5,c6⟩:=pB7 hb x0 x1 x2 x3 x4 x5 x6;go_simp;exact⟨_,rfl,bR _ _,rfl⟩
   ·intro a w' hb ho hr
    obtain⟨u1,d1,rfl⟩:=hr 1 _ _ rfl rfl rfl;obtain⟨u5,d5,rfl⟩:=hr 5 _ _ rfl rfl rfl;go_simp
    go_at_call 65
    refine(HP.out.e p HWP.out HOP.out w' Pn pn Pk pk (HKP.out.below (HB3.out.trans (hb.mono HB3.out.size)))).mono ?_;rintro e w8 ⟨u,rfl,hR,hB⟩;exact⟨_,rfl,hB,NR.lower hR (Nat.le_trans HB.out.size (Nat.le_trans HB3.out.size hb.size))⟩
   ·intro a w' hb ho hr
    have t4:a.tmps[4]? = some (.pointer (some ⟨w.heap.size,0,none⟩)):=ho 4 rfl;go_simp;exact⟨_,rfl,bR _ _,rfl⟩
   ·intro a w' hb ho hr
    obtain⟨u7,d7,rfl⟩:=hr 7 _ _ rfl rfl rfl;have c0:=pB hb v6;go_simp;exact⟨_,rfl,bR _ _,rfl⟩
   ·intro a w' hb ho hr
    obtain⟨u8,d8,rfl⟩:=hr 8 _ _ rfl rfl rfl;go_simp;exact⟨_,rfl,bR _ _,rfl⟩
   ·intro a w' hb ho hr
    obtain⟨u9,d9,rfl⟩:=hr 9 _ _ rfl rfl rfl;go_simp;exact⟨_,rfl,bR _ _,rfl⟩
   ·intro a w' hb ho hr
    obtain⟨u10,d10,rfl⟩:=hr 10 _ _ rfl rfl rfl;have c0:=pB hb z1;go_simp;exact⟨_,rfl,bR _ _,rfl⟩
   ·intro a w' hb ho hr
    obtain⟨u11,d11,rfl⟩:=hr 11 _ _ rfl rfl rfl;go_simp;exact⟨_,rfl,bA (bR _ _) _,NR.lits w' _ (Nat.le_trans HB.out.size (Nat.le_trans HB3.out.size hb.size)) [⟨#[58]⟩,q.s] (by simp)⟩
   ·intro a w' hb ho hr
    have t0:a.tmps[0]? = some (.bool true):=ho 0 rfl;go_simp;exact⟨_,rfl,bR _ _,rfl⟩
   ·intro a w' hb ho hr
    have t7:a.tmps[7]? = some (.pointer (some ⟨wc.heap.size,0,none⟩)):=ho 7 rfl;obtain⟨c0,c1,c2,c3,c4,c5,c6⟩:=pB7 hb o0 o1 o2 o3 o4 o5 o6;go_simp;exact⟨_,rfl,bR _ _,rfl⟩
   ·intro a w' hb ho hr
    obtain⟨u13,d13,rfl⟩:=hr 13 _ _ rfl rfl rfl;obtain⟨u14,d14,rfl⟩:=hr 14 _ _ rfl rfl rfl;go_simp
    go_at_call 67
    refine(HOB.out w' (HB3.out.trans (hb.mono HB3.out.size))).mono ?_;rintro e w8 ⟨u,rfl,hR,hB⟩;exact⟨_,rfl,hB,NR.lower hR (Nat.le_trans HB.out.size (Nat.le_trans HB3.out.size hb.size))⟩
   ·intro a w' hb ho hr
    obtain⟨u0,d0,h0⟩:=hr 0 _ _ rfl rfl rfl;replace h0:NR w' w.heap.size u0 ([⟨#[102,117,110,99,116,105,111,110]⟩]):=h0;obtain⟨A0,q0,rfl⟩:=h0.sl;obtain⟨u6,d6,h6⟩:=hr 6 _ _ rfl rfl rfl;replace h6:NR w' w.heap.size u6 (pr m .e p):=h6;obtain⟨A6,q6,rfl⟩:=h6.sl;obtain⟨u12,d12,h12⟩:=hr 12 _ _ rfl rfl rfl;replace h12:NR w' w.heap.size u12 ([⟨#[58]⟩,q.s]):=h12;obtain⟨A12,q12,rfl⟩:=h12.sl;obtain⟨u15,d15,h15⟩:=hr 15 _ _ rfl rfl rfl;replace h15:NR w' w.heap.size u15 (sBody (pr m) x (ND)):=h15;obtain⟨A15,q15,rfl⟩:=h15.sl;go_simp;exact⟨_,rfl,bA (bR _ _) _,LR.lit (ps:=[(.slice A0 ([⟨#[102,117,110,99,116,105,111,110]⟩]).length q0,[⟨#[102,117,110,99,116,105,111,110]⟩]),(.slice A6 (pr m .e p).length q6,pr m .e p),(.slice A12 ([⟨#[58]⟩,q.s]).length q12,[⟨#[58]⟩,q.s]),(.slice A15 (sBody (pr m) x (ND)).length q15,sBody (pr m) x (ND))]) (Nat.le_trans HB.out.size (Nat.le_trans HB3.out.size hb.size)) (LRs.cons h0 (LRs.cons h6 (LRs.cons h12 (LRs.cons h15 LRs.nil)))) (by simp)⟩
   ·intro a w' hb ho hr
    obtain⟨u16,d16,h16⟩:=hr 16 _ _ rfl rfl rfl;replace h16:LR w' w.heap.size u16 ([[⟨#[102,117,110,99,116,105,111,110]⟩],pr m .e p,[⟨#[58]⟩,q.s],sBody (pr m) x (ND)]):=h16;go_simp
    go_at_call 60
    refine(join_q h16 (by simp) (by simp[-List.drop_one];omega)).mono ?_;rintro e w8 ⟨u,rfl,hR,hB⟩;exact⟨_,rfl,hB,NR.lower hR (Nat.le_trans HB.out.size (Nat.le_trans HB3.out.size hb.size))⟩
   ·intro a w' hb ho hr
    obtain⟨u17,d17,h17⟩:=hr 17 _ _ rfl rfl rfl;replace h17:NR w' w.heap.size u17 (pJ [[⟨#[102,117,110,99,116,105,111,110]⟩],pr m .e p,[⟨#[58]⟩,q.s],sBody (pr m) x (ND)]):=h17;obtain⟨A17,q17,rfl⟩:=h17.sl;go_simp;exact⟨_,rfl,bR _ _,h17⟩
  case fin=>
   intro a w' hb hd hs ho hr;obtain⟨u,du,hu⟩:=hr 18 _ _ rfl rfl;replace hu:NR w' w.heap.size u (pJ [[⟨#[102,117,110,99,116,105,111,110]⟩],pr m .e p,[⟨#[58]⟩,q.s],sBody (pr m) x (ND)]):=hu;go_wp2_with fail;refine⟨hd,u,by simp[results,Tryz.results64,du,go_sem],?_⟩;rw[HS.out];exact⟨u,rfl,hu,HB.out.trans ((HB3.out.trans (hb.mono HB3.out.size)).mono HB.out.size)⟩
end Go.Proofs.YtoimaaonloibfaaGreatDoor.Pa
