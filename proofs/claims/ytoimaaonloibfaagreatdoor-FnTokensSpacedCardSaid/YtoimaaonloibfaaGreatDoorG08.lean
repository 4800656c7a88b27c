/- FnTokensSpaced (part 8): joined texts of this seat: Rn, Ro, Rp, Rq, Sa, Sb, Sc, Sd. -/
import Derived.Test.YtoimaaonloibfaaGreatDoorG07
import Derived.Test.YtoimaaonloibfaaGreatDoorG06
set_option linter.unusedVariables false
set_option linter.unusedSimpArgs false
set_option linter.constructorNameAsVariable false
set_option linter.unnecessarySimpa false
namespace Go.Proofs.YtoimaaonloibfaaGreatDoor.Pa
open Go.RowKit W1 W2 PF Wf Lx Rg
attribute [local go_sem] run_store_float fld49_0 fld49_1 fld49_3
theorem two_of{l:List Nd}(h:l.length=2):∃y z,l=[y,z]:=by
 match l,h with
 |[a,b],_=>exact⟨a,b,rfl⟩
def BRC(m:Nat):Prop:=∀x:Nd,x.wt<=m+1->(∀i y,x.kids[i]? = some y->Ok True (if i%2=0/\i+1<x.kids.length then .e else .b) y)->∀(w:World) (An:Option Addr) (cn:Nat) (Ak:Option Addr) (ck:Nat),NK w x An cn Ak ck->Calls Tryz.prog 66 #[.bool true,.agg #[.int .i64 x.k,.string x.s,.float .f64 x.x,.int .i64 x.n,.bool x.b,(.slice An x.names.length cn),(.slice Ak x.kids.length ck)]] w fun e w'=>OutR w (sBranch (pr m) x) e w'
set_option maxRecDepth 10000 in
set_option maxHeartbeats 16000000 in
theorem stat_pr(m:Nat)(hm:m<=6010)(hP:PA m)(hlen:∀s x,(pr m s x).length<=10*x.wt)(hLs:LCt 62 m .e (sList (pr m)))(hLl:∀l,(sList (pr m) l).length<=20*wts l)(hNd:ND m)(hBr:BRC m)(hBody:BD m)(hBl:∀x ns,(sBody (pr m) x ns).length<=20*(x.wt+ns.length)+10):PC 28 (m+1) .s (pr (m+1) .s):=by
 intro x hx hO w An cn Ak ck hk;have HP:=aM hP;have HL:=aM hLs;have HND:=aM hNd;have HBR:=aM hBr;have HBo:=aM hBody;have HV0:=aM (Vb.new w #[.int .i64 x.k,.string x.s,.float .f64 x.x,.int .i64 x.n,.bool x.b,(.slice An x.names.length cn),(.slice Ak x.kids.length ck)]);have HB:=aM (bA (bR w.heap.size w) (.cells #[.int .i64 x.k,.string x.s,.float .f64 x.x,.int .i64 x.n,.bool x.b,(.slice An x.names.length cn),(.slice Ak x.kids.length ck)] 27));have HNK:=aM (hk.below HB.out);have hwx:=wt_eq x;clear hk hP hLs hNd hBr hBody;go_enter Tryz.func28,Tryz.ntmps28
 go_upto_region 1 with fail;obtain⟨v0,v1,v2,v3,v4,v5,v6⟩:=bC7 HV0.out;generalize w.alloc _=w1 at *;replace v0:w1.cell? ⟨w.heap.size,0,none⟩=some (.int .i64 x.k):=v0;replace v1:w1.cell? ⟨w.heap.size,1,none⟩=some (.string x.s):=v1;replace v2:w1.cell? ⟨w.heap.size,2,none⟩=some (.float .f64 x.x):=v2;replace v3:w1.cell? ⟨w.heap.size,3,none⟩=some (.int .i64 x.n):=v3;replace v4:w1.cell? ⟨w.heap.size,4,none⟩=some (.bool x.b):=v4;replace v5:w1.cell? ⟨w.heap.size,5,none⟩=some (.slice An x.names.length cn):=v5;replace v6:w1.cell? ⟨w.heap.size,6,none⟩=some (.slice Ak x.kids.length ck):=v6;have HC:=aM HNK.out.kids.2;have hcap:=HNK.out.kids.1
 cases hO with
 |loc h1 h2 h3=>
  have H1:=aM h1;have HX0:=aM v0;rw[h1] at v0;clear h1;have HO:=aM h3;have HWL:=aM (show wts x.kids<=m by omega);have hll:=hLl x.kids;have hNn:=HNK.out.names;have HNn:=aM hNn.2;have hcn:=hNn.1;have hnl:=pNames_len x.names;clear h3 hNn;have HNL:=aM (NR.lits w1 w1.heap.size (Nat.le_refl _) [(⟨#[108,111,99,97,108]⟩:ByteArray)] (by simp));have HBA:=aM (bA (bR w1.heap.size w1) (.cells #[.string (⟨#[108,111,99,97,108]⟩:ByteArray)] 9));have a5:=pB HBA.out v5;go_upto_region 3 with fail;go_wp2_with fail;refine(prNames_q (Kd.C_below HNn.out HBA.out) hcn (by omega)).mono ?_;rintro e w2 ⟨u,rfl,hR,hb⟩;obtain⟨Au,cu,rfl⟩:=hR.sl;have HNL2:=aM (HNL.out.below hb);have HR:=aM (hR.lower (b':=w1.heap.size) HBA.out.size);have HB2:=aM (HBA.out.trans (hb.mono HBA.out.size));clear hR hb a5;obtain⟨PN,hPN⟩:∃l,pNames x.names=l:=⟨_,rfl⟩;rw[hPN] at HR hnl|-;have HPN:=aM hPN;clear hPN;go_wp2_with fail;refine(join_q (LR.lit (ps:=[(.slice (some ⟨w1.heap.size,0,none⟩) 1 1,[(⟨#[108,111,99,97,108]⟩:ByteArray)]),(.slice Au PN.length cu,PN)]) HB2.out.size (LRs.cons HNL2.out (LRs.cons HR.out LRs.nil)) (by simp)) (by simp) (by simp;omega)).mono ?_;rintro e w3 ⟨u,rfl,hR,hb⟩;obtain⟨L1,hL1⟩:∃l,(List.map Prod.snd [((.slice (some ⟨w1.heap.size,0,none⟩) 1 1:Value),[(⟨#[108,111,99,97,108]⟩:ByteArray)]),(.slice Au PN.length cu,PN)]).flatten=l:=⟨_,rfl⟩;rw[hL1] at hR;have hL1q:L1=[[(⟨#[108,111,99,97,108]⟩:ByteArray)],PN].flatten:=hL1.symm;have hL1l:L1.length<=2*x.names.length+1:=by rw[hL1q];simp;omega
  have HL1:=aM hL1q;obtain⟨A1,c1,rfl⟩:=hR.sl;have HB3:=aM ((bA HB2.out (.cells #[.slice (some ⟨w1.heap.size,0,none⟩) 1 1,.slice Au PN.length cu] 24)).trans (hb.mono (bA HB2.out (.cells #[.slice (some ⟨w1.heap.size,0,none⟩) 1 1,.slice Au PN.length cu] 24)).size));have HR1:=aM (hR.lower (b':=w1.heap.size) (bA HB2.out (.cells #[.slice (some ⟨w1.heap.size,0,none⟩) 1 1,.slice Au PN.length cu] 24)).size);clear hL1 hL1q hR hb HNL HNL2 HR HB2 HBA;have b6:=pB HB3.out v6
  by_cases hk0:x.kids=[]
  case pos=>
   have hlz:¬((x.kids.length:Int)>0):=by rw[hk0];simp
   have e:pr (m+1) .s x=L1:=by
    show sS (pr m) x=_
    unfold sS;rw[H1.out,if_pos rfl,if_pos hk0,HPN.out,HL1.out]
   have HE:=aM e;clear e hk0;go_wp2_with fail;go_ret;rw[HE.out];exact⟨_,rfl,HR1.out.lower HB.out.size,HB.out.trans (HB3.out.mono HB.out.size)⟩
  case neg=>
   have hlp:=List.length_pos_iff.2 hk0;have hlz:(x.kids.length:Int)>0:=by omega
   have e:pr (m+1) .s x=[L1,[⟨#[61]⟩],sList (pr m) x.kids].flatten:=by
    show sS (pr m) x=_
    unfold sS;rw[H1.out,if_pos rfl,if_neg hk0,HPN.out,HL1.out]
   have HE:=aM e;have HN2:=aM (NR.lits w3 w1.heap.size HB3.out.size [(⟨#[61]⟩:ByteArray)] (by simp));have HB4:=aM (bA HB3.out (.cells #[.string (⟨#[61]⟩:ByteArray)] 9));have HR2:=aM (HR1.out.alloc (.cells #[.string (⟨#[61]⟩:ByteArray)] 9));have d6:=pB HB4.out v6;clear e hk0 hlp;go_wp2_with fail;refine(HL.out x.kids HWL.out HO.out _ Ak ck hcap (Kd.C_below HC.out HB4.out)).mono ?_;rintro e w4 ⟨u,rfl,hR,hb⟩;obtain⟨A2,c2,rfl⟩:=hR.sl;have HN3:=aM (HN2.out.below hb);have HR3:=aM (HR2.out.below hb);have HR4:=aM (hR.lower (b':=w1.heap.size) HB4.out.size);have HB5:=aM (HB4.out.trans (hb.mono HB4.out.size));clear hR hb HN2 HR2 b6 d6;obtain⟨SL,hSL⟩:∃l,sList (pr m) x.kids=l:=⟨_,rfl⟩;rw[hSL] at HR4 HE hll|-;clear hSL;go_wp2_with fail;refine(join_q (LR.lit (ps:=[(.slice A1 L1.length c1,L1),(.slice (some ⟨w3.heap.size,0,none⟩) 1 1,[⟨#[61]⟩]),(.slice A2 SL.length c2,SL)]) HB5.out.size (LRs.cons HR3.out (LRs.cons HN3.out (LRs.cons HR4.out LRs.nil))) (by simp)) (by simp) (by simp;omega)).mono ?_;rintro e w5 ⟨u,rfl,hR,hb⟩;have HR5:=aM hR;have HB6:=aM hb;clear hR hb;go_wp2_with fail;go_ret;rw[HE.out];exact⟨_,rfl,HR5.out.lower (Nat.le_trans HB.out.size (bA HB5.out _).size),HB.out.trans (((bA HB5.out _).trans (HB6.out.mono (bA HB5.out _).size)).mono HB.out.size)⟩
 | @asg _ n h1 h2 h3 h4 h5=>
  have H1:=aM h1;have HX0:=aM v0;rw[h1] at v0;clear h1;have HNN:=aM h4;have HLE:=aM h5;have HOK:=aM h3;rw[h4] at v3;clear h3 h4 h5;go_upto_region 8 with fail
  go_cut [57] from 31 to 57 (fun v wc=>∃b:Bool,v = .bool b/\Aside0 (b=decide (x.n=1/\x.kids.length=2/\(kid x 1).k=26/\pIsPath (kid x 0).wt (kid x 0)=true))/\Aside0 (Below w1.heap.size w1 wc))
  case first=>
   by_cases hn1:n=1
   case neg=>
    have hb1:((n:Int)==1)=false:=by rw[beq_eq_false_iff_ne];omega
    have HD:=aM (show false=decide (x.n=1/\x.kids.length=2/\(kid x 1).k=26/\pIsPath (kid x 0).wt (kid x 0)=true) by have:¬x.n=1:=(by rw[HNN.out];omega);simp[this]);clear hn1;go_wp2_with fail;go_meet
    case rel=>exact⟨false,rfl,HD,⟨bR _ _⟩⟩
   case pos=>
    have hb1:((n:Int)==1)=true:=by rw[beq_iff_eq];omega
    have HN1:=aM hn1;clear hn1
    by_cases hl2:x.kids.length=2
    case neg=>
     have hb2:((x.kids.length:Int)==2)=false:=by rw[beq_eq_false_iff_ne];omega
     have HD:=aM (show false=decide (x.n=1/\x.kids.length=2/\(kid x 1).k=26/\pIsPath (kid x 0).wt (kid x 0)=true) by simp[hl2]);clear hl2;go_wp2_with fail;go_meet
     case rel=>exact⟨false,rfl,HD,⟨bR _ _⟩⟩
    case pos=>
     have hb2:((x.kids.length:Int)==2)=true:=by rw[beq_iff_eq];omega
     have hl0:0<x.kids.length:=by omega
     have hl1:1<x.kids.length:=by omega
     have hl0I:(0:Int)<(x.kids.length:Int):=by omega
     have hl1I:(1:Int)<(x.kids.length:Int):=by omega
     have HL2:=aM hl2;obtain⟨ad,y,Bn,dn,Bk,dk,rfl,hy,hym,x0,x1,x2,x3,x4,x5,x6,hky⟩:=kid_at HC.out (bR w1.heap.size w1) 0 (by omega);obtain⟨ad',z,Cn,en,Ck,ek,had,hz,hzm,z0,z1,z2,z3,z4,z5,z6,hkz⟩:=kid_at HC.out (bR w1.heap.size w1) 1 (by omega);cases had
     simp only[Nat.zero_mul,Addr.add_zero'] at x0 x1 x2 x3 x4 x5 x6;replace z0:w1.cell? ⟨ad.block,ad.off+7,none⟩=some (.int .i64 z.k):=z0;have K0:=aM (show kid x 0=y by unfold kid;rw[List.getD_eq_getElem?_getD,hy];rfl);have K1:=aM (show kid x 1=z by unfold kid;rw[List.getD_eq_getElem?_getD,hz];rfl);have HKY:=aM hky;have OY:=aM (HOK.out y hym);clear hl2 hy hym hz hzm hky hkz z1 z2 z3 z4 z5 z6
     by_cases h26:z.k=26
     case neg=>
      have hb3:(z.k==26)=false:=beq_eq_false_iff_ne.2 h26;have HD:=aM (show false=decide (x.n=1/\x.kids.length=2/\(kid x 1).k=26/\pIsPath (kid x 0).wt (kid x 0)=true) by rw[K1.out];simp[h26]);clear h26;go_wp2_with fail;go_meet
      case rel=>exact⟨false,rfl,HD,⟨bR _ _⟩⟩
     case pos=>
      have hb3:(z.k==26)=true:=beq_iff_eq.2 h26;have H26:=aM h26;clear h26;go_wp2_with fail;refine(isPath_pr y OY.out w1 Bn dn Bk dk HKY.out).mono ?_;rintro e w3 ⟨rfl,hb⟩;have HBX:=aM hb;obtain⟨bp,hbp⟩:∃b,pIsPath y.wt y=b:=⟨_,rfl⟩;rw[hbp];have HD:=aM (show bp=decide (x.n=1/\x.kids.length=2/\(kid x 1).k=26/\pIsPath (kid x 0).wt (kid x 0)=true) by rw[K0.out,K1.out,hbp,HNN.out,HN1.out,HL2.out,H26.out];simp);clear hb hbp;go_wp2_with fail;go_meet
      case rel=>exact⟨bp,rfl,HD,HBX⟩
  obtain⟨b57,rfl,HD,HBC⟩:=hcut;rw[<-HNN.out] at v3;replace v1:wc.cell? ⟨w.heap.size,1,none⟩=some (.string x.s):=pB HBC.out v1;replace v2:wc.cell? ⟨w.heap.size,2,none⟩=some (.float .f64 x.x):=pB HBC.out v2;replace v3:wc.cell? ⟨w.heap.size,3,none⟩=some (.int .i64 x.n):=pB HBC.out v3;replace v4:wc.cell? ⟨w.heap.size,4,none⟩=some (.bool x.b):=pB HBC.out v4;replace v5:wc.cell? ⟨w.heap.size,5,none⟩=some (.slice An x.names.length cn):=pB HBC.out v5;replace v6:wc.cell? ⟨w.heap.size,6,none⟩=some (.slice Ak x.kids.length ck):=pB HBC.out v6;replace HNK:=aM (HNK.out.below HBC.out);replace HC:=aM (Kd.C_below HC.out HBC.out);replace HB:=aM (HB.out.trans (HBC.out.mono HB.out.size));clear HBC HV0 HX0 v0
  cases b57 with
  |true=>
   have hcc:=of_decide_eq_true HD.out.symm;have HCC:=aM hcc;obtain⟨y,z,hky0⟩:=two_of hcc.2.1;have oy:Ok True .e y:=HOK.out y (by rw[hky0];simp);have oz:Ok True .e z:=HOK.out z (by rw[hky0];simp);have K0:=aM (show kid x 0=y by unfold kid;rw[hky0];rfl);have K1:=aM (show kid x 1=z by unfold kid;rw[hky0];rfl);have hz26:z.k=26:=by rw[<-K1.out];exact hcc.2.2.1
   obtain⟨q,hq,oq⟩:∃q,z.kids=[q]/\Ok True .b q:=(by cases oz with|atom g _=>omega|fn _ _ g1 g2=>exact⟨_,g1,g2⟩|ix g _ _ _ _=>omega|call g _ _ _ _=>omega|bin g _ _ _ _=>omega|un g _ _ _=>omega|tab g _ _=>omega);have HQ:=aM hq;have OQ:=aM oq;clear hcc hz26 hq oq;have HKY:=aM hky0;have hwxx:=hwx;simp only[hky0,wts] at hwx;have hl2:2<=x.kids.length:=by rw[hky0];exact Nat.le_refl _
   have hl0:0<x.kids.length:=by omega
   have hl0I:(0:Int)<(x.kids.length:Int):=by omega
   have hly:=hlen .e y;obtain⟨ad,y',Bn,dn,Bk,dk,rfl,hy,_,x0,x1,x2,x3,x4,x5,x6,hky⟩:=kid_at HC.out (bR wc.heap.size wc) 0 (by omega);obtain rfl:y=y':=by rw[hky0] at hy;simpa using hy
   simp only[Nat.zero_mul,Addr.add_zero'] at x0 x1 x2 x3 x4 x5 x6;have HKy:=aM hky;have HWy:=aM (show y.wt<=m by omega);have Oy:=aM oy;have hl1:1<x.kids.length:=by omega
   have hl1I:(1:Int)<(x.kids.length:Int):=by omega
   have hlz:=hlen .e z;obtain⟨ad',z',Cn,en,Ck,ek,had,hz,_,z0,z1,z2,z3,z4,z5,z6,hkz⟩:=kid_at HC.out (bR wc.heap.size wc) 1 (by omega);cases had
   obtain rfl:z=z':=by rw[hky0] at hz;simpa using hz
   replace z0:wc.cell? ⟨ad.block,ad.off+7,none⟩=some (.int .i64 z.k):=z0;replace z1:wc.cell? ⟨ad.block,ad.off+8,none⟩=some (.string z.s):=z1;replace z2:wc.cell? ⟨ad.block,ad.off+9,none⟩=some (.float .f64 z.x):=z2;replace z3:wc.cell? ⟨ad.block,ad.off+10,none⟩=some (.int .i64 z.n):=z3;replace z4:wc.cell? ⟨ad.block,ad.off+11,none⟩=some (.bool z.b):=z4;replace z5:wc.cell? ⟨ad.block,ad.off+12,none⟩=some (.slice Cn z.names.length en):=z5;replace z6:wc.cell? ⟨ad.block,ad.off+13,none⟩=some (.slice Ck z.kids.length ek):=z6;have HKz:=aM hkz;have HWz:=aM (show z.wt<=m by omega);have Oz:=aM oz;clear hz hkz oz;clear hky0 hl2 hy hky oy;have HWZ1:=aM (show z.wt<=m+1 by have:=HWz.out;omega);go_upto_region 9 with fail;refine wp_region_specs [.eq (.bool true),.eq (.pointer (some ⟨w.heap.size,6,none⟩)),.eq (.slice (some ad) x.kids.length ck),.eq (.pointer (some ad)),.eq (.agg #[.int .i64 y.k,.string y.s,.float .f64 y.x,.int .i64 y.n,.bool y.b,(.slice Bn y.names.length dn),(.slice Bk y.kids.length dk)]),.eq (.pointer (some ⟨w.heap.size,6,none⟩)),.eq (.slice (some ad) x.kids.length ck),.eq (.pointer (some ⟨ad.block,ad.off+7,none⟩)),.eq (.agg #[.int .i64 z.k,.string z.s,.float .f64 z.x,.int .i64 z.n,.bool z.b,(.slice Cn z.names.length en),(.slice Ck z.kids.length ek)]),.row (sNamed (pr m) y z),.row (sNamed (pr m) y z)] (wc.heap.size) (by rfl) (by kernel_rfl) ?steps ?fin
   case steps=>
    refine⟨?_,?_,?_,?_,?_,?_,?_,?_,?_,?_,?_,trivial⟩
    ·intro a w' hb ho hr
     have t0:a.tmps[0]? = some (.bool true):=ho 0 rfl;go_simp;exact⟨_,rfl,bR _ _,rfl⟩
    ·intro a w' hb ho hr
     have t3:a.tmps[3]? = some (.pointer (some ⟨w.heap.size,0,none⟩)):=ho 3 rfl;go_simp;exact⟨_,rfl,bR _ _,rfl⟩
    ·intro a w' hb ho hr
     obtain⟨u1,d1,rfl⟩:=hr 1 _ _ rfl rfl rfl;have c0:=pB hb v6;go_simp;exact⟨_,rfl,bR _ _,rfl⟩
    ·intro a w' hb ho hr
     obtain⟨u2,d2,rfl⟩:=hr 2 _ _ rfl rfl rfl;go_simp;exact⟨_,rfl,bR _ _,rfl⟩
    ·intro a w' hb ho hr
     obtain⟨u3,d3,rfl⟩:=hr 3 _ _ rfl rfl rfl;obtain⟨c0,c1,c2,c3,c4,c5,c6⟩:=pB7 hb x0 x1 x2 x3 x4 x5 x6;go_simp;exact⟨_,rfl,bR _ _,rfl⟩
    ·intro a w' hb ho hr
     have t3:a.tmps[3]? = some (.pointer (some ⟨w.heap.size,0,none⟩)):=ho 3 rfl;go_simp;exact⟨_,rfl,bR _ _,rfl⟩
    ·intro a w' hb ho hr
     obtain⟨u5,d5,rfl⟩:=hr 5 _ _ rfl rfl rfl;have c0:=pB hb v6;go_simp;exact⟨_,rfl,bR _ _,rfl⟩
    ·intro a w' hb ho hr
     obtain⟨u6,d6,rfl⟩:=hr 6 _ _ rfl rfl rfl;go_simp;exact⟨_,rfl,bR _ _,rfl⟩
    ·intro a w' hb ho hr
     obtain⟨u7,d7,rfl⟩:=hr 7 _ _ rfl rfl rfl;obtain⟨c0,c1,c2,c3,c4,c5,c6⟩:=pB7 hb z0 z1 z2 z3 z4 z5 z6;go_simp;exact⟨_,rfl,bR _ _,rfl⟩
    ·intro a w' hb ho hr
     obtain⟨u0,d0,rfl⟩:=hr 0 _ _ rfl rfl rfl;obtain⟨u4,d4,rfl⟩:=hr 4 _ _ rfl rfl rfl;obtain⟨u8,d8,rfl⟩:=hr 8 _ _ rfl rfl rfl;go_simp
     go_at_call 64
     refine(HND.out y z q Oy.out HWy.out HQ.out OQ.out HWZ1.out w' Bn dn Bk dk Cn en Ck ek (HKy.out.below hb) (HKz.out.below hb)).mono ?_;rintro e w8 ⟨u,rfl,hR,hB⟩;exact⟨_,rfl,hB,NR.lower hR (hb.size)⟩
    ·intro a w' hb ho hr
     obtain⟨u9,d9,h9⟩:=hr 9 _ _ rfl rfl rfl;replace h9:NR w' wc.heap.size u9 (sNamed (pr m) y z):=h9;obtain⟨A9,q9,rfl⟩:=h9.sl;go_simp;exact⟨_,rfl,bR _ _,h9⟩
   case fin=>
    intro a w' hb hd hs ho hr;obtain⟨u,du,hu⟩:=hr 10 _ _ rfl rfl;replace hu:NR w' wc.heap.size u (sNamed (pr m) y z):=hu;go_wp2_with fail;have e:pr (m+1) .s x=sNamed (pr m) y z:=by
     show sS (pr m) x=_
     unfold sS;rw[H1.out,if_neg (by decide),if_pos rfl,if_pos HCC.out,K0.out,K1.out]
    refine⟨hd,u,by simp[results,Tryz.results28,du,go_sem],?_⟩;rw[e];exact⟨u,rfl,NR.lower hu HB.out.size,HB.out.trans (hb.mono HB.out.size)⟩
  |false=>
   have hnc:=of_decide_eq_false HD.out.symm;have HNC:=aM hnc;have hle:=HLE.out;have hcN:n<=ck:=by omega
   have hcI:(n:Int)<=(ck:Int):=by omega
   have hcI2:¬(ck:Int)<(n:Int):=by omega
   have hleI:(n:Int)<=(x.kids.length:Int):=by omega
   have h0I:(0:Int)<=(n:Int):=by omega
   have hcapI:(x.kids.length:Int)<=(ck:Int):=by omega
   rw[HNN.out] at v3;obtain⟨T1,hT1⟩:∃l,x.kids.take n=l:=⟨_,rfl⟩;obtain⟨T2,hT2⟩:∃l,x.kids.drop n=l:=⟨_,rfl⟩;have hsp:x.kids=T1++T2:=by rw[<-hT1,<-hT2,List.take_append_drop]
   have hwT:wts x.kids=wts T1+wts T2:=by rw[hsp,wts_append]
   have hc1:=Kd.C_take HC.out (m:=n) hle;rw[hT1] at hc1;have hc2:=Kd.C_drop HC.out (m:=n) hle hcap;rw[hT2] at hc2;have hl1:T1.length=n:=by rw[<-hT1,List.length_take];omega
   have hl2:T2.length=x.kids.length-n:=by rw[<-hT2,List.length_drop]
   obtain⟨AS,hAS⟩:∃B,B=(if ck=n then Ak else Option.map (fun a=>a.add (n*nodeK.sz)) Ak):=⟨_,rfl⟩;rw[<-hAS] at hc2;have HC1:=aM hc1;have HC2:=aM hc2;have HAS:=aM hAS;have HL1:=aM hl1;have HL2:=aM hl2;have HW1:=aM (show wts T1<=m by omega);have HW2:=aM (show wts T2<=m by omega);have HO1:=aM (show ∀y∈T1,Ok True .e y from fun y hy=>HOK.out y (by rw[hsp];exact List.mem_append_left _ hy));have HO2:=aM (show ∀y∈T2,Ok True .e y from fun y hy=>HOK.out y (by rw[hsp];exact List.mem_append_right _ hy));have HLE1:=aM (show T1.length<=ck by omega);have HLE2:=aM (show T2.length<=ck-n by omega);have hly1:=hLl T1;have hly2:=hLl T2;have HT1:=aM hT1;have HT2:=aM hT2;clear hnc hT1 hT2 hsp hc1 hc2 hl1 hl2 hAS;go_upto_region 10 with fail;refine wp_region_specs [.eq (.bool true),.eq (.pointer (some ⟨w.heap.size,6,none⟩)),.eq (.slice Ak x.kids.length ck),.eq (.pointer (some ⟨w.heap.size,3,none⟩)),.eq (.int .i64 (n:Int)),.eq (.slice Ak T1.length ck),.row (sList (pr m) T1),.row ([⟨#[61]⟩]),.eq (.bool true),.eq (.pointer (some ⟨w.heap.size,6,none⟩)),.eq (.slice Ak x.kids.length ck),.eq (.pointer (some ⟨w.heap.size,3,none⟩)),.eq (.int .i64 (n:Int)),.eq (.slice AS T2.length (ck-n)),.row (sList (pr m) T2),.rows ([sList (pr m) T1,[⟨#[61]⟩],sList (pr m) T2]),.row (pJ [sList (pr m) T1,[⟨#[61]⟩],sList (pr m) T2]),.row (pJ [sList (pr m) T1,[⟨#[61]⟩],sList (pr m) T2])] (wc.heap.size) (by rfl) (by kernel_rfl) ?steps ?fin
   case steps=>
    refine⟨?_,?_,?_,?_,?_,?_,?_,?_,?_,?_,?_,?_,?_,?_,?_,?_,?_,?_,trivial⟩
    ·intro a w' hb ho hr
     have t0:a.tmps[0]? = some (.bool true):=ho 0 rfl;go_simp;exact⟨_,rfl,bR _ _,rfl⟩
    ·intro a w' hb ho hr
     have t3:a.tmps[3]? = some (.pointer (some ⟨w.heap.size,0,none⟩)):=ho 3 rfl;go_simp;exact⟨_,rfl,bR _ _,rfl⟩
    ·intro a w' hb ho hr
     obtain⟨u1,d1,rfl⟩:=hr 1 _ _ rfl rfl rfl;have c0:=pB hb v6;go_simp;exact⟨_,rfl,bR _ _,rfl⟩
    ·intro a w' hb ho hr
     have t3:a.tmps[3]? = some (.pointer (some ⟨w.heap.size,0,none⟩)):=ho 3 rfl;go_simp;exact⟨_,rfl,bR _ _,rfl⟩
    ·intro a w' hb ho hr
     obtain⟨u3,d3,rfl⟩:=hr 3 _ _ rfl rfl rfl;have c0:=pB hb v3;go_simp;exact⟨_,rfl,bR _ _,rfl⟩
    ·intro a w' hb ho hr
     obtain⟨u2,d2,rfl⟩:=hr 2 _ _ rfl rfl rfl;obtain⟨u4,d4,rfl⟩:=hr 4 _ _ rfl rfl rfl;go_simp
     (first|exact⟨_,rfl,bR _ _,by show Value.slice _ _ _=Value.slice _ _ _;rw[HL1.out]⟩|exact⟨_,rfl,bR _ _,by show Value.slice _ _ _=Value.slice _ _ _;rw[HAS.out,HL2.out];rfl⟩)
    ·intro a w' hb ho hr
     obtain⟨u0,d0,rfl⟩:=hr 0 _ _ rfl rfl rfl;obtain⟨u5,d5,rfl⟩:=hr 5 _ _ rfl rfl rfl;go_simp
     go_at_call 62
     refine(HL.out T1 HW1.out HO1.out w' Ak ck HLE1.out (Kd.C_below HC1.out hb)).mono ?_;rintro e w8 ⟨u,rfl,hR,hB⟩;exact⟨_,rfl,hB,NR.lower hR (hb.size)⟩
    ·intro a w' hb ho hr
     go_simp;exact⟨_,rfl,bA (bR _ _) _,NR.lits w' _ (hb.size) [⟨#[61]⟩] (by simp)⟩
    ·intro a w' hb ho hr
     have t0:a.tmps[0]? = some (.bool true):=ho 0 rfl;go_simp;exact⟨_,rfl,bR _ _,rfl⟩
    ·intro a w' hb ho hr
     have t3:a.tmps[3]? = some (.pointer (some ⟨w.heap.size,0,none⟩)):=ho 3 rfl;go_simp;exact⟨_,rfl,bR _ _,rfl⟩
    ·intro a w' hb ho hr
     obtain⟨u9,d9,rfl⟩:=hr 9 _ _ rfl rfl rfl;have c0:=pB hb v6;go_simp;exact⟨_,rfl,bR _ _,rfl⟩
    ·intro a w' hb ho hr
     have t3:a.tmps[3]? = some (.pointer (some ⟨w.heap.size,0,none⟩)):=ho 3 rfl;go_simp;exact⟨_,rfl,bR _ _,rfl⟩
    ·intro a w' hb ho hr
     obtain⟨u11,d11,rfl⟩:=hr 11 _ _ rfl rfl rfl;have c0:=pB hb v3;go_simp;exact⟨_,rfl,bR _ _,rfl⟩
    ·intro a w' hb ho hr
     obtain⟨u10,d10,rfl⟩:=hr 10 _ _ rfl rfl rfl;obtain⟨u12,d12,rfl⟩:=hr 12 _ _ rfl rfl rfl;go_simp
     (first|exact⟨_,rfl,bR _ _,by show Value.slice _ _ _=Value.slice _ _ _;rw[HL1.out]⟩|exact⟨_,rfl,bR _ _,by show Value.slice _ _ _=Value.slice _ _ _;rw[HAS.out,HL2.out];rfl⟩)
    ·intro a w' hb ho hr
     obtain⟨u8,d8,rfl⟩:=hr 8 _ _ rfl rfl rfl;obtain⟨u13,d13,rfl⟩:=hr 13 _ _ rfl rfl rfl;go_simp
     go_at_call 62
     refine(HL.out T2 HW2.out HO2.out w' AS (ck-n) HLE2.out (Kd.C_below HC2.out hb)).mono ?_;rintro e w8 ⟨u,rfl,hR,hB⟩;exact⟨_,rfl,hB,NR.lower hR (hb.size)⟩
    ·intro a w' hb ho hr
     obtain⟨u6,d6,h6⟩:=hr 6 _ _ rfl rfl rfl;replace h6:NR w' wc.heap.size u6 (sList (pr m) T1):=h6;obtain⟨A6,q6,rfl⟩:=h6.sl;obtain⟨u7,d7,h7⟩:=hr 7 _ _ rfl rfl rfl;replace h7:NR w' wc.heap.size u7 ([⟨#[61]⟩]):=h7;obtain⟨A7,q7,rfl⟩:=h7.sl;obtain⟨u14,d14,h14⟩:=hr 14 _ _ rfl rfl rfl;replace h14:NR w' wc.heap.size u14 (sList (pr m) T2):=h14;obtain⟨A14,q14,rfl⟩:=h14.sl;go_simp;exact⟨_,rfl,bA (bR _ _) _,LR.lit (ps:=[(.slice A6 (sList (pr m) T1).length q6,sList (pr m) T1),(.slice A7 ([⟨#[61]⟩]).length q7,[⟨#[61]⟩]),(.slice A14 (sList (pr m) T2).length q14,sList (pr m) T2)]) (hb.size) (LRs.cons h6 (LRs.cons h7 (LRs.cons h14 LRs.nil))) (by simp)⟩
    ·intro a w' hb ho hr
     obtain⟨u15,d15,h15⟩:=hr 15 _ _ rfl rfl rfl;replace h15:LR w' wc.heap.size u15 ([sList (pr m) T1,[⟨#[61]⟩],sList (pr m) T2]):=h15;go_simp
     go_at_call 60
     refine(join_q h15 (by simp) (by simp;omega)).mono ?_;rintro e w8 ⟨u,rfl,hR,hB⟩;exact⟨_,rfl,hB,NR.lower hR (hb.size)⟩
    ·intro a w' hb ho hr
     obtain⟨u16,d16,h16⟩:=hr 16 _ _ rfl rfl rfl;replace h16:NR w' wc.heap.size u16 (pJ [sList (pr m) T1,[⟨#[61]⟩],sList (pr m) T2]):=h16;obtain⟨A16,q16,rfl⟩:=h16.sl;go_simp;exact⟨_,rfl,bR _ _,h16⟩
   case fin=>
    intro a w' hb hd hs ho hr;obtain⟨u,du,hu⟩:=hr 17 _ _ rfl rfl;replace hu:NR w' wc.heap.size u (pJ [sList (pr m) T1,[⟨#[61]⟩],sList (pr m) T2]):=hu;go_wp2_with fail;have e:pr (m+1) .s x=pJ [sList (pr m) T1,[⟨#[61]⟩],sList (pr m) T2]:=by
     show sS (pr m) x=_
     unfold sS;rw[H1.out,if_neg (by decide),if_pos rfl,if_neg HNC.out,HNN.out,Int.toNat_natCast,HT1.out,HT2.out]
     rfl
    refine⟨hd,u,by simp[results,Tryz.results28,du,go_sem],?_⟩;rw[e];exact⟨u,rfl,NR.lower hu HB.out.size,HB.out.trans (hb.mono HB.out.size)⟩
 | @cst _ y h1 h2 hky0 oy=>
  have H1:=aM h1;have HX0:=aM v0;rw[h1] at v0;clear h1;have HKY:=aM hky0;have hwxx:=hwx;simp only[hky0,wts] at hwx;have hl2:1<=x.kids.length:=by rw[hky0];exact Nat.le_refl _
  have hl0:0<x.kids.length:=by omega
  have hl0I:(0:Int)<(x.kids.length:Int):=by omega
  have hly:=hlen .e y;obtain⟨ad,y',Bn,dn,Bk,dk,rfl,hy,_,x0,x1,x2,x3,x4,x5,x6,hky⟩:=kid_at HC.out (bR w1.heap.size w1) 0 (by omega);obtain rfl:y=y':=by rw[hky0] at hy;simpa using hy
  simp only[Nat.zero_mul,Addr.add_zero'] at x0 x1 x2 x3 x4 x5 x6;have HKy:=aM hky;have HWy:=aM (show y.wt<=m by omega);have Oy:=aM oy;clear hky0 hl2 hy hky oy;go_upto_region 12 with fail;refine wp_region_specs_seq [.eq (.bool true),.eq (.pointer (some ⟨w.heap.size,6,none⟩)),.eq (.slice (some ad) x.kids.length ck),.eq (.pointer (some ad)),.eq (.agg #[.int .i64 y.k,.string y.s,.float .f64 y.x,.int .i64 y.n,.bool y.b,(.slice Bn y.names.length dn),(.slice Bk y.kids.length dk)]),.row (pr m .e y),.row (pr m .e y)] (w1.heap.size) (by kernel_rfl) ?steps ?fin
  case steps=>
   refine⟨?_,?_,?_,?_,?_,?_,?_,trivial⟩
   ·intro a w' hb ho hr
    have t0:a.tmps[0]? = some (.bool true):=ho 0 rfl;go_simp;exact⟨_,rfl,bR _ _,rfl⟩
   ·intro a w' hb ho hr
    have t3:a.tmps[3]? = some (.pointer (some ⟨w.heap.size,0,none⟩)):=ho 3 rfl;go_simp;exact⟨_,rfl,bR _ _,rfl⟩
   ·intro a w' hb ho hr
    obtain⟨u1,d1,rfl⟩:=hr 1 _ _ rfl rfl rfl;have c0:=pB hb v6;go_simp;exact⟨_,rfl,bR _ _,rfl⟩
   ·intro a w' hb ho hr
    obtain⟨u2,d2,rfl⟩:=hr 2 _ _ rfl rfl rfl;go_simp;exact⟨_,rfl,bR _ _,rfl⟩
   ·intro a w' hb ho hr
    obtain⟨u3,d3,rfl⟩:=hr 3 _ _ rfl rfl rfl;obtain⟨c0,c1,c2,c3,c4,c5,c6⟩:=pB7 hb x0 x1 x2 x3 x4 x5 x6;go_simp;exact⟨_,rfl,bR _ _,rfl⟩
   ·intro a w' hb ho hr
    obtain⟨u0,d0,rfl⟩:=hr 0 _ _ rfl rfl rfl;obtain⟨u4,d4,rfl⟩:=hr 4 _ _ rfl rfl rfl;go_simp
    go_at_call 65
    refine(HP.out.e y HWy.out Oy.out w' Bn dn Bk dk (HKy.out.below hb)).mono ?_;rintro e w8 ⟨u,rfl,hR,hB⟩;exact⟨_,rfl,hB,NR.lower hR (hb.size)⟩
   ·intro a w' hb ho hr
    obtain⟨u5,d5,h5⟩:=hr 5 _ _ rfl rfl rfl;replace h5:NR w' w1.heap.size u5 (pr m .e y):=h5;obtain⟨A5,q5,rfl⟩:=h5.sl;go_simp;exact⟨_,rfl,bR _ _,h5⟩
  case fin=>
   intro a w' hb hd hs ho hr;obtain⟨u,du,hu⟩:=hr 6 _ _ rfl rfl;replace hu:NR w' w1.heap.size u (pr m .e y):=hu;go_wp2_with fail;have e:pr (m+1) .s x=pr m .e y:=by
    show sS (pr m) x=_
    simp[sS,pJ,kid,H1.out,HKY.out]
   refine⟨hd,u,by simp[results,Tryz.results28,du,go_sem],?_⟩;rw[e];exact⟨u,rfl,NR.lower hu HB.out.size,HB.out.trans (hb.mono HB.out.size)⟩
 | @doo _ y h1 h2 hky0 oy=>
  have H1:=aM h1;have HX0:=aM v0;rw[h1] at v0;clear h1;have HKY:=aM hky0;have hwxx:=hwx;simp only[hky0,wts] at hwx;have hl2:1<=x.kids.length:=by rw[hky0];exact Nat.le_refl _
  have hl0:0<x.kids.length:=by omega
  have hl0I:(0:Int)<(x.kids.length:Int):=by omega
  have hly:=hlen .b y;obtain⟨ad,y',Bn,dn,Bk,dk,rfl,hy,_,x0,x1,x2,x3,x4,x5,x6,hky⟩:=kid_at HC.out (bR w1.heap.size w1) 0 (by omega);obtain rfl:y=y':=by rw[hky0] at hy;simpa using hy
  simp only[Nat.zero_mul,Addr.add_zero'] at x0 x1 x2 x3 x4 x5 x6;have HKy:=aM hky;have HWy:=aM (show y.wt<=m by omega);have Oy:=aM oy;clear hky0 hl2 hy hky oy;go_upto_region 14 with fail;refine wp_region_specs_seq [.row ([⟨#[100,111]⟩]),.eq (.bool true),.eq (.pointer (some ⟨w.heap.size,6,none⟩)),.eq (.slice (some ad) x.kids.length ck),.eq (.pointer (some ad)),.eq (.agg #[.int .i64 y.k,.string y.s,.float .f64 y.x,.int .i64 y.n,.bool y.b,(.slice Bn y.names.length dn),(.slice Bk y.kids.length dk)]),.row (pr m .b y),.row ([⟨#[101,110,100]⟩]),.rows ([[⟨#[100,111]⟩],pr m .b y,[⟨#[101,110,100]⟩]]),.row (pJ [[⟨#[100,111]⟩],pr m .b y,[⟨#[101,110,100]⟩]]),.row (pJ [[⟨#[100,111]⟩],pr m .b y,[⟨#[101,110,100]⟩]])] (w1.heap.size) (by kernel_rfl) ?steps ?fin
  case steps=>
   refine⟨?_,?_,?_,?_,?_,?_,?_,?_,?_,?_,?_,trivial⟩
   ·intro a w' hb ho hr
    go_simp;exact⟨_,rfl,bA (bR _ _) _,NR.lits w' _ (hb.size) [⟨#[100,111]⟩] (by simp)⟩
   ·intro a w' hb ho hr
    have t0:a.tmps[0]? = some (.bool true):=ho 0 rfl;go_simp;exact⟨_,rfl,bR _ _,rfl⟩
   ·intro a w' hb ho hr
    have t3:a.tmps[3]? = some (.pointer (some ⟨w.heap.size,0,none⟩)):=ho 3 rfl;go_simp;exact⟨_,rfl,bR _ _,rfl⟩
   ·intro a w' hb ho hr
    obtain⟨u2,d2,rfl⟩:=hr 2 _ _ rfl rfl rfl;have c0:=pB hb v6;go_simp;exact⟨_,rfl,bR _ _,rfl⟩
   ·intro a w' hb ho hr
    obtain⟨u3,d3,rfl⟩:=hr 3 _ _ rfl rfl rfl;go_simp;exact⟨_,rfl,bR _ _,rfl⟩
   ·intro a w' hb ho hr
    obtain⟨u4,d4,rfl⟩:=hr 4 _ _ rfl rfl rfl;obtain⟨c0,c1,c2,c3,c4,c5,c6⟩:=pB7 hb x0 x1 x2 x3 x4 x5 x6;go_simp;exact⟨_,rfl,bR _ _,rfl⟩
   ·intro a w' hb ho hr
    obtain⟨u1,d1,rfl⟩:=hr 1 _ _ rfl rfl rfl;obtain⟨u5,d5,rfl⟩:=hr 5 _ _ rfl rfl rfl;go_simp
    go_at_call 13
    refine(HP.out.b y HWy.out Oy.out w' Bn dn Bk dk (HKy.out.below hb)).mono ?_;rintro e w8 ⟨u,rfl,hR,hB⟩;exact⟨_,rfl,hB,NR.lower hR (hb.size)⟩
   ·intro a w' hb ho hr
    go_simp;exact⟨_,rfl,bA (bR _ _) _,NR.lits w' _ (hb.size) [⟨#[101,110,100]⟩] (by simp)⟩
   ·intro a w' hb ho hr
    obtain⟨u0,d0,h0⟩:=hr 0 _ _ rfl rfl rfl;replace h0:NR w' w1.heap.size u0 ([⟨#[100,111]⟩]):=h0;obtain⟨A0,q0,rfl⟩:=h0.sl;obtain⟨u6,d6,h6⟩:=hr 6 _ _ rfl rfl rfl;replace h6:NR w' w1.heap.size u6 (pr m .b y):=h6;obtain⟨A6,q6,rfl⟩:=h6.sl;obtain⟨u7,d7,h7⟩:=hr 7 _ _ rfl rfl rfl;replace h7:NR w' w1.heap.size u7 ([⟨#[101,110,100]⟩]):=h7;obtain⟨A7,q7,rfl⟩:=h7.sl;go_simp;exact⟨_,rfl,bA (bR _ _) _,LR.lit (ps:=[(.slice A0 ([⟨#[100,111]⟩]).length q0,[⟨#[100,111]⟩]),(.slice A6 (pr m .b y).length q6,pr m .b y),(.slice A7 ([⟨#[101,110,100]⟩]).length q7,[⟨#[101,110,100]⟩])]) (hb.size) (LRs.cons h0 (LRs.cons h6 (LRs.cons h7 LRs.nil))) (by simp)⟩
   ·intro a w' hb ho hr
    obtain⟨u8,d8,h8⟩:=hr 8 _ _ rfl rfl rfl;replace h8:LR w' w1.heap.size u8 ([[⟨#[100,111]⟩],pr m .b y,[⟨#[101,110,100]⟩]]):=h8;go_simp
    go_at_call 60
    refine(join_q h8 (by simp) (by simp;omega)).mono ?_;rintro e w8 ⟨u,rfl,hR,hB⟩;exact⟨_,rfl,hB,NR.lower hR (hb.size)⟩
   ·intro a w' hb ho hr
    obtain⟨u9,d9,h9⟩:=hr 9 _ _ rfl rfl rfl;replace h9:NR w' w1.heap.size u9 (pJ [[⟨#[100,111]⟩],pr m .b y,[⟨#[101,110,100]⟩]]):=h9;obtain⟨A9,q9,rfl⟩:=h9.sl;go_simp;exact⟨_,rfl,bR _ _,h9⟩
  case fin=>
   intro a w' hb hd hs ho hr;obtain⟨u,du,hu⟩:=hr 10 _ _ rfl rfl;replace hu:NR w' w1.heap.size u (pJ [[⟨#[100,111]⟩],pr m .b y,[⟨#[101,110,100]⟩]]):=hu;go_wp2_with fail;have e:pr (m+1) .s x=pJ [[⟨#[100,111]⟩],pr m .b y,[⟨#[101,110,100]⟩]]:=by
    show sS (pr m) x=_
    simp[sS,pJ,kid,H1.out,HKY.out]
   refine⟨hd,u,by simp[results,Tryz.results28,du,go_sem],?_⟩;rw[e];exact⟨u,rfl,NR.lower hu HB.out.size,HB.out.trans (hb.mono HB.out.size)⟩
 | @whil _ y z h1 h2 hky0 oy oz=>
  have H1:=aM h1;have HX0:=aM v0;rw[h1] at v0;clear h1;have HKY:=aM hky0;have hwxx:=hwx;simp only[hky0,wts] at hwx;have hl2:2<=x.kids.length:=by rw[hky0];exact Nat.le_refl _
  have hl0:0<x.kids.length:=by omega
  have hl0I:(0:Int)<(x.kids.length:Int):=by omega
  have hly:=hlen .e y;obtain⟨ad,y',Bn,dn,Bk,dk,rfl,hy,_,x0,x1,x2,x3,x4,x5,x6,hky⟩:=kid_at HC.out (bR w1.heap.size w1) 0 (by omega);obtain rfl:y=y':=by rw[hky0] at hy;simpa using hy
  simp only[Nat.zero_mul,Addr.add_zero'] at x0 x1 x2 x3 x4 x5 x6;have HKy:=aM hky;have HWy:=aM (show y.wt<=m by omega);have Oy:=aM oy;have hl1:1<x.kids.length:=by omega
  have hl1I:(1:Int)<(x.kids.length:Int):=by omega
  have hlz:=hlen .b z;obtain⟨ad',z',Cn,en,Ck,ek,had,hz,_,z0,z1,z2,z3,z4,z5,z6,hkz⟩:=kid_at HC.out (bR w1.heap.size w1) 1 (by omega);cases had
  obtain rfl:z=z':=by rw[hky0] at hz;simpa using hz
  replace z0:w1.cell? ⟨ad.block,ad.off+7,none⟩=some (.int .i64 z.k):=z0;replace z1:w1.cell? ⟨ad.block,ad.off+8,none⟩=some (.string z.s):=z1;replace z2:w1.cell? ⟨ad.block,ad.off+9,none⟩=some (.float .f64 z.x):=z2;replace z3:w1.cell? ⟨ad.block,ad.off+10,none⟩=some (.int .i64 z.n):=z3;replace z4:w1.cell? ⟨ad.block,ad.off+11,none⟩=some (.bool z.b):=z4;replace z5:w1.cell? ⟨ad.block,ad.off+12,none⟩=some (.slice Cn z.names.length en):=z5;replace z6:w1.cell? ⟨ad.block,ad.off+13,none⟩=some (.slice Ck z.kids.length ek):=z6;have HKz:=aM hkz;have HWz:=aM (show z.wt<=m by omega);have Oz:=aM oz;clear hz hkz oz;clear hky0 hl2 hy hky oy;go_upto_region 16 with fail;refine wp_region_specs [.row ([⟨#[119,104,105,108,101]⟩]),.eq (.bool true),.eq (.pointer (some ⟨w.heap.size,6,none⟩)),.eq (.slice (some ad) x.kids.length ck),.eq (.pointer (some ad)),.eq (.agg #[.int .i64 y.k,.string y.s,.float .f64 y.x,.int .i64 y.n,.bool y.b,(.slice Bn y.names.length dn),(.slice Bk y.kids.length dk)]),.row (pr m .e y),.row ([⟨#[100,111]⟩]),.eq (.bool true),.eq (.pointer (some ⟨w.heap.size,6,none⟩)),.eq (.slice (some ad) x.kids.length ck),.eq (.pointer (some ⟨ad.block,ad.off+7,none⟩)),.eq (.agg #[.int .i64 z.k,.string z.s,.float .f64 z.x,.int .i64 z.n,.bool z.b,(.slice Cn z.names.length en),(.slice Ck z.kids.length ek)]),.row (pr m .b z),.row ([⟨#[101,110,100]⟩]),.rows ([[⟨#[119,104,105,108,101]⟩],pr m .e y,[⟨#[100,111]⟩],pr m .b z,[⟨#[101,110,100]⟩]]),.row (pJ [[⟨#[119,104,105,108,101]⟩],pr m .e y,[⟨#[100,111]⟩],pr m .b z,[⟨#[101,110,100]⟩]]),.row (pJ [[⟨#[119,104,105,108,101]⟩],pr m .e y,[⟨#[100,111]⟩],pr m .b z,[⟨#[101,110,100]⟩]])] (w1.heap.size) (by rfl) (by kernel_rfl) ?steps ?fin
  case steps=>
   refine⟨?_,?_,?_,?_,?_,?_,?_,?_,?_,?_,?_,?_,?_,?_,?_,?_,?_,?_,trivial⟩
   ·intro a w' hb ho hr
    go_simp;exact⟨_,rfl,bA (bR _ _) _,NR.lits w' _ (hb.size) [⟨#[119,104,105,108,101]⟩] (by simp)⟩
   ·intro a w' hb ho hr
    have t0:a.tmps[0]? = some (.bool true):=ho 0 rfl;go_simp;exact⟨_,rfl,bR _ _,rfl⟩
   ·intro a w' hb ho hr
    have t3:a.tmps[3]? = some (.pointer (some ⟨w.heap.size,0,none⟩)):=ho 3 rfl;go_simp;exact⟨_,rfl,bR _ _,rfl⟩
   ·intro a w' hb ho hr
    obtain⟨u2,d2,rfl⟩:=hr 2 _ _ rfl rfl rfl;have c0:=pB hb v6;go_simp;exact⟨_,rfl,bR _ _,rfl⟩
   ·intro a w' hb ho hr
    obtain⟨u3,d3,rfl⟩:=hr 3 _ _ rfl rfl rfl;go_simp;exact⟨_,rfl,bR _ _,rfl⟩
   ·intro a w' hb ho hr
    obtain⟨u4,d4,rfl⟩:=hr 4 _ _ rfl rfl rfl;obtain⟨c0,c1,c2,c3,c4,c5,c6⟩:=pB7 hb x0 x1 x2 x3 x4 x5 x6;go_simp;exact⟨_,rfl,bR _ _,rfl⟩
   ·intro a w' hb ho hr
    obtain⟨u1,d1,rfl⟩:=hr 1 _ _ rfl rfl rfl;obtain⟨u5,d5,rfl⟩:=hr 5 _ _ rfl rfl rfl;go_simp
    go_at_call 65
    refine(HP.out.e y HWy.out Oy.out w' Bn dn Bk dk (HKy.out.below hb)).mono ?_;rintro e w8 ⟨u,rfl,hR,hB⟩;exact⟨_,rfl,hB,NR.lower hR (hb.size)⟩
   ·intro a w' hb ho hr
    go_simp;exact⟨_,rfl,bA (bR _ _) _,NR.lits w' _ (hb.size) [⟨#[100,111]⟩] (by simp)⟩
   ·intro a w' hb ho hr
    have t0:a.tmps[0]? = some (.bool true):=ho 0 rfl;go_simp;exact⟨_,rfl,bR _ _,rfl⟩
   ·intro a w' hb ho hr
    have t3:a.tmps[3]? = some (.pointer (some ⟨w.heap.size,0,none⟩)):=ho 3 rfl;go_simp;exact⟨_,rfl,bR _ _,rfl⟩
   ·intro a w' hb ho hr
    obtain⟨u9,d9,rfl⟩:=hr 9 _ _ rfl rfl rfl;have c0:=pB hb v6;go_simp;exact⟨_,rfl,bR _ _,rfl⟩
   ·intro a w' hb ho hr
    obtain⟨u10,d10,rfl⟩:=hr 10 _ _ rfl rfl rfl;go_simp;exact⟨_,rfl,bR _ _,rfl⟩
   ·intro a w' hb ho hr
    obtain⟨u11,d11,rfl⟩:=hr 11 _ _ rfl rfl rfl;obtain⟨c0,c1,c2,c3,c4,c5,c6⟩:=pB7 hb z0 z1 z2 z3 z4 z5 z6;go_simp;exact⟨_,rfl,bR _ _,rfl⟩
   ·intro a w' hb ho hr
    obtain⟨u8,d8,rfl⟩:=hr 8 _ _ rfl rfl rfl;obtain⟨u12,d12,rfl⟩:=hr 12 _ _ rfl rfl rfl;go_simp
    go_at_call 13
    refine(HP.out.b z HWz.out Oz.out w' Cn en Ck ek (HKz.out.below hb)).mono ?_;rintro e w8 ⟨u,rfl,hR,hB⟩;exact⟨_,rfl,hB,NR.lower hR (hb.size)⟩
   ·intro a w' hb ho hr
    go_simp;exact⟨_,rfl,bA (bR _ _) _,NR.lits w' _ (hb.size) [⟨#[101,110,100]⟩] (by simp)⟩
   ·intro a w' hb ho hr
    obtain⟨u0,d0,h0⟩:=hr 0 _ _ rfl rfl rfl;replace h0:NR w' w1.heap.size u0 ([⟨#[119,104,105,108,101]⟩]):=h0;obtain⟨A0,q0,rfl⟩:=h0.sl;obtain⟨u6,d6,h6⟩:=hr 6 _ _ rfl rfl rfl;replace h6:NR w' w1.heap.size u6 (pr m .e y):=h6;obtain⟨A6,q6,rfl⟩:=h6.sl;obtain⟨u7,d7,h7⟩:=hr 7 _ _ rfl rfl rfl;replace h7:NR w' w1.heap.size u7 ([⟨#[100,111]⟩]):=h7;obtain⟨A7,q7,rfl⟩:=h7.sl;obtain⟨u13,d13,h13⟩:=hr 13 _ _ rfl rfl rfl;replace h13:NR w' w1.heap.size u13 (pr m .b z):=h13;obtain⟨A13,q13,rfl⟩:=h13.sl;obtain⟨u14,d14,h14⟩:=hr 14 _ _ rfl rfl rfl;replace h14:NR w' w1.heap.size u14 ([⟨#[101,110,100]⟩]):=h14;obtain⟨A14,q14,rfl⟩:=h14.sl;go_simp;exact⟨_,rfl,bA (bR _ _) _,LR.lit (ps:=[(.slice A0 ([⟨#[119,104,105,108,101]⟩]).length q0,[⟨#[119,104,105,108,101]⟩]),(.slice A6 (pr m .e y).length q6,pr m .e y),(.slice A7 ([⟨#[100,111]⟩]).length q7,[⟨#[100,111]⟩]),(.slice A13 (pr m .b z).length q13,pr m .b z),(.slice A14 ([⟨#[101,110,100]⟩]).length q14,[⟨#[101,110,100]⟩])]) (hb.size) (LRs.cons h0 (LRs.cons h6 (LRs.cons h7 (LRs.cons h13 (LRs.cons h14 LRs.nil))))) (by simp)⟩
   ·intro a w' hb ho hr
    obtain⟨u15,d15,h15⟩:=hr 15 _ _ rfl rfl rfl;replace h15:LR w' w1.heap.size u15 ([[⟨#[119,104,105,108,101]⟩],pr m .e y,[⟨#[100,111]⟩],pr m .b z,[⟨#[101,110,100]⟩]]):=h15;go_simp
    go_at_call 60
    refine(join_q h15 (by simp) (by simp;omega)).mono ?_;rintro e w8 ⟨u,rfl,hR,hB⟩;exact⟨_,rfl,hB,NR.lower hR (hb.size)⟩
   ·intro a w' hb ho hr
    obtain⟨u16,d16,h16⟩:=hr 16 _ _ rfl rfl rfl;replace h16:NR w' w1.heap.size u16 (pJ [[⟨#[119,104,105,108,101]⟩],pr m .e y,[⟨#[100,111]⟩],pr m .b z,[⟨#[101,110,100]⟩]]):=h16;obtain⟨A16,q16,rfl⟩:=h16.sl;go_simp;exact⟨_,rfl,bR _ _,h16⟩
  case fin=>
   intro a w' hb hd hs ho hr;obtain⟨u,du,hu⟩:=hr 17 _ _ rfl rfl;replace hu:NR w' w1.heap.size u (pJ [[⟨#[119,104,105,108,101]⟩],pr m .e y,[⟨#[100,111]⟩],pr m .b z,[⟨#[101,110,100]⟩]]):=hu;go_wp2_with fail;have e:pr (m+1) .s x=pJ [[⟨#[119,104,105,108,101]⟩],pr m .e y,[⟨#[100,111]⟩],pr m .b z,[⟨#[101,110,100]⟩]]:=by
    show sS (pr m) x=_
    simp[sS,pJ,kid,H1.out,HKY.out]
   refine⟨hd,u,by simp[results,Tryz.results28,du,go_sem],?_⟩;rw[e];exact⟨u,rfl,NR.lower hu HB.out.size,HB.out.trans (hb.mono HB.out.size)⟩
 | @rep _ y z h1 h2 hky0 oy oz=>
  have H1:=aM h1;have HX0:=aM v0;rw[h1] at v0;clear h1;have HKY:=aM hky0;have hwxx:=hwx;simp only[hky0,wts] at hwx;have hl2:2<=x.kids.length:=by rw[hky0];exact Nat.le_refl _
  have hl0:0<x.kids.length:=by omega
  have hl0I:(0:Int)<(x.kids.length:Int):=by omega
  have hly:=hlen .b y;obtain⟨ad,y',Bn,dn,Bk,dk,rfl,hy,_,x0,x1,x2,x3,x4,x5,x6,hky⟩:=kid_at HC.out (bR w1.heap.size w1) 0 (by omega);obtain rfl:y=y':=by rw[hky0] at hy;simpa using hy
  simp only[Nat.zero_mul,Addr.add_zero'] at x0 x1 x2 x3 x4 x5 x6;have HKy:=aM hky;have HWy:=aM (show y.wt<=m by omega);have Oy:=aM oy;have hl1:1<x.kids.length:=by omega
  have hl1I:(1:Int)<(x.kids.length:Int):=by omega
  have hlz:=hlen .e z;obtain⟨ad',z',Cn,en,Ck,ek,had,hz,_,z0,z1,z2,z3,z4,z5,z6,hkz⟩:=kid_at HC.out (bR w1.heap.size w1) 1 (by omega);cases had
  obtain rfl:z=z':=by rw[hky0] at hz;simpa using hz
  replace z0:w1.cell? ⟨ad.block,ad.off+7,none⟩=some (.int .i64 z.k):=z0;replace z1:w1.cell? ⟨ad.block,ad.off+8,none⟩=some (.string z.s):=z1;replace z2:w1.cell? ⟨ad.block,ad.off+9,none⟩=some (.float .f64 z.x):=z2;replace z3:w1.cell? ⟨ad.block,ad.off+10,none⟩=some (.int .i64 z.n):=z3;replace z4:w1.cell? ⟨ad.block,ad.off+11,none⟩=some (.bool z.b):=z4;replace z5:w1.cell? ⟨ad.block,ad.off+12,none⟩=some (.slice Cn z.names.length en):=z5;replace z6:w1.cell? ⟨ad.block,ad.off+13,none⟩=some (.slice Ck z.kids.length ek):=z6;have HKz:=aM hkz;have HWz:=aM (show z.wt<=m by omega);have Oz:=aM oz;clear hz hkz oz;clear hky0 hl2 hy hky oy;go_upto_region 18 with fail;refine wp_region_specs [.row ([⟨#[114,101,112,101,97,116]⟩]),.eq (.bool true),.eq (.pointer (some ⟨w.heap.size,6,none⟩)),.eq (.slice (some ad) x.kids.length ck),.eq (.pointer (some ad)),.eq (.agg #[.int .i64 y.k,.string y.s,.float .f64 y.x,.int .i64 y.n,.bool y.b,(.slice Bn y.names.length dn),(.slice Bk y.kids.length dk)]),.row (pr m .b y),.row ([⟨#[117,110,116,105,108]⟩]),.eq (.bool true),.eq (.pointer (some ⟨w.heap.size,6,none⟩)),.eq (.slice (some ad) x.kids.length ck),.eq (.pointer (some ⟨ad.block,ad.off+7,none⟩)),.eq (.agg #[.int .i64 z.k,.string z.s,.float .f64 z.x,.int .i64 z.n,.bool z.b,(.slice Cn z.names.length en),(.slice Ck z.kids.length ek)]),.row (pr m .e z),.rows ([[⟨#[114,101,112,101,97,116]⟩],pr m .b y,[⟨#[117,110,116,105,108]⟩],pr m .e z]),.row (pJ [[⟨#[114,101,112,101,97,116]⟩],pr m .b y,[⟨#[117,110,116,105,108]⟩],pr m .e z]),.row (pJ [[⟨#[114,101,112,101,97,116]⟩],pr m .b y,[⟨#[117,110,116,105,108]⟩],pr m .e z])] (w1.heap.size) (by rfl) (by kernel_rfl) ?steps ?fin
  case steps=>
   refine⟨?_,?_,?_,?_,?_,?_,?_,?_,?_,?_,?_,?_,?_,?_,?_,?_,?_,trivial⟩
   ·intro a w' hb ho hr
    go_simp;exact⟨_,rfl,bA (bR _ _) _,NR.lits w' _ (hb.size) [⟨#[114,101,112,101,97,116]⟩] (by simp)⟩
   ·intro a w' hb ho hr
    have t0:a.tmps[0]? = some (.bool true):=ho 0 rfl;go_simp;exact⟨_,rfl,bR _ _,rfl⟩
   ·intro a w' hb ho hr
    have t3:a.tmps[3]? = some (.pointer (some ⟨w.heap.size,0,none⟩)):=ho 3 rfl;go_simp;exact⟨_,rfl,bR _ _,rfl⟩
   ·intro a w' hb ho hr
    obtain⟨u2,d2,rfl⟩:=hr 2 _ _ rfl rfl rfl;have c0:=pB hb v6;go_simp;exact⟨_,rfl,bR _ _,rfl⟩
   ·intro a w' hb ho hr
    obtain⟨u3,d3,rfl⟩:=hr 3 _ _ rfl rfl rfl;go_simp;exact⟨_,rfl,bR _ _,rfl⟩
   ·intro a w' hb ho hr
    obtain⟨u4,d4,rfl⟩:=hr 4 _ _ rfl rfl rfl;obtain⟨c0,c1,c2,c3,c4,c5,c6⟩:=pB7 hb x0 x1 x2 x3 x4 x5 x6;go_simp;exact⟨_,rfl,bR _ _,rfl⟩
   ·intro a w' hb ho hr
    obtain⟨u1,d1,rfl⟩:=hr 1 _ _ rfl rfl rfl;obtain⟨u5,d5,rfl⟩:=hr 5 _ _ rfl rfl rfl;go_simp
    go_at_call 13
    refine(HP.out.b y HWy.out Oy.out w' Bn dn Bk dk (HKy.out.below hb)).mono ?_;rintro e w8 ⟨u,rfl,hR,hB⟩;exact⟨_,rfl,hB,NR.lower hR (hb.size)⟩
   ·intro a w' hb ho hr
    go_simp;exact⟨_,rfl,bA (bR _ _) _,NR.lits w' _ (hb.size) [⟨#[117,110,116,105,108]⟩] (by simp)⟩
   ·intro a w' hb ho hr
    have t0:a.tmps[0]? = some (.bool true):=ho 0 rfl;go_simp;exact⟨_,rfl,bR _ _,rfl⟩
   ·intro a w' hb ho hr
    have t3:a.tmps[3]? = some (.pointer (some ⟨w.heap.size,0,none⟩)):=ho 3 rfl;go_simp;exact⟨_,rfl,bR _ _,rfl⟩
   ·intro a w' hb ho hr
    obtain⟨u9,d9,rfl⟩:=hr 9 _ _ rfl rfl rfl;have c0:=pB hb v6;go_simp;exact⟨_,rfl,bR _ _,rfl⟩
   ·intro a w' hb ho hr
    obtain⟨u10,d10,rfl⟩:=hr 10 _ _ rfl rfl rfl;go_simp;exact⟨_,rfl,bR _ _,rfl⟩
   ·intro a w' hb ho hr
    obtain⟨u11,d11,rfl⟩:=hr 11 _ _ rfl rfl rfl;obtain⟨c0,c1,c2,c3,c4,c5,c6⟩:=pB7 hb z0 z1 z2 z3 z4 z5 z6;go_simp;exact⟨_,rfl,bR _ _,rfl⟩
   ·intro a w' hb ho hr
    obtain⟨u8,d8,rfl⟩:=hr 8 _ _ rfl rfl rfl;obtain⟨u12,d12,rfl⟩:=hr 12 _ _ rfl rfl rfl;go_simp
    go_at_call 65
    refine(HP.out.e z HWz.out Oz.out w' Cn en Ck ek (HKz.out.below hb)).mono ?_;rintro e w8 ⟨u,rfl,hR,hB⟩;exact⟨_,rfl,hB,NR.lower hR (hb.size)⟩
   ·intro a w' hb ho hr
    obtain⟨u0,d0,h0⟩:=hr 0 _ _ rfl rfl rfl;replace h0:NR w' w1.heap.size u0 ([⟨#[114,101,112,101,97,116]⟩]):=h0;obtain⟨A0,q0,rfl⟩:=h0.sl;obtain⟨u6,d6,h6⟩:=hr 6 _ _ rfl rfl rfl;replace h6:NR w' w1.heap.size u6 (pr m .b y):=h6;obtain⟨A6,q6,rfl⟩:=h6.sl;obtain⟨u7,d7,h7⟩:=hr 7 _ _ rfl rfl rfl;replace h7:NR w' w1.heap.size u7 ([⟨#[117,110,116,105,108]⟩]):=h7;obtain⟨A7,q7,rfl⟩:=h7.sl;obtain⟨u13,d13,h13⟩:=hr 13 _ _ rfl rfl rfl;replace h13:NR w' w1.heap.size u13 (pr m .e z):=h13;obtain⟨A13,q13,rfl⟩:=h13.sl;go_simp;exact⟨_,rfl,bA (bR _ _) _,LR.lit (ps:=[(.slice A0 ([⟨#[114,101,112,101,97,116]⟩]).length q0,[⟨#[114,101,112,101,97,116]⟩]),(.slice A6 (pr m .b y).length q6,pr m .b y),(.slice A7 ([⟨#[117,110,116,105,108]⟩]).length q7,[⟨#[117,110,116,105,108]⟩]),(.slice A13 (pr m .e z).length q13,pr m .e z)]) (hb.size) (LRs.cons h0 (LRs.cons h6 (LRs.cons h7 (LRs.cons h13 LRs.nil)))) (by simp)⟩
   ·intro a w' hb ho hr
    obtain⟨u14,d14,h14⟩:=hr 14 _ _ rfl rfl rfl;replace h14:LR w' w1.heap.size u14 ([[⟨#[114,101,112,101,97,116]⟩],pr m .b y,[⟨#[117,110,116,105,108]⟩],pr m .e z]):=h14;go_simp
    go_at_call 60
    refine(join_q h14 (by simp) (by simp;omega)).mono ?_;rintro e w8 ⟨u,rfl,hR,hB⟩;exact⟨_,rfl,hB,NR.lower hR (hb.size)⟩
   ·intro a w' hb ho hr
    obtain⟨u15,d15,h15⟩:=hr 15 _ _ rfl rfl rfl;replace h15:NR w' w1.heap.size u15 (pJ [[⟨#[114,101,112,101,97,116]⟩],pr m .b y,[⟨#[117,110,116,105,108]⟩],pr m .e z]):=h15;obtain⟨A15,q15,rfl⟩:=h15.sl;go_simp;exact⟨_,rfl,bR _ _,h15⟩
  case fin=>
   intro a w' hb hd hs ho hr;obtain⟨u,du,hu⟩:=hr 16 _ _ rfl rfl;replace hu:NR w' w1.heap.size u (pJ [[⟨#[114,101,112,101,97,116]⟩],pr m .b y,[⟨#[117,110,116,105,108]⟩],pr m .e z]):=hu;go_wp2_with fail;have e:pr (m+1) .s x=pJ [[⟨#[114,101,112,101,97,116]⟩],pr m .b y,[⟨#[117,110,116,105,108]⟩],pr m .e z]:=by
    show sS (pr m) x=_
    simp[sS,pJ,kid,H1.out,HKY.out]
   refine⟨hd,u,by simp[results,Tryz.results28,du,go_sem],?_⟩;rw[e];exact⟨u,rfl,NR.lower hu HB.out.size,HB.out.trans (hb.mono HB.out.size)⟩
 |iff h1 h2 h3=>
  have H1:=aM h1;have HX0:=aM v0;rw[h1] at v0;clear h1;have HO:=aM h3;have HX:=aM hx;clear h3;go_upto_region 20 with fail;replace v0:=HX0.out;refine wp_region_specs_seq [.eq (.bool true),.eq (.agg #[.int .i64 x.k,.string x.s,.float .f64 x.x,.int .i64 x.n,.bool x.b,(.slice An x.names.length cn),(.slice Ak x.kids.length ck)]),.row (sBranch (pr m) x),.row (sBranch (pr m) x)] (w1.heap.size) (by kernel_rfl) ?steps ?fin
  case steps=>
   refine⟨?_,?_,?_,?_,trivial⟩
   ·intro a w' hb ho hr
    have t0:a.tmps[0]? = some (.bool true):=ho 0 rfl;go_simp;exact⟨_,rfl,bR _ _,rfl⟩
   ·intro a w' hb ho hr
    have t3:a.tmps[3]? = some (.pointer (some ⟨w.heap.size,0,none⟩)):=ho 3 rfl;obtain⟨c0,c1,c2,c3,c4,c5,c6⟩:=pB7 hb v0 v1 v2 v3 v4 v5 v6;go_simp;exact⟨_,rfl,bR _ _,rfl⟩
   ·intro a w' hb ho hr
    obtain⟨u0,d0,rfl⟩:=hr 0 _ _ rfl rfl rfl;obtain⟨u1,d1,rfl⟩:=hr 1 _ _ rfl rfl rfl;go_simp
    go_at_call 66
    refine(HBR.out x HX.out HO.out w' An cn Ak ck (HNK.out.below hb)).mono ?_;rintro e w8 ⟨u,rfl,hR,hB⟩;exact⟨_,rfl,hB,NR.lower hR (hb.size)⟩
   ·intro a w' hb ho hr
    obtain⟨u2,d2,h2⟩:=hr 2 _ _ rfl rfl rfl;replace h2:NR w' w1.heap.size u2 (sBranch (pr m) x):=h2;obtain⟨A2,q2,rfl⟩:=h2.sl;go_simp;exact⟨_,rfl,bR _ _,h2⟩
  case fin=>
   intro a w' hb hd hs ho hr;obtain⟨u,du,hu⟩:=hr 3 _ _ rfl rfl;replace hu:NR w' w1.heap.size u (sBranch (pr m) x):=hu;go_wp2_with fail;have e:pr (m+1) .s x=sBranch (pr m) x:=by
    show sS (pr m) x=_
    simp[sS,pJ,kid,H1.out]
   refine⟨hd,u,by simp[results,Tryz.results28,du,go_sem],?_⟩;rw[e];exact⟨u,rfl,NR.lower hu HB.out.size,HB.out.trans (hb.mono HB.out.size)⟩
 | @forn _ ys z h1 h2 hne hky0 hn5 oys oz=>
  have H1:=aM h1;have HX0:=aM v0;rw[h1] at v0;clear h1;have hnl0:=List.length_pos_iff.2 hne;obtain⟨an,rfl,nm0⟩:=Kd.at_string HNK.out.names.2 0 (by omega) (by omega)
  have hnmq:x.names[0]?.getD ⟨#[]⟩=rdOf ByteArray.empty x.names 0:=by(cases hc:x.names with|nil=>exact absurd hc hne|cons a r=>rfl)
  simp only[Int.toNat_zero,Nat.zero_mul,Addr.add_zero'] at nm0;generalize rdOf ByteArray.empty x.names 0=nm at nm0 hnmq;have HNMQ:=aM hnmq;have hnl0I:(0:Int)<(x.names.length:Int):=by omega
  clear hnmq hne;have HKY:=aM hky0;have HNN:=aM hn5;rw[hn5] at v3;rw[hky0,wts_append] at hwx;simp only[wts] at hwx;have hkl:x.kids.length=ys.length+1:=by rw[hky0];simp
  have hltI:(ys.length:Int)<(x.kids.length:Int):=by omega
  have hltN:ys.length<x.kids.length:=by omega
  have hcI:(ys.length:Int)<=(ck:Int):=by omega
  have hcI2:¬(ck:Int)<(ys.length:Int):=by omega
  have hcN:ys.length<=ck:=by omega
  have hck0:¬ck=0:=by omega
  have h0I:(0:Int)<=(ys.length:Int):=by omega
  have ei:((ys.length:Nat):Int).toNat=ys.length:=by omega
  have hly:=hLl ys;have hlz:=hlen .b z;obtain⟨ad,z',Bn,dn,Bk,dk,rfl,hz,_,x0,x1,x2,x3,x4,x5,x6,hkz⟩:=kid_at HC.out (bR w1.heap.size w1) ys.length (by omega);obtain rfl:z=z':=by rw[hky0] at hz;simpa using hz
  have HKz:=aM hkz;have HWz:=aM (show z.wt<=m by omega);have Oz:=aM oz;have HWY:=aM (show wts ys<=m by omega);have HOY:=aM oys;have hcy:=Kd.C_take HC.out (m:=ys.length) (by omega);rw[show x.kids.take ys.length=ys by rw[hky0];simp] at hcy;have HCY:=aM hcy;have hkl1:=aM hkl;clear hky0 hn5 hz hkz oz oys hcy hkl;go_upto_region 22 with fail;refine wp_region_specs [.eq (.pointer (some ⟨w.heap.size,5,none⟩)),.eq (.slice (some an) x.names.length cn),.eq (.pointer (some an)),.eq (.string nm),.row ([⟨#[102,111,114]⟩,nm,⟨#[61]⟩]),.eq (.bool true),.eq (.pointer (some ⟨w.heap.size,6,none⟩)),.eq (.slice (some ad) x.kids.length ck),.eq (.pointer (some ⟨w.heap.size,3,none⟩)),.eq (.int .i64 (ys.length:Int)),.eq (.slice (some ad) ys.length ck),.row (sList (pr m) ys),.row ([⟨#[100,111]⟩]),.eq (.bool true),.eq (.pointer (some ⟨w.heap.size,6,none⟩)),.eq (.slice (some ad) x.kids.length ck),.eq (.pointer (some ⟨w.heap.size,3,none⟩)),.eq (.int .i64 (ys.length:Int)),.eq (.pointer (some (ad.add (ys.length*7)))),.eq (.agg #[.int .i64 z.k,.string z.s,.float .f64 z.x,.int .i64 z.n,.bool z.b,(.slice Bn z.names.length dn),(.slice Bk z.kids.length dk)]),.row (pr m .b z),.row ([⟨#[101,110,100]⟩]),.rows ([[⟨#[102,111,114]⟩,nm,⟨#[61]⟩],sList (pr m) ys,[⟨#[100,111]⟩],pr m .b z,[⟨#[101,110,100]⟩]]),.row (pJ [[⟨#[102,111,114]⟩,nm,⟨#[61]⟩],sList (pr m) ys,[⟨#[100,111]⟩],pr m .b z,[⟨#[101,110,100]⟩]]),.row (pJ [[⟨#[102,111,114]⟩,nm,⟨#[61]⟩],sList (pr m) ys,[⟨#[100,111]⟩],pr m .b z,[⟨#[101,110,100]⟩]])] (w1.heap.size) (by rfl) (by kernel_rfl) ?steps ?fin
  case steps=>
   refine⟨?_,?_,?_,?_,?_,?_,?_,?_,?_,?_,?_,?_,?_,?_,?_,?_,?_,?_,?_,?_,?_,?_,?_,?_,?_,trivial⟩
   ·intro a w' hb ho hr
    have t3:a.tmps[3]? = some (.pointer (some ⟨w.heap.size,0,none⟩)):=ho 3 rfl;go_simp;exact⟨_,rfl,bR _ _,rfl⟩
   ·intro a w' hb ho hr
    obtain⟨u0,d0,rfl⟩:=hr 0 _ _ rfl rfl rfl;have c0:=pB hb v5;go_simp;exact⟨_,rfl,bR _ _,rfl⟩
   ·intro a w' hb ho hr
    obtain⟨u1,d1,rfl⟩:=hr 1 _ _ rfl rfl rfl;go_simp;exact⟨_,rfl,bR _ _,rfl⟩
   ·intro a w' hb ho hr
    obtain⟨u2,d2,rfl⟩:=hr 2 _ _ rfl rfl rfl;have c0:=pB hb nm0;go_simp;exact⟨_,rfl,bR _ _,rfl⟩
   ·intro a w' hb ho hr
    obtain⟨u3,d3,rfl⟩:=hr 3 _ _ rfl rfl rfl;go_simp;exact⟨_,rfl,bA (bR _ _) _,NR.lits w' _ (hb.size) [⟨#[102,111,114]⟩,nm,⟨#[61]⟩] (by simp)⟩
   ·intro a w' hb ho hr
    have t0:a.tmps[0]? = some (.bool true):=ho 0 rfl;go_simp;exact⟨_,rfl,bR _ _,rfl⟩
   ·intro a w' hb ho hr
    have t3:a.tmps[3]? = some (.pointer (some ⟨w.heap.size,0,none⟩)):=ho 3 rfl;go_simp;exact⟨_,rfl,bR _ _,rfl⟩
   ·intro a w' hb ho hr
    obtain⟨u6,d6,rfl⟩:=hr 6 _ _ rfl rfl rfl;have c0:=pB hb v6;go_simp;exact⟨_,rfl,bR _ _,rfl⟩
   ·intro a w' hb ho hr
    have t3:a.tmps[3]? = some (.pointer (some ⟨w.heap.size,0,none⟩)):=ho 3 rfl;go_simp;exact⟨_,rfl,bR _ _,rfl⟩
   ·intro a w' hb ho hr
    obtain⟨u8,d8,rfl⟩:=hr 8 _ _ rfl rfl rfl;have c0:=pB hb v3;go_simp;exact⟨_,rfl,bR _ _,rfl⟩
   ·intro a w' hb ho hr
    obtain⟨u7,d7,rfl⟩:=hr 7 _ _ rfl rfl rfl;obtain⟨u9,d9,rfl⟩:=hr 9 _ _ rfl rfl rfl;go_simp;exact⟨_,rfl,bR _ _,rfl⟩
   ·intro a w' hb ho hr
    obtain⟨u5,d5,rfl⟩:=hr 5 _ _ rfl rfl rfl;obtain⟨u10,d10,rfl⟩:=hr 10 _ _ rfl rfl rfl;go_simp
    go_at_call 62
    refine(HL.out ys HWY.out HOY.out w' (some ad) ck hcN (Kd.C_below HCY.out hb)).mono ?_;rintro e w8 ⟨u,rfl,hR,hB⟩;exact⟨_,rfl,hB,NR.lower hR (hb.size)⟩
   ·intro a w' hb ho hr
    go_simp;exact⟨_,rfl,bA (bR _ _) _,NR.lits w' _ (hb.size) [⟨#[100,111]⟩] (by simp)⟩
   ·intro a w' hb ho hr
    have t0:a.tmps[0]? = some (.bool true):=ho 0 rfl;go_simp;exact⟨_,rfl,bR _ _,rfl⟩
   ·intro a w' hb ho hr
    have t3:a.tmps[3]? = some (.pointer (some ⟨w.heap.size,0,none⟩)):=ho 3 rfl;go_simp;exact⟨_,rfl,bR _ _,rfl⟩
   ·intro a w' hb ho hr
    obtain⟨u14,d14,rfl⟩:=hr 14 _ _ rfl rfl rfl;have c0:=pB hb v6;go_simp;exact⟨_,rfl,bR _ _,rfl⟩
   ·intro a w' hb ho hr
    have t3:a.tmps[3]? = some (.pointer (some ⟨w.heap.size,0,none⟩)):=ho 3 rfl;go_simp;exact⟨_,rfl,bR _ _,rfl⟩
   ·intro a w' hb ho hr
    obtain⟨u16,d16,rfl⟩:=hr 16 _ _ rfl rfl rfl;have c0:=pB hb v3;go_simp;exact⟨_,rfl,bR _ _,rfl⟩
   ·intro a w' hb ho hr
    obtain⟨u15,d15,rfl⟩:=hr 15 _ _ rfl rfl rfl;obtain⟨u17,d17,rfl⟩:=hr 17 _ _ rfl rfl rfl;go_simp;exact⟨_,rfl,bR _ _,rfl⟩
   ·intro a w' hb ho hr
    obtain⟨u18,d18,rfl⟩:=hr 18 _ _ rfl rfl rfl;obtain⟨c0,c1,c2,c3,c4,c5,c6⟩:=pB7 hb x0 x1 x2 x3 x4 x5 x6;go_simp;exact⟨_,rfl,bR _ _,rfl⟩
   ·intro a w' hb ho hr
    obtain⟨u13,d13,rfl⟩:=hr 13 _ _ rfl rfl rfl;obtain⟨u19,d19,rfl⟩:=hr 19 _ _ rfl rfl rfl;go_simp
    go_at_call 13
    refine(HP.out.b z HWz.out Oz.out w' Bn dn Bk dk (HKz.out.below hb)).mono ?_;rintro e w8 ⟨u,rfl,hR,hB⟩;exact⟨_,rfl,hB,NR.lower hR (hb.size)⟩
   ·intro a w' hb ho hr
    go_simp;exact⟨_,rfl,bA (bR _ _) _,NR.lits w' _ (hb.size) [⟨#[101,110,100]⟩] (by simp)⟩
   ·intro a w' hb ho hr
    obtain⟨u4,d4,h4⟩:=hr 4 _ _ rfl rfl rfl;replace h4:NR w' w1.heap.size u4 ([⟨#[102,111,114]⟩,nm,⟨#[61]⟩]):=h4;obtain⟨A4,q4,rfl⟩:=h4.sl;obtain⟨u11,d11,h11⟩:=hr 11 _ _ rfl rfl rfl;replace h11:NR w' w1.heap.size u11 (sList (pr m) ys):=h11;obtain⟨A11,q11,rfl⟩:=h11.sl;obtain⟨u12,d12,h12⟩:=hr 12 _ _ rfl rfl rfl;replace h12:NR w' w1.heap.size u12 ([⟨#[100,111]⟩]):=h12;obtain⟨A12,q12,rfl⟩:=h12.sl;obtain⟨u20,d20,h20⟩:=hr 20 _ _ rfl rfl rfl;replace h20:NR w' w1.heap.size u20 (pr m .b z):=h20;obtain⟨A20,q20,rfl⟩:=h20.sl;obtain⟨u21,d21,h21⟩:=hr 21 _ _ rfl rfl rfl;replace h21:NR w' w1.heap.size u21 ([⟨#[101,110,100]⟩]):=h21;obtain⟨A21,q21,rfl⟩:=h21.sl;go_simp;exact⟨_,rfl,bA (bR _ _) _,LR.lit (ps:=[(.slice A4 ([⟨#[102,111,114]⟩,nm,⟨#[61]⟩]).length q4,[⟨#[102,111,114]⟩,nm,⟨#[61]⟩]),(.slice A11 (sList (pr m) ys).length q11,sList (pr m) ys),(.slice A12 ([⟨#[100,111]⟩]).length q12,[⟨#[100,111]⟩]),(.slice A20 (pr m .b z).length q20,pr m .b z),(.slice A21 ([⟨#[101,110,100]⟩]).length q21,[⟨#[101,110,100]⟩])]) (hb.size) (LRs.cons h4 (LRs.cons h11 (LRs.cons h12 (LRs.cons h20 (LRs.cons h21 LRs.nil))))) (by simp)⟩
   ·intro a w' hb ho hr
    obtain⟨u22,d22,h22⟩:=hr 22 _ _ rfl rfl rfl;replace h22:LR w' w1.heap.size u22 ([[⟨#[102,111,114]⟩,nm,⟨#[61]⟩],sList (pr m) ys,[⟨#[100,111]⟩],pr m .b z,[⟨#[101,110,100]⟩]]):=h22;go_simp
    go_at_call 60
    refine(join_q h22 (by simp) (by simp;omega)).mono ?_;rintro e w8 ⟨u,rfl,hR,hB⟩;exact⟨_,rfl,hB,NR.lower hR (hb.size)⟩
   ·intro a w' hb ho hr
    obtain⟨u23,d23,h23⟩:=hr 23 _ _ rfl rfl rfl;replace h23:NR w' w1.heap.size u23 (pJ [[⟨#[102,111,114]⟩,nm,⟨#[61]⟩],sList (pr m) ys,[⟨#[100,111]⟩],pr m .b z,[⟨#[101,110,100]⟩]]):=h23;obtain⟨A23,q23,rfl⟩:=h23.sl;go_simp;exact⟨_,rfl,bR _ _,h23⟩
  case fin=>
   intro a w' hb hd hs ho hr;obtain⟨u,du,hu⟩:=hr 24 _ _ rfl rfl;replace hu:NR w' w1.heap.size u (pJ [[⟨#[102,111,114]⟩,nm,⟨#[61]⟩],sList (pr m) ys,[⟨#[100,111]⟩],pr m .b z,[⟨#[101,110,100]⟩]]):=hu;go_wp2_with fail;have e:pr (m+1) .s x=pJ [[⟨#[102,111,114]⟩,nm,⟨#[61]⟩],sList (pr m) ys,[⟨#[100,111]⟩],pr m .b z,[⟨#[101,110,100]⟩]]:=by
    show sS (pr m) x=_
    simp[sS,pJ,kid,H1.out,HKY.out,HNN.out,HNMQ.out]
   refine⟨hd,u,by simp[results,Tryz.results28,du,go_sem],?_⟩;rw[e];exact⟨u,rfl,NR.lower hu HB.out.size,HB.out.trans (hb.mono HB.out.size)⟩
 | @fori _ ys z h1 h2 hky0 hn5 oys oz=>
  have H1:=aM h1;have HX0:=aM v0;rw[h1] at v0;clear h1;have hNn:=HNK.out.names;have HNn:=aM hNn.2;have hcn:=hNn.1;have hnl:=pNames_len x.names;clear hNn;have HKY:=aM hky0;have HNN:=aM hn5;rw[hn5] at v3;rw[hky0,wts_append] at hwx;simp only[wts] at hwx;have hkl:x.kids.length=ys.length+1:=by rw[hky0];simp
  have hltI:(ys.length:Int)<(x.kids.length:Int):=by omega
  have hltN:ys.length<x.kids.length:=by omega
  have hcI:(ys.length:Int)<=(ck:Int):=by omega
  have hcI2:¬(ck:Int)<(ys.length:Int):=by omega
  have hcN:ys.length<=ck:=by omega
  have hck0:¬ck=0:=by omega
  have h0I:(0:Int)<=(ys.length:Int):=by omega
  have ei:((ys.length:Nat):Int).toNat=ys.length:=by omega
  have hly:=hLl ys;have hlz:=hlen .b z;obtain⟨ad,z',Bn,dn,Bk,dk,rfl,hz,_,x0,x1,x2,x3,x4,x5,x6,hkz⟩:=kid_at HC.out (bR w1.heap.size w1) ys.length (by omega);obtain rfl:z=z':=by rw[hky0] at hz;simpa using hz
  have HKz:=aM hkz;have HWz:=aM (show z.wt<=m by omega);have Oz:=aM oz;have HWY:=aM (show wts ys<=m by omega);have HOY:=aM oys;have hcy:=Kd.C_take HC.out (m:=ys.length) (by omega);rw[show x.kids.take ys.length=ys by rw[hky0];simp] at hcy;have HCY:=aM hcy;have hkl1:=aM hkl;clear hky0 hn5 hz hkz oz oys hcy hkl;go_upto_region 24 with fail;refine wp_region_specs [.row ([⟨#[102,111,114]⟩]),.eq (.pointer (some ⟨w.heap.size,5,none⟩)),.eq (.slice An x.names.length cn),.row (pNames x.names),.row ([⟨#[105,110]⟩]),.eq (.bool true),.eq (.pointer (some ⟨w.heap.size,6,none⟩)),.eq (.slice (some ad) x.kids.length ck),.eq (.pointer (some ⟨w.heap.size,3,none⟩)),.eq (.int .i64 (ys.length:Int)),.eq (.slice (some ad) ys.length ck),.row (sList (pr m) ys),.row ([⟨#[100,111]⟩]),.eq (.bool true),.eq (.pointer (some ⟨w.heap.size,6,none⟩)),.eq (.slice (some ad) x.kids.length ck),.eq (.pointer (some ⟨w.heap.size,3,none⟩)),.eq (.int .i64 (ys.length:Int)),.eq (.pointer (some (ad.add (ys.length*7)))),.eq (.agg #[.int .i64 z.k,.string z.s,.float .f64 z.x,.int .i64 z.n,.bool z.b,(.slice Bn z.names.length dn),(.slice Bk z.kids.length dk)]),.row (pr m .b z),.row ([⟨#[101,110,100]⟩]),.rows ([[⟨#[102,111,114]⟩],pNames x.names,[⟨#[105,110]⟩],sList (pr m) ys,[⟨#[100,111]⟩],pr m .b z,[⟨#[101,110,100]⟩]]),.row (pJ [[⟨#[102,111,114]⟩],pNames x.names,[⟨#[105,110]⟩],sList (pr m) ys,[⟨#[100,111]⟩],pr m .b z,[⟨#[101,110,100]⟩]]),.row (pJ [[⟨#[102,111,114]⟩],pNames x.names,[⟨#[105,110]⟩],sList (pr m) ys,[⟨#[100,111]⟩],pr m .b z,[⟨#[101,110,100]⟩]])] (w1.heap.size) (by rfl) (by kernel_rfl) ?steps ?fin
  case steps=>
   refine⟨?_,?_,?_,?_,?_,?_,?_,?_,?_,?_,?_,?_,?_,?_,?_,?_,?_,?_,?_,?_,?_,?_,?_,?_,?_,trivial⟩
   ·intro a w' hb ho hr
    go_simp;exact⟨_,rfl,bA (bR _ _) _,NR.lits w' _ (hb.size) [⟨#[102,111,114]⟩] (by simp)⟩
   ·intro a w' hb ho hr
    have t3:a.tmps[3]? = some (.pointer (some ⟨w.heap.size,0,none⟩)):=ho 3 rfl;go_simp;exact⟨_,rfl,bR _ _,rfl⟩
   ·intro a w' hb ho hr
    obtain⟨u1,d1,rfl⟩:=hr 1 _ _ rfl rfl rfl;have c0:=pB hb v5;go_simp;exact⟨_,rfl,bR _ _,rfl⟩
   ·intro a w' hb ho hr
    obtain⟨u2,d2,rfl⟩:=hr 2 _ _ rfl rfl rfl;go_simp
    go_at_call 61
    refine(prNames_q (Kd.C_below HNn.out hb) hcn (by omega)).mono ?_;rintro e w8 ⟨u,rfl,hR,hB⟩;exact⟨_,rfl,hB,NR.lower hR (hb.size)⟩
   ·intro a w' hb ho hr
    go_simp;exact⟨_,rfl,bA (bR _ _) _,NR.lits w' _ (hb.size) [⟨#[105,110]⟩] (by simp)⟩
   ·intro a w' hb ho hr
    have t0:a.tmps[0]? = some (.bool true):=ho 0 rfl;go_simp;exact⟨_,rfl,bR _ _,rfl⟩
   ·intro a w' hb ho hr
    have t3:a.tmps[3]? = some (.pointer (some ⟨w.heap.size,0,none⟩)):=ho 3 rfl;go_simp;exact⟨_,rfl,bR _ _,rfl⟩
   ·intro a w' hb ho hr
    obtain⟨u6,d6,rfl⟩:=hr 6 _ _ rfl rfl rfl;have c0:=pB hb v6;go_simp;exact⟨_,rfl,bR _ _,rfl⟩
   ·intro a w' hb ho hr
    have t3:a.tmps[3]? = some (.pointer (some ⟨w.heap.size,0,none⟩)):=ho 3 rfl;go_simp;exact⟨_,rfl,bR _ _,rfl⟩
   ·intro a w' hb ho hr
    obtain⟨u8,d8,rfl⟩:=hr 8 _ _ rfl rfl rfl;have c0:=pB hb v3;go_simp;exact⟨_,rfl,bR _ _,rfl⟩
   ·intro a w' hb ho hr
    obtain⟨u7,d7,rfl⟩:=hr 7 _ _ rfl rfl rfl;obtain⟨u9,d9,rfl⟩:=hr 9 _ _ rfl rfl rfl;go_simp;exact⟨_,rfl,bR _ _,rfl⟩
   ·intro a w' hb ho hr
    obtain⟨u5,d5,rfl⟩:=hr 5 _ _ rfl rfl rfl;obtain⟨u10,d10,rfl⟩:=hr 10 _ _ rfl rfl rfl;go_simp
    go_at_call 62
    refine(HL.out ys HWY.out HOY.out w' (some ad) ck hcN (Kd.C_below HCY.out hb)).mono ?_;rintro e w8 ⟨u,rfl,hR,hB⟩;exact⟨_,rfl,hB,NR.lower hR (hb.size)⟩
   ·intro a w' hb ho hr
    go_simp;exact⟨_,rfl,bA (bR _ _) _,NR.lits w' _ (hb.size) [⟨#[100,111]⟩] (by simp)⟩
   ·intro a w' hb ho hr
    have t0:a.tmps[0]? = some (.bool true):=ho 0 rfl;go_simp;exact⟨_,rfl,bR _ _,rfl⟩
   ·intro a w' hb ho hr
    have t3:a.tmps[3]? = some (.pointer (some ⟨w.heap.size,0,none⟩)):=ho 3 rfl;go_simp;exact⟨_,rfl,bR _ _,rfl⟩
   ·intro a w' hb ho hr
    obtain⟨u14,d14,rfl⟩:=hr 14 _ _ rfl rfl rfl;have c0:=pB hb v6;go_simp;exact⟨_,rfl,bR _ _,rfl⟩
   ·intro a w' hb ho hr
    have t3:a.tmps[3]? = some (.pointer (some ⟨w.heap.size,0,none⟩)):=ho 3 rfl;go_simp;exact⟨_,rfl,bR _ _,rfl⟩
   ·intro a w' hb ho hr
    obtain⟨u16,d16,rfl⟩:=hr 16 _ _ rfl rfl rfl;have c0:=pB hb v3;go_simp;exact⟨_,rfl,bR _ _,rfl⟩
   ·intro a w' hb ho hr
    obtain⟨u15,d15,rfl⟩:=hr 15 _ _ rfl rfl rfl;obtain⟨u17,d17,rfl⟩:=hr 17 _ _ rfl rfl rfl;go_simp;exact⟨_,rfl,bR _ _,rfl⟩
   ·intro a w' hb ho hr
    obtain⟨u18,d18,rfl⟩:=hr 18 _ _ rfl rfl rfl;obtain⟨c0,c1,c2,c3,c4,c5,c6⟩:=pB7 hb x0 x1 x2 x3 x4 x5 x6;go_simp;exact⟨_,rfl,bR _ _,rfl⟩
   ·intro a w' hb ho hr
    obtain⟨u13,d13,rfl⟩:=hr 13 _ _ rfl rfl rfl;obtain⟨u19,d19,rfl⟩:=hr 19 _ _ rfl rfl rfl;go_simp
    go_at_call 13
    refine(HP.out.b z HWz.out Oz.out w' Bn dn Bk dk (HKz.out.below hb)).mono ?_;rintro e w8 ⟨u,rfl,hR,hB⟩;exact⟨_,rfl,hB,NR.lower hR (hb.size)⟩
   ·intro a w' hb ho hr
    go_simp;exact⟨_,rfl,bA (bR _ _) _,NR.lits w' _ (hb.size) [⟨#[101,110,100]⟩] (by simp)⟩
   ·intro a w' hb ho hr
    obtain⟨u0,d0,h0⟩:=hr 0 _ _ rfl rfl rfl;replace h0:NR w' w1.heap.size u0 ([⟨#[102,111,114]⟩]):=h0;obtain⟨A0,q0,rfl⟩:=h0.sl;obtain⟨u3,d3,h3⟩:=hr 3 _ _ rfl rfl rfl;replace h3:NR w' w1.heap.size u3 (pNames x.names):=h3;obtain⟨A3,q3,rfl⟩:=h3.sl;obtain⟨u4,d4,h4⟩:=hr 4 _ _ rfl rfl rfl;replace h4:NR w' w1.heap.size u4 ([⟨#[105,110]⟩]):=h4;obtain⟨A4,q4,rfl⟩:=h4.sl;obtain⟨u11,d11,h11⟩:=hr 11 _ _ rfl rfl rfl;replace h11:NR w' w1.heap.size u11 (sList (pr m) ys):=h11;obtain⟨A11,q11,rfl⟩:=h11.sl;obtain⟨u12,d12,h12⟩:=hr 12 _ _ rfl rfl rfl;replace h12:NR w' w1.heap.size u12 ([⟨#[100,111]⟩]):=h12;obtain⟨A12,q12,rfl⟩:=h12.sl;obtain⟨u20,d20,h20⟩:=hr 20 _ _ rfl rfl rfl;replace h20:NR w' w1.heap.size u20 (pr m .b z):=h20;obtain⟨A20,q20,rfl⟩:=h20.sl;obtain⟨u21,d21,h21⟩:=hr 21 _ _ rfl rfl rfl;replace h21:NR w' w1.heap.size u21 ([⟨#[101,110,100]⟩]):=h21;obtain⟨A21,q21,rfl⟩:=h21.sl;go_simp;exact⟨_,rfl,bA (bR _ _) _,LR.lit (ps:=[(.slice A0 ([⟨#[102,111,114]⟩]).length q0,[⟨#[102,111,114]⟩]),(.slice A3 (pNames x.names).length q3,pNames x.names),(.slice A4 ([⟨#[105,110]⟩]).length q4,[⟨#[105,110]⟩]),(.slice A11 (sList (pr m) ys).length q11,sList (pr m) ys),(.slice A12 ([⟨#[100,111]⟩]).length q12,[⟨#[100,111]⟩]),(.slice A20 (pr m .b z).length q20,pr m .b z),(.slice A21 ([⟨#[101,110,100]⟩]).length q21,[⟨#[101,110,100]⟩])]) (hb.size) (LRs.cons h0 (LRs.cons h3 (LRs.cons h4 (LRs.cons h11 (LRs.cons h12 (LRs.cons h20 (LRs.cons h21 LRs.nil))))))) (by simp)⟩
   ·intro a w' hb ho hr
    obtain⟨u22,d22,h22⟩:=hr 22 _ _ rfl rfl rfl;replace h22:LR w' w1.heap.size u22 ([[⟨#[102,111,114]⟩],pNames x.names,[⟨#[105,110]⟩],sList (pr m) ys,[⟨#[100,111]⟩],pr m .b z,[⟨#[101,110,100]⟩]]):=h22;go_simp
    go_at_call 60
    refine(join_q h22 (by simp) (by simp;omega)).mono ?_;rintro e w8 ⟨u,rfl,hR,hB⟩;exact⟨_,rfl,hB,NR.lower hR (hb.size)⟩
   ·intro a w' hb ho hr
    obtain⟨u23,d23,h23⟩:=hr 23 _ _ rfl rfl rfl;replace h23:NR w' w1.heap.size u23 (pJ [[⟨#[102,111,114]⟩],pNames x.names,[⟨#[105,110]⟩],sList (pr m) ys,[⟨#[100,111]⟩],pr m .b z,[⟨#[101,110,100]⟩]]):=h23;obtain⟨A23,q23,rfl⟩:=h23.sl;go_simp;exact⟨_,rfl,bR _ _,h23⟩
  case fin=>
   intro a w' hb hd hs ho hr;obtain⟨u,du,hu⟩:=hr 24 _ _ rfl rfl;replace hu:NR w' w1.heap.size u (pJ [[⟨#[102,111,114]⟩],pNames x.names,[⟨#[105,110]⟩],sList (pr m) ys,[⟨#[100,111]⟩],pr m .b z,[⟨#[101,110,100]⟩]]):=hu;go_wp2_with fail;have e:pr (m+1) .s x=pJ [[⟨#[102,111,114]⟩],pNames x.names,[⟨#[105,110]⟩],sList (pr m) ys,[⟨#[100,111]⟩],pr m .b z,[⟨#[101,110,100]⟩]]:=by
    show sS (pr m) x=_
    simp[sS,pJ,kid,H1.out,HKY.out,HNN.out]
   refine⟨hd,u,by simp[results,Tryz.results28,du,go_sem],?_⟩;rw[e];exact⟨u,rfl,NR.lower hu HB.out.size,HB.out.trans (hb.mono HB.out.size)⟩
 | @lfn _ y h1 h2 hne hky0 k26 oy=>
  have H1:=aM h1;have HX0:=aM v0;rw[h1] at v0;clear h1;have hnl0:=List.length_pos_iff.2 hne;obtain⟨an,rfl,nm0⟩:=Kd.at_string HNK.out.names.2 0 (by omega) (by omega)
  have hnmq:x.names[0]?.getD ⟨#[]⟩=rdOf ByteArray.empty x.names 0:=by(cases hc:x.names with|nil=>exact absurd hc hne|cons a r=>rfl)
  simp only[Int.toNat_zero,Nat.zero_mul,Addr.add_zero'] at nm0;generalize rdOf ByteArray.empty x.names 0=nm at nm0 hnmq;have HNMQ:=aM hnmq;have hnl0I:(0:Int)<(x.names.length:Int):=by omega
  clear hnmq hne;have HKY:=aM hky0;have hwxx:=hwx;simp only[hky0,wts] at hwx;have hl2:1<=x.kids.length:=by rw[hky0];exact Nat.le_refl _
  have hl0:0<x.kids.length:=by omega
  have hl0I:(0:Int)<(x.kids.length:Int):=by omega
  have hly:=hlen .e y;obtain⟨ad,y',Bn,dn,Bk,dk,rfl,hy,_,x0,x1,x2,x3,x4,x5,x6,hky⟩:=kid_at HC.out (bR w1.heap.size w1) 0 (by omega);obtain rfl:y=y':=by rw[hky0] at hy;simpa using hy
  simp only[Nat.zero_mul,Addr.add_zero'] at x0 x1 x2 x3 x4 x5 x6;have HKy:=aM hky;have HWy:=aM (show y.wt<=m by omega);have Oy:=aM oy;clear hky0 hl2 hy hky oy;obtain⟨q,hq,oq⟩:∃q,y.kids=[q]/\Ok True .b q:=(by cases Oy.out with|atom g _=>omega|fn _ _ g1 g2=>exact⟨_,g1,g2⟩|ix g _ _ _ _=>omega|call g _ _ _ _=>omega|bin g _ _ _ _=>omega|un g _ _ _=>omega|tab g _ _=>omega);have HQ:=aM hq;have OQ:=aM oq;have HWY1:=aM (show y.wt<=m+1 by have:=HWy.out;omega);have hbl:=hBl y y.names;have hyn:y.names.length<=y.wt:=by have:=wt_eq y;omega
  clear hq oq k26;go_upto_region 26 with fail;refine wp_region_specs [.eq (.pointer (some ⟨w.heap.size,5,none⟩)),.eq (.slice (some an) x.names.length cn),.eq (.pointer (some an)),.eq (.string nm),.row ([⟨#[108,111,99,97,108]⟩,⟨#[102,117,110,99,116,105,111,110]⟩,nm]),.eq (.bool true),.eq (.pointer (some ⟨w.heap.size,6,none⟩)),.eq (.slice (some ad) x.kids.length ck),.eq (.pointer (some ad)),.eq (.agg #[.int .i64 y.k,.string y.s,.float .f64 y.x,.int .i64 y.n,.bool y.b,(.slice Bn y.names.length dn),(.slice Bk y.kids.length dk)]),.row (sBody (pr m) y y.names),.rows ([[⟨#[108,111,99,97,108]⟩,⟨#[102,117,110,99,116,105,111,110]⟩,nm],sBody (pr m) y y.names]),.row (pJ [[⟨#[108,111,99,97,108]⟩,⟨#[102,117,110,99,116,105,111,110]⟩,nm],sBody (pr m) y y.names]),.row (pJ [[⟨#[108,111,99,97,108]⟩,⟨#[102,117,110,99,116,105,111,110]⟩,nm],sBody (pr m) y y.names])] (w1.heap.size) (by rfl) (by kernel_rfl) ?steps ?fin
  case steps=>
   refine⟨?_,?_,?_,?_,?_,?_,?_,?_,?_,?_,?_,?_,?_,?_,trivial⟩
   ·intro a w' hb ho hr
    have t3:a.tmps[3]? = some (.pointer (some ⟨w.heap.size,0,none⟩)):=ho 3 rfl;go_simp;exact⟨_,rfl,bR _ _,rfl⟩
   ·intro a w' hb ho hr
    obtain⟨u0,d0,rfl⟩:=hr 0 _ _ rfl rfl rfl;have c0:=pB hb v5;go_simp;exact⟨_,rfl,bR _ _,rfl⟩
   ·intro a w' hb ho hr
    obtain⟨u1,d1,rfl⟩:=hr 1 _ _ rfl rfl rfl;go_simp;exact⟨_,rfl,bR _ _,rfl⟩
   ·intro a w' hb ho hr
    obtain⟨u2,d2,rfl⟩:=hr 2 _ _ rfl rfl rfl;have c0:=pB hb nm0;go_simp;exact⟨_,rfl,bR _ _,rfl⟩
   ·intro a w' hb ho hr
    obtain⟨u3,d3,rfl⟩:=hr 3 _ _ rfl rfl rfl;go_simp;exact⟨_,rfl,bA (bR _ _) _,NR.lits w' _ (hb.size) [⟨#[108,111,99,97,108]⟩,⟨#[102,117,110,99,116,105,111,110]⟩,nm] (by simp)⟩
   ·intro a w' hb ho hr
    have t0:a.tmps[0]? = some (.bool true):=ho 0 rfl;go_simp;exact⟨_,rfl,bR _ _,rfl⟩
   ·intro a w' hb ho hr
    have t3:a.tmps[3]? = some (.pointer (some ⟨w.heap.size,0,none⟩)):=ho 3 rfl;go_simp;exact⟨_,rfl,bR _ _,rfl⟩
   ·intro a w' hb ho hr
    obtain⟨u6,d6,rfl⟩:=hr 6 _ _ rfl rfl rfl;have c0:=pB hb v6;go_simp;exact⟨_,rfl,bR _ _,rfl⟩
   ·intro a w' hb ho hr
    obtain⟨u7,d7,rfl⟩:=hr 7 _ _ rfl rfl rfl;go_simp;exact⟨_,rfl,bR _ _,rfl⟩
   ·intro a w' hb ho hr
    obtain⟨u8,d8,rfl⟩:=hr 8 _ _ rfl rfl rfl;obtain⟨c0,c1,c2,c3,c4,c5,c6⟩:=pB7 hb x0 x1 x2 x3 x4 x5 x6;go_simp;exact⟨_,rfl,bR _ _,rfl⟩
   ·intro a w' hb ho hr
    obtain⟨u5,d5,rfl⟩:=hr 5 _ _ rfl rfl rfl;obtain⟨u9,d9,rfl⟩:=hr 9 _ _ rfl rfl rfl;go_simp
    go_at_call 67
    refine(HBo.out y q HQ.out OQ.out HWY1.out w' Bn dn Bk dk (HKy.out.below hb)).mono ?_;rintro e w8 ⟨u,rfl,hR,hB⟩;exact⟨_,rfl,hB,NR.lower hR (hb.size)⟩
   ·intro a w' hb ho hr
    obtain⟨u4,d4,h4⟩:=hr 4 _ _ rfl rfl rfl;replace h4:NR w' w1.heap.size u4 ([⟨#[108,111,99,97,108]⟩,⟨#[102,117,110,99,116,105,111,110]⟩,nm]):=h4;obtain⟨A4,q4,rfl⟩:=h4.sl;obtain⟨u10,d10,h10⟩:=hr 10 _ _ rfl rfl rfl;replace h10:NR w' w1.heap.size u10 (sBody (pr m) y y.names):=h10;obtain⟨A10,q10,rfl⟩:=h10.sl;go_simp;exact⟨_,rfl,bA (bR _ _) _,LR.lit (ps:=[(.slice A4 ([⟨#[108,111,99,97,108]⟩,⟨#[102,117,110,99,116,105,111,110]⟩,nm]).length q4,[⟨#[108,111,99,97,108]⟩,⟨#[102,117,110,99,116,105,111,110]⟩,nm]),(.slice A10 (sBody (pr m) y y.names).length q10,sBody (pr m) y y.names)]) (hb.size) (LRs.cons h4 (LRs.cons h10 LRs.nil)) (by simp)⟩
   ·intro a w' hb ho hr
    obtain⟨u11,d11,h11⟩:=hr 11 _ _ rfl rfl rfl;replace h11:LR w' w1.heap.size u11 ([[⟨#[108,111,99,97,108]⟩,⟨#[102,117,110,99,116,105,111,110]⟩,nm],sBody (pr m) y y.names]):=h11;go_simp
    go_at_call 60
    refine(join_q h11 (by simp) (by simp;omega)).mono ?_;rintro e w8 ⟨u,rfl,hR,hB⟩;exact⟨_,rfl,hB,NR.lower hR (hb.size)⟩
   ·intro a w' hb ho hr
    obtain⟨u12,d12,h12⟩:=hr 12 _ _ rfl rfl rfl;replace h12:NR w' w1.heap.size u12 (pJ [[⟨#[108,111,99,97,108]⟩,⟨#[102,117,110,99,116,105,111,110]⟩,nm],sBody (pr m) y y.names]):=h12;obtain⟨A12,q12,rfl⟩:=h12.sl;go_simp;exact⟨_,rfl,bR _ _,h12⟩
  case fin=>
   intro a w' hb hd hs ho hr;obtain⟨u,du,hu⟩:=hr 13 _ _ rfl rfl;replace hu:NR w' w1.heap.size u (pJ [[⟨#[108,111,99,97,108]⟩,⟨#[102,117,110,99,116,105,111,110]⟩,nm],sBody (pr m) y y.names]):=hu;go_wp2_with fail;have e:pr (m+1) .s x=pJ [[⟨#[108,111,99,97,108]⟩,⟨#[102,117,110,99,116,105,111,110]⟩,nm],sBody (pr m) y y.names]:=by
    show sS (pr m) x=_
    simp[sS,pJ,kid,H1.out,HKY.out,HNMQ.out]
   refine⟨hd,u,by simp[results,Tryz.results28,du,go_sem],?_⟩;rw[e];exact⟨u,rfl,NR.lower hu HB.out.size,HB.out.trans (hb.mono HB.out.size)⟩
 |ret h1 h2 h3=>
  have H1:=aM h1;have HX0:=aM v0;rw[h1] at v0;clear h1;have HO:=aM h3;have HWL:=aM (show wts x.kids<=m by omega);have hll:=hLl x.kids;clear h3;go_upto_region 28 with fail;refine wp_region_specs_seq [.row ([⟨#[114,101,116,117,114,110]⟩]),.eq (.bool true),.eq (.pointer (some ⟨w.heap.size,6,none⟩)),.eq (.slice Ak x.kids.length ck),.row (sList (pr m) x.kids),.rows ([[⟨#[114,101,116,117,114,110]⟩],sList (pr m) x.kids]),.row (pJ [[⟨#[114,101,116,117,114,110]⟩],sList (pr m) x.kids]),.row (pJ [[⟨#[114,101,116,117,114,110]⟩],sList (pr m) x.kids])] (w1.heap.size) (by kernel_rfl) ?steps ?fin
  case steps=>
   refine⟨?_,?_,?_,?_,?_,?_,?_,?_,trivial⟩
   ·intro a w' hb ho hr
    go_simp;exact⟨_,rfl,bA (bR _ _) _,NR.lits w' _ (hb.size) [⟨#[114,101,116,117,114,110]⟩] (by simp)⟩
   ·intro a w' hb ho hr
    have t0:a.tmps[0]? = some (.bool true):=ho 0 rfl;go_simp;exact⟨_,rfl,bR _ _,rfl⟩
   ·intro a w' hb ho hr
    have t3:a.tmps[3]? = some (.pointer (some ⟨w.heap.size,0,none⟩)):=ho 3 rfl;go_simp;exact⟨_,rfl,bR _ _,rfl⟩
   ·intro a w' hb ho hr
    obtain⟨u2,d2,rfl⟩:=hr 2 _ _ rfl rfl rfl;have c0:=pB hb v6;go_simp;exact⟨_,rfl,bR _ _,rfl⟩
   ·intro a w' hb ho hr
    obtain⟨u1,d1,rfl⟩:=hr 1 _ _ rfl rfl rfl;obtain⟨u3,d3,rfl⟩:=hr 3 _ _ rfl rfl rfl;go_simp
    go_at_call 62
    refine(HL.out x.kids HWL.out HO.out w' Ak ck hcap (Kd.C_below HC.out hb)).mono ?_;rintro e w8 ⟨u,rfl,hR,hB⟩;exact⟨_,rfl,hB,NR.lower hR (hb.size)⟩
   ·intro a w' hb ho hr
    obtain⟨u0,d0,h0⟩:=hr 0 _ _ rfl rfl rfl;replace h0:NR w' w1.heap.size u0 ([⟨#[114,101,116,117,114,110]⟩]):=h0;obtain⟨A0,q0,rfl⟩:=h0.sl;obtain⟨u4,d4,h4⟩:=hr 4 _ _ rfl rfl rfl;replace h4:NR w' w1.heap.size u4 (sList (pr m) x.kids):=h4;obtain⟨A4,q4,rfl⟩:=h4.sl;go_simp;exact⟨_,rfl,bA (bR _ _) _,LR.lit (ps:=[(.slice A0 ([⟨#[114,101,116,117,114,110]⟩]).length q0,[⟨#[114,101,116,117,114,110]⟩]),(.slice A4 (sList (pr m) x.kids).length q4,sList (pr m) x.kids)]) (hb.size) (LRs.cons h0 (LRs.cons h4 LRs.nil)) (by simp)⟩
   ·intro a w' hb ho hr
    obtain⟨u5,d5,h5⟩:=hr 5 _ _ rfl rfl rfl;replace h5:LR w' w1.heap.size u5 ([[⟨#[114,101,116,117,114,110]⟩],sList (pr m) x.kids]):=h5;go_simp
    go_at_call 60
    refine(join_q h5 (by simp) (by simp;omega)).mono ?_;rintro e w8 ⟨u,rfl,hR,hB⟩;exact⟨_,rfl,hB,NR.lower hR (hb.size)⟩
   ·intro a w' hb ho hr
    obtain⟨u6,d6,h6⟩:=hr 6 _ _ rfl rfl rfl;replace h6:NR w' w1.heap.size u6 (pJ [[⟨#[114,101,116,117,114,110]⟩],sList (pr m) x.kids]):=h6;obtain⟨A6,q6,rfl⟩:=h6.sl;go_simp;exact⟨_,rfl,bR _ _,h6⟩
  case fin=>
   intro a w' hb hd hs ho hr;obtain⟨u,du,hu⟩:=hr 7 _ _ rfl rfl;replace hu:NR w' w1.heap.size u (pJ [[⟨#[114,101,116,117,114,110]⟩],sList (pr m) x.kids]):=hu;go_wp2_with fail;have e:pr (m+1) .s x=pJ [[⟨#[114,101,116,117,114,110]⟩],sList (pr m) x.kids]:=by
    show sS (pr m) x=_
    simp[sS,pJ,kid,H1.out]
   refine⟨hd,u,by simp[results,Tryz.results28,du,go_sem],?_⟩;rw[e];exact⟨u,rfl,NR.lower hu HB.out.size,HB.out.trans (hb.mono HB.out.size)⟩
 |brk h1 h2=>
  have H1:=aM h1;have HX0:=aM v0;rw[h1] at v0;clear h1;go_upto_region 29 with fail;refine wp_region_specs_seq [.row ([⟨#[98,114,101,97,107]⟩]),.row ([⟨#[98,114,101,97,107]⟩])] (w1.heap.size) (by kernel_rfl) ?steps ?fin
  case steps=>
   refine⟨?_,?_,trivial⟩
   ·intro a w' hb ho hr
    go_simp;exact⟨_,rfl,bA (bR _ _) _,NR.lits w' _ (hb.size) [⟨#[98,114,101,97,107]⟩] (by simp)⟩
   ·intro a w' hb ho hr
    obtain⟨u0,d0,h0⟩:=hr 0 _ _ rfl rfl rfl;replace h0:NR w' w1.heap.size u0 ([⟨#[98,114,101,97,107]⟩]):=h0;obtain⟨A0,q0,rfl⟩:=h0.sl;go_simp;exact⟨_,rfl,bR _ _,h0⟩
  case fin=>
   intro a w' hb hd hs ho hr;obtain⟨u,du,hu⟩:=hr 1 _ _ rfl rfl;replace hu:NR w' w1.heap.size u ([⟨#[98,114,101,97,107]⟩]):=hu;go_wp2_with fail;have e:pr (m+1) .s x=[⟨#[98,114,101,97,107]⟩]:=by
    show sS (pr m) x=_
    simp[sS,pJ,kid,H1.out]
   refine⟨hd,u,by simp[results,Tryz.results28,du,go_sem],?_⟩;rw[e];exact⟨u,rfl,NR.lower hu HB.out.size,HB.out.trans (hb.mono HB.out.size)⟩
theorem pairs_drop(R:Srt->Nd->List ByteArray)(l:List Nd)(i:Nat)(wd:ByteArray)(c b:Nd)(hc:l[i]? = some c)(hb:l[i+1]? = some b):sPairs R wd (l.drop i)=pJ [[wd],R .e c,[⟨#[116,104,101,110]⟩],R .b b]++sPairs R ⟨#[101,108,115,101,105,102]⟩ (l.drop (i+2)):=by
 have h1:i<l.length:=(List.getElem?_eq_some_iff.1 hc).1;have h2:i+1<l.length:=(List.getElem?_eq_some_iff.1 hb).1;rw[List.getElem?_eq_getElem h1] at hc;rw[List.getElem?_eq_getElem h2] at hb;rw[List.drop_eq_getElem_cons h1,List.drop_eq_getElem_cons h2,Option.some.inj hc,Option.some.inj hb]
 rfl
set_option maxRecDepth 10000 in
set_option maxHeartbeats 8000000 in
theorem branch_pr(m:Nat)(hm:m<=6010)(hP:PA m)(hlen:∀s x,(pr m s x).length<=10*x.wt)(hSl:∀wd l,(sPairs (pr m) wd l).length<=20*wts l):BRC m:=by
 intro x hx hO w An cn Ak ck hk;have HP:=aM hP;have HO:=aM hO;have HLN:=aM hlen;have HC:=aM hk.kids.2;have hcap:=hk.kids.1;have hwx:=wt_eq x;have HWL:=aM (show wts x.kids<=m by omega);have hll:x.kids.length<=6010:=by have:=wts_len x.kids;omega
 have HSL:=aM (show(sPairs (pr m) ⟨#[105,102]⟩ x.kids).length<=200000 by have:=hSl ⟨#[105,102]⟩ x.kids;have:=HWL.out;omega);have HV:=aM ((Vb.new w #[.int .i64 x.k,.string x.s,.float .f64 x.x,.int .i64 x.n,.bool x.b,(.slice An x.names.length cn),(.slice Ak x.kids.length ck)]).alloc (.cells #[] 9));have HT:=aM (show Tw2 w ((w.alloc (.cells #[.int .i64 x.k,.string x.s,.float .f64 x.x,.int .i64 x.n,.bool x.b,(.slice An x.names.length cn),(.slice Ak x.kids.length ck)] 27)).alloc (.cells #[] 9)) (.slice (some ⟨w.heap.size+1,0,none⟩) 0 0) [] from⟨bA (bA (bR _ _) _) _,by have:=NR.lit0 (w.alloc (.cells #[.int .i64 x.k,.string x.s,.float .f64 x.x,.int .i64 x.n,.bool x.b,(.slice An x.names.length cn),(.slice Ak x.kids.length ck)] 27)) w.heap.size (by simp);simpa using this⟩);clear hP hO hlen hk hx hwx hSl;go_enter Tryz.func66,Tryz.ntmps66
 go_upto_block 0 with fail
 generalize (w.alloc (.cells #[.int .i64 x.k,.string x.s,.float .f64 x.x,.int .i64 x.n,.bool x.b,(.slice An x.names.length cn),(.slice Ak x.kids.length ck)] 27)).alloc _=w1 at HT HV|-;go_wp2_with fail;go_loopg [5,6,7] x.kids.length (fun k v5 v6 v7 wr=>∃(i:Nat) (AL:Option Addr) (cL nL:Nat) (wd:ByteArray) (LI:List ByteArray),v5 = .slice AL nL cL/\v6 = .string wd/\v7 = .int .i64 (i:Int)/\k=x.kids.length-i/\i<=x.kids.length/\i%2=0/\Aside0 (nL=LI.length)/\Aside0 (sPairs (pr m) ⟨#[105,102]⟩ x.kids=LI++sPairs (pr m) wd (x.kids.drop i))/\Aside0 (Tw2 w wr (.slice AL nL cL) LI)/\Aside0 (Vb wr w.heap.size #[.int .i64 x.k,.string x.s,.float .f64 x.x,.int .i64 x.n,.bool x.b,(.slice An x.names.length cn),(.slice Ak x.kids.length ck)]))
 case atStart=>exact⟨0,_,_,_,_,[],rfl,rfl,rfl,rfl,Nat.zero_le _,rfl,⟨rfl⟩,⟨by simp⟩,HT,HV⟩
 case round=>
  clear HT HV;obtain⟨i,AL,cL,nL,wd,LI,rfl,rfl,rfl,hk,hi,hev,HNL,HEQ,HT,HV⟩:=hrel;have HLL:=aM (show LI.length<=200000 by have:=HSL.out;rw[HEQ.out,List.length_append] at this;omega);have q1:IntKind.i64.wrap ((i:Int)+1)=((i+1:Nat):Int):=by rw[IntWalk.i64_in _ (by omega)];omega
  have q2:IntKind.i64.wrap ((i:Int)+2)=((i+2:Nat):Int):=by rw[IntWalk.i64_in _ (by omega)];omega
  have v6:=bC HV.out 6
  by_cases hlt:i+1<x.kids.length
  case neg=>
   have hltI:¬(((i+1:Nat):Int)<(x.kids.length:Int)):=by omega
   have hLL:=HLL.out
   by_cases hln:x.kids.length=i
   case pos=>
    have hmod:Int.tmod (x.kids.length:Int) 2=0:=by rw[Int.tmod_eq_emod_of_nonneg (by omega)];omega
    have HE:=aM (show sBranch (pr m) x=LI++[⟨#[101,110,100]⟩] by
     unfold sBranch;rw[HEQ.out,List.drop_of_length_le (by omega)];simp[sPairs])
    clear hln;go_wp2_with (at_builtin;refine Tw2.push rfl (.tmp 57) (.tmp 58) (by rfl) (by rfl) (by rfl) HT.out (by rfl) ⟨#[101,110,100]⟩ (by omega) ?_;intro A9 c9 w9 h9 v9;have H9:=aM h9;clear h9 v9)
    go_ret;rw[HE.out];exact H9.out.out
   case neg=>
    have hl1:x.kids.length=i+1:=by omega
    have hmod:Int.tmod (x.kids.length:Int) 2=1:=by rw[Int.tmod_eq_emod_of_nonneg (by omega)];omega
    have hm1:IntKind.i64.wrap ((x.kids.length:Int)-1)=(i:Int):=by rw[IntWalk.i64_in _ (by omega)];omega
    have hlI:(i:Int)<(x.kids.length:Int):=by omega
    have h0I:(0:Int)<=(i:Int):=by omega
    have ei:((i:Nat):Int).toNat=i:=by omega
    obtain⟨ad,q,Qn,qn,Qk,qk,rfl,hq,hqm,p0,p1,p2,p3,p4,p5,p6,hkq⟩:=kid_at HC.out (bR w.heap.size w) i (by omega);have HT0:=aM (HT.out.alloc (.cells #[.string ⟨#[101,108,115,101]⟩] 9));have HNE:=aM (NR.lits wr w.heap.size HT.out.b.size [(⟨#[101,108,115,101]⟩:ByteArray)] (by simp));replace p0:=pB HT0.out.b p0;replace p1:=pB HT0.out.b p1;replace p2:=pB HT0.out.b p2;replace p3:=pB HT0.out.b p3;replace p4:=pB HT0.out.b p4;replace p5:=pB HT0.out.b p5;replace p6:=pB HT0.out.b p6;have a6:=bC (blk_alloc HV.out (.cells #[.string ⟨#[101,108,115,101]⟩] 9)) 6;have HKq:=aM (hkq.below HT0.out.b);have HOq:=aM (show Ok True .b q by have:=HO.out i q hq;rwa[if_neg (by omega)] at this);have HWq:=aM (show q.wt<=m by have:=wts_mem hqm;have:=HWL.out;omega);have hpl2:=HLN.out .b q;have hwq:=HWq.out;have HE:=aM (show sBranch (pr m) x=pJ [LI,[⟨#[101,108,115,101]⟩],pr m .b q]++[⟨#[101,110,100]⟩] by
     unfold sBranch;rw[HEQ.out];have h1:i<x.kids.length:=by omega
     rw[List.getElem?_eq_getElem h1] at hq;rw[List.drop_eq_getElem_cons h1,Option.some.inj hq,List.drop_of_length_le (by omega)];simp[sPairs,pJ])
    clear hln hl1 hq hqm hkq;go_wp2_with fail;refine(HP.out.b q HWq.out HOq.out _ Qn qn Qk qk HKq.out).mono ?_;rintro e w4 ⟨u,rfl,hR,hb⟩;obtain⟨A2,c2,rfl⟩:=hR.sl;have HN3:=aM (HNE.out.below hb);have HT3:=aM (HT0.out.below hb);have HR4:=aM (hR.lower (b':=w.heap.size) HT0.out.b.size);clear hR hb HNE HT0 a6 v6 p0 p1 p2 p3 p4 p5 p6;obtain⟨SL,hSL⟩:∃l,pr m .b q=l:=⟨_,rfl⟩;rw[hSL] at HR4 HE hpl2|-;clear hSL;have hnl:=HNL.out;subst hnl;go_wp2_with fail;refine(join_q (LR.lit (ps:=[(.slice AL LI.length cL,LI),(.slice (some ⟨wr.heap.size,0,none⟩) 1 1,[⟨#[101,108,115,101]⟩]),(.slice A2 SL.length c2,SL)]) HT3.out.b.size (LRs.cons HT3.out.r (LRs.cons HN3.out (LRs.cons HR4.out LRs.nil))) (by simp)) (by simp) (by simp;omega)).mono ?_;rintro e w5 ⟨u,rfl,hR,hb⟩;obtain⟨LJ,hLJ⟩:∃L,pJ [LI,[⟨#[101,108,115,101]⟩],SL]=L:=⟨_,rfl⟩;rw[show(List.map Prod.snd [((.slice AL LI.length cL:Value),LI),(.slice (some ⟨wr.heap.size,0,none⟩) 1 1,[(⟨#[101,108,115,101]⟩:ByteArray)]),(.slice A2 SL.length c2,SL)]).flatten=LJ from hLJ] at hR;have hjl:LJ.length<=300000:=by rw[<-hLJ];simp[pJ];omega
    rw[hLJ] at HE;obtain⟨A7,c7,rfl⟩:=hR.sl;have HB5:=aM (bA HT3.out.b (.cells #[.slice AL LI.length cL,.slice (some ⟨wr.heap.size,0,none⟩) 1 1,.slice A2 SL.length c2] 24));have HT5:=aM (show Tw2 w w5 (.slice A7 LJ.length c7) LJ from⟨HB5.out.trans (hb.mono HB5.out.size),hR.lower HB5.out.size⟩);clear hR hb hLJ;go_wp2_with (at_builtin;refine Tw2.push rfl (.tmp 57) (.tmp 58) (by rfl) (by rfl) (by rfl) HT5.out (by rfl) ⟨#[101,110,100]⟩ (by omega) ?_;intro A9 c9 w9 h9 v9;have H9:=aM h9;clear h9 v9)
    go_ret;rw[HE.out];exact H9.out.out
  case pos=>
   have hltI:((i+1:Nat):Int)<(x.kids.length:Int):=by omega
   have hlI:(i:Int)<(x.kids.length:Int):=by omega
   have h0I:(0:Int)<=(i:Int):=by omega
   have h1I:(0:Int)<=((i+1:Nat):Int):=by omega
   have ei:((i:Nat):Int).toNat=i:=by omega
   have ei1:((i+1:Nat):Int).toNat=i+1:=by omega
   obtain⟨ad,p,Pn,pn,Pk,pk,rfl,hp,hpm,p0,p1,p2,p3,p4,p5,p6,hkp⟩:=kid_at HC.out (bR w.heap.size w) i (by omega);obtain⟨ad',q,Qn,qn,Qk,qk,had,hq,hqm,q0,q1',q2',q3,q4,q5,q6,hkq⟩:=kid_at HC.out (bR w.heap.size w) (i+1) (by omega);cases had
   replace p0:=pB HT.out.b p0;replace p1:=pB HT.out.b p1;replace p2:=pB HT.out.b p2;replace p3:=pB HT.out.b p3;replace p4:=pB HT.out.b p4;replace p5:=pB HT.out.b p5;replace p6:=pB HT.out.b p6;replace q0:=pB HT.out.b q0;replace q1':=pB HT.out.b q1';replace q2':=pB HT.out.b q2';replace q3:=pB HT.out.b q3;replace q4:=pB HT.out.b q4;replace q5:=pB HT.out.b q5;replace q6:=pB HT.out.b q6;have HKp:=aM (hkp.below HT.out.b);have HKq:=aM (hkq.below HT.out.b);have HOp:=aM (show Ok True .e p by have:=HO.out i p hp;rwa[if_pos ⟨hev,hlt⟩] at this);have HOq:=aM (show Ok True .b q by have:=HO.out (i+1) q hq;rwa[if_neg (by omega)] at this);have HWp:=aM (show p.wt<=m by have:=wts_mem hpm;have:=HWL.out;omega);have HWq:=aM (show q.wt<=m by have:=wts_mem hqm;have:=HWL.out;omega);have HST:=aM (pairs_drop (pr m) x.kids i wd p q hp hq);have hpl1:=HLN.out .e p;have hpl2:=HLN.out .b q;have hwp:=HWp.out;have hwq:=HWq.out;have hLL:=HLL.out;replace v6:wr.cell? ⟨w.heap.size,6,none⟩=some (.slice (some ad) x.kids.length ck):=v6;clear hp hq hpm hqm hkp hkq;go_upto_region 5 with fail;refine wp_region_specs [.row (LI),.eq (.string wd),.row ([wd]),.eq (.bool true),.eq (.pointer (some ⟨w.heap.size,6,none⟩)),.eq (.slice (some ad) x.kids.length ck),.eq (.int .i64 (i:Int)),.eq (.pointer (some (ad.add (i*7)))),.eq (.agg #[.int .i64 p.k,.string p.s,.float .f64 p.x,.int .i64 p.n,.bool p.b,(.slice Pn p.names.length pn),(.slice Pk p.kids.length pk)]),.row (pr m .e p),.row ([⟨#[116,104,101,110]⟩]),.eq (.bool true),.eq (.pointer (some ⟨w.heap.size,6,none⟩)),.eq (.slice (some ad) x.kids.length ck),.eq (.int .i64 (i:Int)),.eq (.int .i64 ((i+1:Nat):Int)),.eq (.pointer (some (ad.add ((i+1)*7)))),.eq (.agg #[.int .i64 q.k,.string q.s,.float .f64 q.x,.int .i64 q.n,.bool q.b,(.slice Qn q.names.length qn),(.slice Qk q.kids.length qk)]),.row (pr m .b q),.rows ([LI,[wd],pr m .e p,[⟨#[116,104,101,110]⟩],pr m .b q]),.row (pJ [LI,[wd],pr m .e p,[⟨#[116,104,101,110]⟩],pr m .b q]),.row (pJ [LI,[wd],pr m .e p,[⟨#[116,104,101,110]⟩],pr m .b q])] (w.heap.size) (by rfl) (by kernel_rfl) ?steps ?fin
   case steps=>
    refine⟨?_,?_,?_,?_,?_,?_,?_,?_,?_,?_,?_,?_,?_,?_,?_,?_,?_,?_,?_,?_,?_,?_,trivial⟩
    ·intro a w' hb ho hr
     have t5:a.tmps[5]? = some (.slice AL nL cL):=ho 5 rfl;go_simp;exact⟨_,rfl,bR _ _,(HT.out.r.below hb)⟩
    ·intro a w' hb ho hr
     have t6:a.tmps[6]? = some (.string wd):=ho 6 rfl;go_simp;exact⟨_,rfl,bR _ _,rfl⟩
    ·intro a w' hb ho hr
     obtain⟨u1,d1,rfl⟩:=hr 1 _ _ rfl rfl rfl;go_simp;exact⟨_,rfl,bA (bR _ _) _,NR.lits w' _ (Nat.le_trans HT.out.b.size hb.size) [wd] (by simp)⟩
    ·intro a w' hb ho hr
     have t0:a.tmps[0]? = some (.bool true):=ho 0 rfl;go_simp;exact⟨_,rfl,bR _ _,rfl⟩
    ·intro a w' hb ho hr
     have t3:a.tmps[3]? = some (.pointer (some ⟨w.heap.size,0,none⟩)):=ho 3 rfl;go_simp;exact⟨_,rfl,bR _ _,rfl⟩
    ·intro a w' hb ho hr
     obtain⟨u4,d4,rfl⟩:=hr 4 _ _ rfl rfl rfl;have c0:=pB hb v6;go_simp;exact⟨_,rfl,bR _ _,rfl⟩
    ·intro a w' hb ho hr
     have t7:a.tmps[7]? = some (.int .i64 (i:Int)):=ho 7 rfl;go_simp;exact⟨_,rfl,bR _ _,rfl⟩
    ·intro a w' hb ho hr
     obtain⟨u5,d5,rfl⟩:=hr 5 _ _ rfl rfl rfl;obtain⟨u6,d6,rfl⟩:=hr 6 _ _ rfl rfl rfl;go_simp;exact⟨_,rfl,bR _ _,rfl⟩
    ·intro a w' hb ho hr
     obtain⟨u7,d7,rfl⟩:=hr 7 _ _ rfl rfl rfl;obtain⟨c0,c1,c2,c3,c4,c5,c6⟩:=pB7 hb p0 p1 p2 p3 p4 p5 p6;go_simp;exact⟨_,rfl,bR _ _,rfl⟩
    ·intro a w' hb ho hr
     obtain⟨u3,d3,rfl⟩:=hr 3 _ _ rfl rfl rfl;obtain⟨u8,d8,rfl⟩:=hr 8 _ _ rfl rfl rfl;go_simp
     go_at_call 65
     refine(HP.out.e p HWp.out HOp.out w' Pn pn Pk pk (HKp.out.below hb)).mono ?_;rintro e w8 ⟨u,rfl,hR,hB⟩;exact⟨_,rfl,hB,NR.lower hR (Nat.le_trans HT.out.b.size hb.size)⟩
    ·intro a w' hb ho hr
     go_simp;exact⟨_,rfl,bA (bR _ _) _,NR.lits w' _ (Nat.le_trans HT.out.b.size hb.size) [⟨#[116,104,101,110]⟩] (by simp)⟩
    ·intro a w' hb ho hr
     have t0:a.tmps[0]? = some (.bool true):=ho 0 rfl;go_simp;exact⟨_,rfl,bR _ _,rfl⟩
    ·intro a w' hb ho hr
     have t3:a.tmps[3]? = some (.pointer (some ⟨w.heap.size,0,none⟩)):=ho 3 rfl;go_simp;exact⟨_,rfl,bR _ _,rfl⟩
    ·intro a w' hb ho hr
     obtain⟨u12,d12,rfl⟩:=hr 12 _ _ rfl rfl rfl;have c0:=pB hb v6;go_simp;exact⟨_,rfl,bR _ _,rfl⟩
    ·intro a w' hb ho hr
     have t7:a.tmps[7]? = some (.int .i64 (i:Int)):=ho 7 rfl;go_simp;exact⟨_,rfl,bR _ _,rfl⟩
    ·intro a w' hb ho hr
     obtain⟨u14,d14,rfl⟩:=hr 14 _ _ rfl rfl rfl;go_simp;exact⟨_,rfl,bR _ _,by show Value.int .i64 _=Value.int .i64 _;first|rfl|simp[q1]⟩
    ·intro a w' hb ho hr
     obtain⟨u13,d13,rfl⟩:=hr 13 _ _ rfl rfl rfl;obtain⟨u15,d15,rfl⟩:=hr 15 _ _ rfl rfl rfl;go_simp;exact⟨_,rfl,bR _ _,rfl⟩
    ·intro a w' hb ho hr
     obtain⟨u16,d16,rfl⟩:=hr 16 _ _ rfl rfl rfl;have c0:=pB hb q0;have c1:=pB hb q1';have c2:=pB hb q2';obtain⟨c3,c4,c5,c6⟩:=pB4 hb q3 q4 q5 q6;go_simp;exact⟨_,rfl,bR _ _,rfl⟩
    ·intro a w' hb ho hr
     obtain⟨u11,d11,rfl⟩:=hr 11 _ _ rfl rfl rfl;obtain⟨u17,d17,rfl⟩:=hr 17 _ _ rfl rfl rfl;go_simp
     go_at_call 13
     refine(HP.out.b q HWq.out HOq.out w' Qn qn Qk qk (HKq.out.below hb)).mono ?_;rintro e w8 ⟨u,rfl,hR,hB⟩;exact⟨_,rfl,hB,NR.lower hR (Nat.le_trans HT.out.b.size hb.size)⟩
    ·intro a w' hb ho hr
     obtain⟨u0,d0,h0⟩:=hr 0 _ _ rfl rfl rfl;replace h0:NR w' w.heap.size u0 (LI):=h0;obtain⟨A0,q0,rfl⟩:=h0.sl;obtain⟨u2,d2,h2⟩:=hr 2 _ _ rfl rfl rfl;replace h2:NR w' w.heap.size u2 ([wd]):=h2;obtain⟨A2,q2,rfl⟩:=h2.sl;obtain⟨u9,d9,h9⟩:=hr 9 _ _ rfl rfl rfl;replace h9:NR w' w.heap.size u9 (pr m .e p):=h9;obtain⟨A9,q9,rfl⟩:=h9.sl;obtain⟨u10,d10,h10⟩:=hr 10 _ _ rfl rfl rfl;replace h10:NR w' w.heap.size u10 ([⟨#[116,104,101,110]⟩]):=h10;obtain⟨A10,q10,rfl⟩:=h10.sl;obtain⟨u18,d18,h18⟩:=hr 18 _ _ rfl rfl rfl;replace h18:NR w' w.heap.size u18 (pr m .b q):=h18;obtain⟨A18,q18,rfl⟩:=h18.sl;go_simp;exact⟨_,rfl,bA (bR _ _) _,LR.lit (ps:=[(.slice A0 (LI).length q0,LI),(.slice A2 ([wd]).length q2,[wd]),(.slice A9 (pr m .e p).length q9,pr m .e p),(.slice A10 ([⟨#[116,104,101,110]⟩]).length q10,[⟨#[116,104,101,110]⟩]),(.slice A18 (pr m .b q).length q18,pr m .b q)]) (Nat.le_trans HT.out.b.size hb.size) (LRs.cons h0 (LRs.cons h2 (LRs.cons h9 (LRs.cons h10 (LRs.cons h18 LRs.nil))))) (by simp)⟩
    ·intro a w' hb ho hr
     obtain⟨u19,d19,h19⟩:=hr 19 _ _ rfl rfl rfl;replace h19:LR w' w.heap.size u19 ([LI,[wd],pr m .e p,[⟨#[116,104,101,110]⟩],pr m .b q]):=h19;go_simp
     go_at_call 60
     refine(join_q h19 (by simp) (by simp;omega)).mono ?_;rintro e w8 ⟨u,rfl,hR,hB⟩;exact⟨_,rfl,hB,NR.lower hR (Nat.le_trans HT.out.b.size hb.size)⟩
    ·intro a w' hb ho hr
     obtain⟨u20,d20,h20⟩:=hr 20 _ _ rfl rfl rfl;replace h20:NR w' w.heap.size u20 (pJ [LI,[wd],pr m .e p,[⟨#[116,104,101,110]⟩],pr m .b q]):=h20;obtain⟨A20,q20,rfl⟩:=h20.sl;go_simp;exact⟨_,rfl,bR _ _,h20⟩
   case fin=>
    intro a w' hb hd hs ho hr;obtain⟨vs,hvl,hvs,rfl⟩:=act_of hd hs ho hr (by rfl);obtain⟨u0,u1,u2,u3,u4,u5,u6,u7,u8,u9,u10,u11,u12,u13,u14,u15,u16,u17,u18,u19,u20,u21,rfl⟩:∃u0 u1 u2 u3 u4 u5 u6 u7 u8 u9 u10 u11 u12 u13 u14 u15 u16 u17 u18 u19 u20 u21,vs=[u0,u1,u2,u3,u4,u5,u6,u7,u8,u9,u10,u11,u12,u13,u14,u15,u16,u17,u18,u19,u20,u21]:=⟨_,_,_,_,_,_,_,_,_,_,_,_,_,_,_,_,_,_,_,_,_,_,list_of 22 vs hvl⟩;have hu:NR w' w.heap.size u21 (pJ [LI,[wd],pr m .e p,[⟨#[116,104,101,110]⟩],pr m .b q]):=hvs 21 (by decide);obtain⟨A9,c9,rfl⟩:=hu.sl;have H9:=aM (show Tw2 w w' (.slice A9 (pJ [LI,[wd],pr m .e p,[⟨#[116,104,101,110]⟩],pr m .b q]).length c9) (pJ [LI,[wd],pr m .e p,[⟨#[116,104,101,110]⟩],pr m .b q]) from⟨HT.out.b.trans (hb.mono HT.out.b.size),hu⟩);have HV9:=aM (HV.out.below hb);obtain⟨LN,hLN⟩:∃L,pJ [LI,[wd],pr m .e p,[⟨#[116,104,101,110]⟩],pr m .b q]=L:=⟨_,rfl⟩;have HEQ9:=aM (show sPairs (pr m) ⟨#[105,102]⟩ x.kids=LN++sPairs (pr m) ⟨#[101,108,115,101,105,102]⟩ (x.kids.drop (i+2)) from by rw[HEQ.out,HST.out,<-hLN];simp[pJ]);rw[hLN] at H9|-;clear hvs hvl hs ho hr hd hu hLN hb;simp only[putl];go_simp;go_wp2_with fail;go_roundg (x.kids.length-(i+2))
    case measure=>omega
    case rel=>exact⟨i+2,A9,c9,_,_,LN,rfl,rfl,by first|rfl|simp[q2],rfl,by omega,by omega,⟨rfl⟩,HEQ9,H9,HV9⟩
end Go.Proofs.YtoimaaonloibfaaGreatDoor.Pa
namespace Go.Proofs.YtoimaaonloibfaaGreatDoor.Pa
open Go.RowKit W1 Wf
structure Few2(R:Srt->Nd->List ByteArray):Prop where
 le:∀s y,(R s y).length+2<=10*y.wt
 z:∀s,(R s zNd).length<=2
section
variable {R:Srt->Nd->List ByteArray}
theorem Few2.flat(h:Few2 R)(s:Srt):∀l:List Nd,(l.map (R s)).flatten.length+2*l.length<=10*wts l
 |[]=>by simp[wts]
 |y::r=>by
  have h1:=h.le s y;have h2:=h.flat s r;simp only[List.map_cons,List.flatten_cons,List.length_append,List.length_cons,wts];omega
theorem Few2.list(h:Few2 R)(l:List Nd):(sList R l).length+l.length<=10*wts l:=by
 have h1:=h.flat .e l;have h2:=pComma_len (l.map (R .e));rw[List.length_map] at h2;unfold sList;omega
theorem Few2.args(h:Few2 R)(l:List Nd):(sArgs R l).length<=10*wts l+2:=by
 unfold sArgs
 split
 ·rename_i h1
  match l,h1.1 with
  |[y],_=>
   have:=h.le .e y;simp only[List.getD_cons_zero,wts];omega
 ·have:=h.list l
  simp;omega
theorem Few2.kids(h:Few2 R)(s t:Srt)(x:Nd):(R s (kid x 0)).length<=10*wts x.kids+2/\(R s (kid x 0)).length+(R t (kid x 1)).length<=10*wts x.kids+4:=by
 unfold kid
 match x.kids with
 |[]=>
  have h1:=h.z s;have h2:=h.z t;simp only[List.getD_nil,wts];omega
 |[a]=>
  have h1:=h.le s a;have h2:=h.z t;simp only[List.getD_cons_zero,List.getD_cons_succ,List.getD_nil,wts];omega
 |a::b::r=>
  have h1:=h.le s a;have h2:=h.le t b;simp only[List.getD_cons_zero,List.getD_cons_succ,wts];omega
theorem Few2.body(h:Few2 R)(x:Nd)(ns:List ByteArray):(sBody R x ns).length<=2*ns.length+10*wts x.kids+7:=by
 have h1:=(h.kids .b .b x).1;have h2:=pNames_len ns;unfold sBody
 split
 ·split<;>simp<;>omega
 ·simp
  omega
theorem Few2.field(h:Few2 R)(y:Nd):(sField R y).length+1<=10*y.wt:=by
 have h1:=h.kids .e .e y;have h2:=wt_eq y;unfold sField
 split
 ·simp
  omega
 ·split
  ·simp
   omega
  ·omega
theorem Few2.fields(h:Few2 R):∀l:List Nd,(l.map (sField R)).flatten.length+l.length<=10*wts l
 |[]=>by simp[wts]
 |y::r=>by
  have h1:=h.field y;have h2:=h.fields r;simp only[List.map_cons,List.flatten_cons,List.length_append,List.length_cons,wts];omega
theorem Few2.fieldsl(h:Few2 R)(l:List Nd):(sFields R l).length<=10*wts l:=by
 have h1:=h.fields l;have h2:=pComma_len (l.map (sField R));rw[List.length_map] at h2;unfold sFields;omega
theorem Few2.rest(h:Few2 R)(s:Srt)(x:Nd):(R s (kid x 0)).length+10*wts (x.kids.drop 1)<=10*wts x.kids+2:=by
 unfold kid
 match x.kids with
 |[]=>
  have h1:=h.z s;simp only[List.getD_nil,List.drop_nil,wts];omega
 |a::r=>
  have h1:=h.le s a;simp only[List.getD_cons_zero,List.drop_succ_cons,List.drop_zero,wts];omega
theorem Few2.upto(h:Few2 R)(s:Srt):∀(l:List Nd) (k:Nat),10*wts (l.take k)+(R s (l.getD k zNd)).length<=10*wts l+2
 |[],k=>by
  have h1:=h.z s;simp only[List.take_nil,List.getD_nil,wts];omega
 |a::r,0=>by
  have h1:=h.le s a;simp only[List.take_zero,List.getD_cons_zero,wts];omega
 |a::r,k+1=>by
  have h1:=h.upto s r k;simp only[List.take_succ_cons,List.getD_cons_succ,wts];omega
theorem Few2.pairs(h:Few2 R):∀(wd:ByteArray) (l:List Nd),(sPairs R wd l).length<=10*wts l
 |wd,[]=>by simp[sPairs]
 |wd,[b]=>by
  have h1:=h.le .b b;simp[sPairs,wts];omega
 |wd,c::b::r=>by
  have h1:=h.le .e c;have h2:=h.le .b b;have h3:=h.pairs ⟨#[101,108,115,101,105,102]⟩ r;simp[sPairs,wts];omega
theorem le_ite{c:Prop}[Decidable c]{a b:List ByteArray}{B:Nat}(h1:c->a.length+2<=B)(h2:¬c->b.length+2<=B):(if c then a else b).length+2<=B:=by
 by_cases h:c
 ·rw[if_pos h]
  exact h1 h
 ·rw[if_neg h]
  exact h2 h
theorem Few2.sE(h:Few2 R)(n:Nd):(sE R n).length+2<=10*n.wt:=by
 have hw:=wt_eq n;have h1:=h.kids .e .e n;have h2:=h.body n n.names;have h3:=h.rest .e n;have h4:=h.args (n.kids.drop 1);have h5:=h.fieldsl n.kids;unfold Pa.sE
 repeat' refine le_ite (fun _=> ?_) (fun _=> ?_)
 all_goals
  simp only[List.flatten_cons,List.flatten_nil,List.length_append,List.length_cons,List.length_nil];omega
theorem Few2.block(h:Few2 R)(n:Nd):(sBlock R n).length+2<=10*n.wt:=by
 have hw:=wt_eq n;have key:∀l:List Nd,(l.map fun y=>R .s y++[(⟨#[59]⟩:ByteArray)]).flatten.length<=10*wts l:=by
  intro l
  induction l with
  |nil=>simp
  |cons y r ih=>
   have h1:=h.le .s y;simp only[List.map_cons,List.flatten_cons,List.length_append,List.length_cons,List.length_nil,wts];omega
 have:=key n.kids;unfold Pa.sBlock;omega
theorem Few2.bodyk(h:Few2 R)(x:Nd):(sBody R (kid x 0) (kid x 0).names).length<=10*wts x.kids+5:=by
 have h2:=h.body (kid x 0) (kid x 0).names;have h3:=wt_eq (kid x 0);unfold kid at *
 match hk:x.kids with
 |[]=>
  have h1:=h.z .b;simp only[List.getD_nil,wts];have:sBody R zNd zNd.names=[[⟨#[40]⟩],[],[⟨#[41]⟩],R .b zNd,[⟨#[101,110,100]⟩]].flatten:=rfl;rw[this];simp;omega
 |a::r=>
  rw[hk] at h2 h3;simp only[List.getD_cons_zero,wts] at *;omega
theorem Few2.named(h:Few2 R)(x:Nd)(hl:x.kids.length=2):(sNamed R (kid x 0) (kid x 1)).length<=10*wts x.kids:=by
 have h0:=h.le .e (kid x 0);have h1:=(h.kids .e .e (kid x 0)).1;have h2:=h.body (kid x 1) ((kid x 1).names.drop 1);have h3:=h.body (kid x 1) (kid x 1).names;have h4:=wt_eq (kid x 0);have h5:=wt_eq (kid x 1);have h6:((kid x 1).names.drop 1).length<=(kid x 1).names.length:=by rw[List.length_drop];omega
 have h7:wts x.kids=(kid x 0).wt+(kid x 1).wt:=by
  unfold kid
  match x.kids,hl with
  |[a,b],_=>simp[wts]
 unfold sNamed
 split
 ·simp only[List.flatten_cons,List.flatten_nil,List.length_append,List.length_cons,List.length_nil]
  omega
 ·simp only[List.flatten_cons,List.flatten_nil,List.length_append,List.length_cons,List.length_nil]
  omega
theorem Few2.sS(h:Few2 R)(n:Nd):(sS R n).length+2<=10*n.wt:=by
 have hw:=wt_eq n;have h1:=h.kids .e .b n;have h1':=h.kids .b .e n;have h2:=h.list n.kids;have h3:=pNames_len n.names;have h4:=h.list (n.kids.take n.n.toNat);have h5:=h.list (n.kids.drop n.n.toNat);have h6:wts n.kids=wts (n.kids.take n.n.toNat)+wts (n.kids.drop n.n.toNat):=by rw[<-wts_append,List.take_append_drop]
 have h7:=h.pairs ⟨#[105,102]⟩ n.kids;have h8:10*wts (n.kids.take n.n.toNat)+(R .b (kid n n.n.toNat)).length<=10*wts n.kids+2:=h.upto .b n.kids n.n.toNat;have h9:=h.bodyk n;unfold Pa.sS;unfold sBranch;refine le_ite (fun _=>le_ite (fun _=> ?_) (fun _=> ?_)) (fun _=>le_ite (fun _=>le_ite (fun hc=> ?_) (fun _=> ?_)) (fun _=> ?_))
 ·simp only[List.flatten_cons,List.flatten_nil,List.length_append,List.length_cons,List.length_nil]
  omega
 ·simp only[List.flatten_cons,List.flatten_nil,List.length_append,List.length_cons,List.length_nil]
  omega
 ·have:=h.named n hc.2.1
  omega
 ·simp only[List.flatten_cons,List.flatten_nil,List.length_append,List.length_cons,List.length_nil]
  omega
 ·repeat' refine le_ite (fun _=> ?_) (fun _=> ?_)
  all_goals
   try simp only[List.flatten_cons,List.flatten_nil,List.length_append,List.length_cons,List.length_nil]
   omega
theorem few_pr:∀m:Nat,Few2 (pr m):=by
 intro m
 induction m with
 |zero=>exact⟨fun s y=>by have:=wt_eq y;simp[pr];omega,fun s=>by simp[pr]⟩
 |succ m ih=>
  refine⟨fun s y=> ?_,fun s=> ?_⟩
  ·cases s with
   |e=>exact ih.sE y
   |s=>exact ih.sS y
   |b=>exact ih.block y
   |f=>have:=wt_eq y;simp[pr];omega
  ·cases s<;>simp[pr,Pa.sE,Pa.sS,Pa.sBlock,zNd,sFields,pComma]
theorem pr_len(m:Nat)(s:Srt)(x:Nd):(pr m s x).length<=10*x.wt:=by
 have:=(few_pr m).le s x;omega
end
end Go.Proofs.YtoimaaonloibfaaGreatDoor.Pa
namespace Go.Proofs.YtoimaaonloibfaaGreatDoor.Pa
open Go.RowKit W1 W2 PF Wf Lx
theorem pa_all:∀m:Nat,m<=6011->PA m:=by
 intro m
 induction m with
 |zero=>exact fun _=>⟨fun x hx=>by have:=wt_eq x;omega,fun x hx=>by have:=wt_eq x;omega,fun x hx=>by have:=wt_eq x;omega⟩
 |succ m ih=>
  intro h;have hm:m<=6010:=by omega
  have hP:=ih (by omega);have hF:=few_pr m;have hlen:=pr_len m;have hLl:∀l,(sList (pr m) l).length<=20*wts l:=fun l=>by have:=hF.list l;omega
  have hBl:∀x ns,(sBody (pr m) x ns).length<=20*(x.wt+ns.length)+10:=fun x ns=>by have:=hF.body x ns;have:=wt_eq x;omega
  have hLs:=list_pr m hm hP hlen;have hArgs:=args_pr m hm hP hlen hLs hLl;have hFld:=fields_pr m hm hP hlen (fun y=>by have:=hF.field y;omega);have hBd:=body_pr m hm hP hlen;have hNd:=named_pr m hm hP hlen hBd hBl;have hBr:=branch_pr m hm hP hlen (fun wd l=>by have:=hF.pairs wd l;omega);exact⟨expr_any m hm hP hlen hArgs (fun l=>by have:=hF.args l;omega) hFld (fun l=>by have:=hF.fieldsl l;omega) hBd (fun x=>by have:=hF.body x x.names;have:=wt_eq x;omega) isName_pr,
   stat_pr m hm hP hlen hLs hLl hNd hBr hBd hBl,block_pr m hm hP hlen⟩
end Go.Proofs.YtoimaaonloibfaaGreatDoor.Pa
namespace Go.Proofs.YtoimaaonloibfaaGreatDoor.Pa
open Go.RowKit W1 W2 PF Wf Lx
attribute [local go_sem] run_store_float fld49_0 fld49_1 fld49_3
def toks(x:Nd):List ByteArray:=pr 6011 .b x
set_option maxRecDepth 10000 in
set_option maxHeartbeats 2000000 in
theorem short_pr(x:Nd)(hx:x.wt<=6010)(hO:Ok True .b x)(w:World)(An:Option Addr)(cn:Nat)(Ak:Option Addr)(ck:Nat)(hk:NK w x An cn Ak ck):
  Calls Tryz.prog 6 #[.agg #[.int .i64 x.k,.string x.s,.float .f64 x.x,.int .i64 x.n,.bool x.b,(.slice An x.names.length cn),(.slice Ak x.kids.length ck)]] w fun e w'=>OutR w (toks x) e w':=by
 have HP:=aM (pa_all 6011 (Nat.le_refl _));have HV:=aM (Vb.new w #[.int .i64 x.k,.string x.s,.float .f64 x.x,.int .i64 x.n,.bool x.b,(.slice An x.names.length cn),(.slice Ak x.kids.length ck)]);have HB:=aM (bA (bR w.heap.size w) (.cells #[.int .i64 x.k,.string x.s,.float .f64 x.x,.int .i64 x.n,.bool x.b,(.slice An x.names.length cn),(.slice Ak x.kids.length ck)] 27));have HK:=aM (hk.below HB.out);have HO:=aM hO;have HX:=aM (show x.wt<=6011 by omega);clear hk hO hx;go_enter Tryz.func6,Tryz.ntmps6
 go_upto_region 1 with fail;generalize w.alloc _=w1 at HV HB HK|-;obtain⟨v0,v1,v2,v3,v4,v5,v6⟩:=bC7 HV.out;go_wp2_with fail;refine(HP.out.b x HX.out HO.out w1 An cn Ak ck HK.out).mono ?_;rintro e w2 ⟨u,rfl,hR,hb⟩;have HR:=aM (hR.lower HB.out.size);have HB2:=aM (HB.out.trans (hb.mono HB.out.size));clear hR hb;go_wp2_with fail;go_ret;exact⟨u,rfl,HR.out,HB2.out⟩
end Go.Proofs.YtoimaaonloibfaaGreatDoor.Pa
namespace Go.Proofs.YtoimaaonloibfaaGreatDoor.Pa
open Go.RowKit W1 W2 PF Wf Lx
def nbI(x y:Int):Bool:=
 if isWy x=true then isWy y||y==46 else if x=46 then isWy y||y==46 else if x=91 then y==91||y==61
 else if x=61\/x=60\/x=62\/x=126 then y==61 else if x=45 then y==45 else if x=58 then y==58 else false
def nb(a b:ByteArray):Bool:=match (bytesOf a).getLast?,(bytesOf b).head? with|some x,some y=>nbI x y|_,_=>false
theorem isLt_f(x:Int):spec_lxIsLetter.f x=some (isLt x):=by
 unfold spec_lxIsLetter.f isLt
 repeat' split
 all_goals(congr 1;rw[Bool.eq_iff_iff];simp;try omega)
theorem isDg_f(x:Int):spec_lxIsDigit.f x=some (isDg x):=by
 unfold spec_lxIsDigit.f isDg
 repeat' split
 all_goals(congr 1;rw[Bool.eq_iff_iff];simp;try omega)
theorem isWy_f(x:Int):spec_prIsWordy.f x=some (isWy x):=by
 unfold spec_prIsWordy.f isWy;rw[isLt_f,isDg_f];cases isLt x<;>simp
theorem nil_iff{a:ByteArray}:a.toList=[]↔bytesOf a=[]:=by
 have:=toList_iff (a:=a) (b:=⟨#[]⟩);rw[show(⟨#[]⟩:ByteArray).toList=[] by rw[ByteArray.toList_eq]] at this;exact this
theorem size_pos{a:ByteArray}(h:bytesOf a≠[]):0<a.size:=by
 rw[<-bytesOf_length];exact List.length_pos_iff.mpr h
theorem last_bt{a:ByteArray}(h:bytesOf a≠[]):(bytesOf a).getLast? = some (bt a ((a.size:Int)-1)):=by
 have hp:=size_pos h;have:=bt_drop a (a.size-1) (by omega);have e:((a.size-1:Nat):Int)=(a.size:Int)-1:=by omega
 rw[e] at this;have hd:(bytesOf a).drop (a.size-1+1)=[]:=List.drop_of_length_le (by rw[bytesOf_length];omega);rw[hd] at this;have hl:(bytesOf a).getLast? = ((bytesOf a).drop (a.size-1)).getLast? :=by
  rw[List.getLast?_drop,if_neg (by rw[bytesOf_length];omega)]
 rw[hl,this]
 rfl
theorem head_bt{a:ByteArray}(h:bytesOf a≠[]):(bytesOf a).head? = some (bt a 0):=by
 have hp:=size_pos h;have:=bt_drop a 0 hp;rw[List.drop_zero] at this;rw[this]
 rfl
def gapL(kind:Int)(l r:ByteArray):List Int:=
 if kind=1 then [32] else if kind=2 then [9,32] else if kind=3/\bytesOf r≠[40] then [10]
 else if kind=4/\bytesOf r≠[40] then [32,45,45,32,101,110,100,32,40,32,34,32,91,91,10]
 else if kind=5 then [32,45,45,91,91,32,120,32,61,32,41,32,39,32,93,93,32]
 else if kind=6/\bytesOf r≠[40] then [32,45,45,91,61,61,91,32,97,32,93,93,10,101,110,100,32,93,61,93,32,93,61,61,93]
 else if kind=7/\bytesOf r≠[40] then [32,45,45,10,10,9]
 else if nb l r=true then [32] else []
theorem line_f(b:ByteArray):(b.toList != ([40]:List UInt8))=decide (bytesOf b≠[40]):=by
 have:=toList_iff (a:=b) (b:=⟨#[40]⟩);have e1:(⟨#[40]⟩:ByteArray).toList=[40]:=by rw[ByteArray.toList_eq]
 have e2:bytesOf (⟨#[40]⟩:ByteArray)=[40]:=by decide
 rw[e1,e2] at this;rw[Bool.eq_iff_iff];simp[bne_iff_ne,this]
theorem gapL_range(kind:Int)(a b:ByteArray):∀x∈gapL kind a b,0<=x/\x<=255:=by
 unfold gapL
 repeat' split
 all_goals(intro x hx;simp at hx;try omega)
theorem gapL_len(kind:Int)(a b:ByteArray):(gapL kind a b).length<=25:=by
 unfold gapL
 repeat' split
 all_goals simp
theorem gapL_bytes(kind:Int)(a b:ByteArray):bytesOf (strOfNums (gapL kind a b))=gapL kind a b:=bytesOf_nums (gapL_range kind a b)
def kindAt(gaps:List Int)(i:Nat):Int:=if gaps.length=0 then 0 else rd gaps ((i%gaps.length:Nat):Int)
def spr(gaps:List Int):Nat->ByteArray->List ByteArray->List Int
 |_,_,[]=>[]
 |i,last,t::ts=>gapL (kindAt gaps i) last t++(bytesOf t++spr gaps (i+1) t ts)
theorem rdOf_get(L:List ByteArray)(i:Nat)(h:i<L.length):rdOf ByteArray.empty L (i:Int)=L[i]:=by simp[rdOf,h]
def Tok(t:ByteArray):Prop:=t.size<=8002/\(Ident (bytesOf t)\/bytesOf t∈signsL\/NumT (bytesOf t)\/∃s:ByteArray,s.size<=2000/\bytesOf t=quoL (bytesOf s))
def TL(l:List ByteArray):Prop:=∀t∈l,Tok t
theorem TL.nil:TL []:=fun t h=>by simp at h
theorem TL.cons{t:ByteArray}{l:List ByteArray}(h:Tok t)(hl:TL l):TL (t::l):=fun u hu=>by
 rcases List.mem_cons.1 hu with rfl|hu
 ·exact h
 ·exact hl u hu
theorem TL.app{l r:List ByteArray}(h:TL l)(hr:TL r):TL (l++r):=fun u hu=>by
 rcases List.mem_append.1 hu with hu|hu
 ·exact h u hu
 ·exact hr u hu
theorem TL.flat{ls:List (List ByteArray)}(h:∀l∈ls,TL l):TL ls.flatten:=fun u hu=>by
 obtain⟨l,hl,hu⟩:=List.mem_flatten.1 hu;exact h l hl u hu
theorem flat0:TL ([]:List (List ByteArray)).flatten:=TL.nil
theorem flat1{l:List ByteArray}{ls:List (List ByteArray)}(h:TL l)(hs:TL ls.flatten):TL (l::ls).flatten:=by
 rw[List.flatten_cons];exact h.app hs
theorem identB_ok{l:List Int}(h:identB l=true):Ident l:=by
 match l,h with
 |x::r,h=>
  simp only[identB,Bool.and_eq_true,List.all_eq_true] at h;exact⟨x,r,rfl,h.1,h.2⟩
def tokB(t:ByteArray):Bool:=decide (t.size<=8002)&&(identB (bytesOf t)||signsL.contains (bytesOf t))
theorem tok_lit{t:ByteArray}(h:tokB t=true):Tok t:=by
 simp only[tokB,Bool.and_eq_true,decide_eq_true_eq,Bool.or_eq_true,List.contains_iff_mem] at h;exact⟨h.1,h.2.elim (fun h=> .inl (identB_ok h)) (fun h=> .inr (.inl h))⟩
theorem lit_tl{l:List ByteArray}(h:l.all tokB=true):TL l:=fun t ht=>tok_lit (List.all_eq_true.1 h t ht)
theorem words_ident:∀l∈wordsL,identB l=true:=by decide
theorem quo_bytes(s:ByteArray):bytesOf (quo s)=quoL (bytesOf s):=by
 refine bytesOf_nums ?_;intro x hx;have hb:∀y∈bytesOf s,0<=y/\y<=255:=fun y hy=>by
  obtain⟨i,hi,rfl⟩:=List.mem_iff_getElem.1 hy;have:=rd_bytesOf s (i:Int);unfold rd at this;have h2:=bt_range s (i:Int);rw[<-this] at h2
  simpa[hi] using h2
 unfold quoL at hx;simp only[List.mem_append,List.mem_singleton,List.mem_flatMap] at hx;rcases hx with(rfl|⟨y,hy,hx⟩)|rfl
 ·omega
 ·have:=hb y hy
  unfold qEsc at hx
  split at hx
  ·simp at hx;omega
  ·split at hx
   ·simp at hx;omega
   ·split at hx
    ·simp at hx;omega
    ·simp at hx;omega
 ·omega
theorem tok_quo{s:ByteArray}(h:s.size<=2000):Tok (quo s):=by
 refine⟨?_,.inr (.inr (.inr ⟨s,h,quo_bytes s⟩))⟩;have e:(quo s).size=(quoL (bytesOf s)).length:=by rw[<-bytesOf_length,quo_bytes]
 have key:∀l:List Int,(l.flatMap qEsc).length<=4*l.length:=by
  intro l
  induction l with
  |nil=>simp
  |cons x r ih=>
   have:=qEsc_le x;simp only[List.flatMap_cons,List.length_append,List.length_cons];omega
 have:=key (bytesOf s);rw[bytesOf_length] at this;rw[e,quoL];simp only[List.length_append,List.length_cons,List.length_nil];omega
theorem tok_name{t:ByteArray}(h:NameT t)(hs:t.size<=2000):Tok t:=⟨by omega,.inl h.1⟩
theorem tok_pname{y:Nd}(h:pIsName y=true)(hs:y.s.size<=2000):Tok y.s:=by
 simp only[pIsName,Bool.and_eq_true] at h;exact⟨by omega,.inl (identB_ok h.1.1.2)⟩
theorem TL.comma{xs:List (List ByteArray)}(h:∀l∈xs,TL l):TL (pComma xs):=by
 unfold pComma;refine TL.flat ?_;have:∀ys:List (List ByteArray),(∀l∈ys,TL l)->∀l∈ys.intersperse [(⟨#[44]⟩:ByteArray)],TL l:=by
  intro ys
  induction ys with
  |nil=>intro _ l hl;simp at hl
  |cons y r ih=>
   intro hy l hl
   cases r with
   |nil=>exact hy l hl
   |cons z r=>
    rw[List.intersperse_cons_cons] at hl;rcases List.mem_cons.1 hl with rfl|hl
    ·exact hy _ (by simp)
    ·rcases List.mem_cons.1 hl with rfl|hl
     ·exact lit_tl (by decide)
     ·exact ih (fun l hl=>hy l (List.mem_cons_of_mem _ hl)) l hl
 exact this xs h
theorem TL.names{ns:List ByteArray}(h:TL ns):TL (pNames ns):=by
 refine TL.comma ?_;intro l hl;obtain⟨n,hn,rfl⟩:=List.mem_map.1 hl;exact TL.nil.cons (h n hn)
theorem Tx.tl{x:Nd}(h:Tx x):TL x.names:=fun n hn=>tok_name (h.2.2.2.2 n hn).1 (h.2.2.2.2 n hn).2
section
variable {R:Srt->Nd->List ByteArray} (H:∀s y,Ok True s y->TL (R s y))
include H
theorem list_tl{l:List Nd}(h:∀y∈l,Ok True .e y):TL (sList R l):=by
 refine TL.comma ?_;intro t ht;obtain⟨y,hy,rfl⟩:=List.mem_map.1 ht;exact H .e y (h y hy)
theorem args_tl{l:List Nd}(h:∀y∈l,Ok True .e y):TL (sArgs R l):=by
 unfold sArgs
 split
 ·rename_i h1
  match l,h1.1,h with
  |[y],_,h=>exact H .e y (h y (by simp))
 ·exact flat1 (lit_tl (by decide)) (flat1 (list_tl H h) (flat1 (lit_tl (by decide)) flat0))
theorem body_tl{x y:Nd}{ns:List ByteArray}(hk:x.kids=[y])(hy:Ok True .b y)(hn:TL ns):TL (sBody R x ns):=by
 have e:kid x 0=y:=by unfold kid;rw[hk];rfl
 unfold sBody;rw[e];refine flat1 (lit_tl (by decide)) (flat1 ?_ (flat1 (lit_tl (by decide)) (flat1 (H .b y hy) (flat1 (lit_tl (by decide)) flat0))))
 split
 ·split
  ·exact(hn.names).app (lit_tl (by decide))
  ·exact((hn.names).app (lit_tl (by decide))).app (lit_tl (by decide))
 ·exact hn.names
theorem fn_tl{x:Nd}{ns:List ByteArray}(hx:Ok True .e x)(hk:x.k=26)(hn:TL ns):TL (sBody R x ns):=by
 cases hx with
 |fn h1 h2 h3 h4=>exact body_tl H h3 h4 hn
 |atom h1 _=>omega
 |ix h1 _ _ _ _=>omega
 |call h1 _ _ _ _=>omega
 |bin h1 _ _ _ _=>omega
 |un h1 _ _ _=>omega
 |tab h1 _ _=>omega
theorem field_tl{x:Nd}(hx:Ok True .f x):TL (sField R x):=by
 cases hx with
 |item h1 h2 h3 h4=>
  rename_i y;have e:kid x 0=y:=by unfold kid;rw[h3];rfl
  unfold sField;rw[if_neg (by omega),if_neg (by omega),e];exact H .e y h4
 |par h1 h2 h3 h4 h5=>
  rename_i y z;have e:kid x 0=y:=by unfold kid;rw[h3];rfl
  have e2:kid x 1=z:=by unfold kid;rw[h3];rfl
  unfold sField;rw[e,e2]
  split
  ·rename_i hc
   exact(TL.nil.cons (tok_lit (by decide))).cons (tok_pname hc.2 ((h4.tx trivial).1)) |>.app (H .e z h5)
  ·exact(((lit_tl (by decide)).app (H .e y h4)).app (lit_tl (by decide))).app (H .e z h5)
theorem fields_tl{l:List Nd}(h:∀y∈l,Ok True .f y):TL (sFields R l):=by
 refine TL.comma ?_;intro t ht;obtain⟨y,hy,rfl⟩:=List.mem_map.1 ht;exact field_tl H (h y hy)
theorem sE_tl{x:Nd}(hx:Ok True .e x):TL (sE R x):=by
 have ht:=hx.tx trivial;have hn:=ht.tl
 cases hx with
 |atom h1 h2=>
  rcases h1 with h|h|h|h|h|h|h
  all_goals(unfold sE;simp only[h,Int.reduceEq,if_true,if_false,false_or,or_false,or_self,true_or,or_true])
  ·exact lit_tl (by decide)
  ·exact lit_tl (by decide)
  ·exact lit_tl (by decide)
  ·exact TL.nil.cons ⟨by have:=ht.1;omega,.inr (.inr (.inl (ht.2.1 h)))⟩
  ·exact TL.nil.cons (tok_quo ht.1)
  ·exact lit_tl (by decide)
  ·exact TL.nil.cons (tok_name (ht.2.2.1 (.inl h)) ht.1)
 |fn h h2 h3 h4=>
  unfold sE;simp only[h,Int.reduceEq,if_true,if_false,false_or,or_false,or_self];exact flat1 (lit_tl (by decide)) (flat1 (body_tl H h3 h4 hn) flat0)
 |ix h h2 h3 h4 h5=>
  rename_i y z;have e:kid x 0=y:=by unfold kid;rw[h3];rfl
  have e2:kid x 1=z:=by unfold kid;rw[h3];rfl
  unfold sE;simp only[h,Int.reduceEq,if_true,if_false,false_or,or_false,or_self,e,e2]
  split
  ·rename_i hc
   exact flat1 (H .e y h4) (flat1 ((TL.nil.cons (tok_pname hc ((h5.tx trivial).1))).cons (tok_lit (by decide))) flat0)
  ·exact flat1 (H .e y h4) (flat1 (lit_tl (by decide)) (flat1 (H .e z h5) (flat1 (lit_tl (by decide)) flat0)))
 |call h h2 h3 h4 h5=>
  rename_i y zs;have e:kid x 0=y:=by unfold kid;rw[h3];rfl
  have e2:x.kids.drop 1=zs:=by rw[h3];rfl
  rcases h with h|h
  ·unfold sE
   simp only[h,Int.reduceEq,if_true,if_false,false_or,or_false,or_self,e,e2];exact flat1 (H .e y h4) (flat1 (args_tl H h5) flat0)
  ·unfold sE
   simp only[h,Int.reduceEq,if_true,if_false,false_or,or_false,or_self,e,e2];exact flat1 (H .e y h4) (flat1 ((TL.nil.cons (tok_name (ht.2.2.1 (.inr h)) ht.1)).cons (tok_lit (by decide))) (flat1 (args_tl H h5) flat0))
 |bin h h2 h3 h4 h5=>
  rename_i y z;have e:kid x 0=y:=by unfold kid;rw[h3];rfl
  have e2:kid x 1=z:=by unfold kid;rw[h3];rfl
  unfold sE;simp only[h,Int.reduceEq,if_true,if_false,false_or,or_false,or_self,e,e2];have hT:Tok x.s:=⟨by have:=ht.1;omega,(ht.2.2.2.1 (.inl h)).elim (fun h=> .inl (identB_ok (words_ident _ h))) (fun h=> .inr (.inl h))⟩;exact flat1 (H .e y h4) (flat1 (TL.nil.cons hT) (flat1 (H .e z h5) flat0))
 |un h h2 h3 h4=>
  rename_i y;have e:kid x 0=y:=by unfold kid;rw[h3];rfl
  rcases h with h|h
  ·unfold sE
   simp only[h,Int.reduceEq,if_true,if_false,false_or,or_false,or_self,e];have hT:Tok x.s:=⟨by have:=ht.1;omega,(ht.2.2.2.1 (.inr h)).elim (fun h=> .inl (identB_ok (words_ident _ h))) (fun h=> .inr (.inl h))⟩;exact flat1 (TL.nil.cons hT) (flat1 (H .e y h4) flat0)
  ·unfold sE
   simp only[h,Int.reduceEq,if_true,if_false,false_or,or_false,or_self,e];exact flat1 (lit_tl (by decide)) (flat1 (H .e y h4) (flat1 (lit_tl (by decide)) flat0))
 |tab h h2 h3=>
  unfold sE;simp only[h,Int.reduceEq,if_true,if_false,false_or,or_false,or_self];exact flat1 (lit_tl (by decide)) (flat1 (fields_tl H h3) (flat1 (lit_tl (by decide)) flat0))
theorem named_tl{t n:Nd}(ht:Ok True .e t)(hn:Ok True .e n)(hk:n.k=26)(hp:pIsPath t.wt t=true):TL (sNamed R t n):=by
 have hN:=(hn.tx trivial).tl;unfold sNamed
 split
 ·rename_i hc
  cases ht with
  |ix h h2 h3 h4 h5=>
   rename_i y z;have e:kid t 0=y:=by unfold kid;rw[h3];rfl
   have e2:kid t 1=z:=by unfold kid;rw[h3];rfl
   have hq:pIsName z=true:=by
    rw[wt_eq,Nat.add_assoc,Nat.add_comm 1,pIsPath,e2] at hp
    split at hp
    ·rename_i h;simp only[Bool.and_eq_true] at h;exact h.2
    ·rw[hc.1] at hp;simp at hp
   rw[e,e2];exact flat1 (lit_tl (by decide)) (flat1 (H .e y h4) (flat1 ((TL.nil.cons (tok_pname hq ((h5.tx trivial).1))).cons (tok_lit (by decide))) (flat1 (fn_tl H hn hk (fun u hu=>hN u (List.mem_of_mem_drop hu))) flat0)))
  |fn h1 h2 h3 h4=>omega
  |atom h1 _=>omega
  |call h1 _ _ _ _=>omega
  |bin h1 _ _ _ _=>omega
  |un h1 _ _ _=>omega
  |tab h1 _ _=>omega
 ·exact flat1 (lit_tl (by decide)) (flat1 (H .e t ht) (flat1 (fn_tl H hn hk hN) flat0))
theorem pairs_tl:∀(l:List Nd) (w:ByteArray),Tok w->(∀i y,l[i]? = some y->Ok True (if i%2=0/\i+1<l.length then .e else .b) y)->TL (sPairs R w l)
 |[],w,_,_=>by rw[sPairs];exact TL.nil
 |[b],w,_,h=>by
  rw[sPairs];exact flat1 (lit_tl (by decide)) (flat1 (H .b b (h 0 b rfl)) flat0)
 |c::b::r,w,hw,h=>by
  rw[sPairs];have h0:=h 0 c rfl;have h1:=h 1 b rfl;rw[if_pos (by simp)] at h0;rw[if_neg (by simp)] at h1;refine(flat1 (TL.nil.cons hw) (flat1 (H .e c h0) (flat1 (lit_tl (by decide)) (flat1 (H .b b h1) flat0)))).app (pairs_tl r _ (tok_lit (by decide)) ?_);intro i y hi;have:=h (i+2) y hi;have e:((i+2)%2=0/\i+2+1<(c::b::r).length)↔(i%2=0/\i+1<r.length):=by
   simp only[List.length_cons];omega
  simp only[e] at this;exact this
theorem sS_tl{x:Nd}(hx:Ok True .s x):TL (sS R x):=by
 have ht:=hx.tx trivial;have hn:=ht.tl
 cases hx with
 |loc h h2 h3=>
  unfold sS;simp only[h,Int.reduceEq,if_true,if_false,false_or,or_false,or_self]
  split
  ·exact flat1 (lit_tl (by decide)) (flat1 hn.names flat0)
  ·exact flat1 (flat1 (lit_tl (by decide)) (flat1 hn.names flat0)) (flat1 (lit_tl (by decide)) (flat1 (list_tl H h3) flat0))
 |asg m h h2 h3 h4 h5=>
  unfold sS;simp only[h,Int.reduceEq,if_true,if_false,false_or,or_false,or_self]
  split
  ·rename_i hc
   obtain⟨c1,c2,c3,c4⟩:=hc;have a0:Ok True .e (kid x 0):=by
    unfold kid
    match hk:x.kids,c2 with
    |[a,b],_=>exact h3 a (by rw[hk];simp)
   have a1:Ok True .e (kid x 1):=by
    unfold kid
    match hk:x.kids,c2 with
    |[a,b],_=>exact h3 b (by rw[hk];simp)
   exact named_tl H a0 a1 c3 c4
  ·exact flat1 (list_tl H (fun y hy=>h3 y (List.mem_of_mem_take hy))) (flat1 (lit_tl (by decide)) (flat1 (list_tl H (fun y hy=>h3 y (List.mem_of_mem_drop hy))) flat0))
 |cst h h2 h3 h4=>
  rename_i y;have e:kid x 0=y:=by unfold kid;rw[h3];rfl
  unfold sS;simp only[h,Int.reduceEq,if_true,if_false,false_or,or_false,or_self,e];exact H .e y h4
 |doo h h2 h3 h4=>
  rename_i y;have e:kid x 0=y:=by unfold kid;rw[h3];rfl
  unfold sS;simp only[h,Int.reduceEq,if_true,if_false,false_or,or_false,or_self,e];exact flat1 (lit_tl (by decide)) (flat1 (H .b y h4) (flat1 (lit_tl (by decide)) flat0))
 |whil h h2 h3 h4 h5=>
  rename_i y z;have e:kid x 0=y:=by unfold kid;rw[h3];rfl
  have e2:kid x 1=z:=by unfold kid;rw[h3];rfl
  unfold sS;simp only[h,Int.reduceEq,if_true,if_false,false_or,or_false,or_self,e,e2];exact flat1 (lit_tl (by decide)) (flat1 (H .e y h4) (flat1 (lit_tl (by decide)) (flat1 (H .b z h5) (flat1 (lit_tl (by decide)) flat0))))
 |rep h h2 h3 h4 h5=>
  rename_i y z;have e:kid x 0=y:=by unfold kid;rw[h3];rfl
  have e2:kid x 1=z:=by unfold kid;rw[h3];rfl
  unfold sS;simp only[h,Int.reduceEq,if_true,if_false,false_or,or_false,or_self,e,e2];exact flat1 (lit_tl (by decide)) (flat1 (H .b y h4) (flat1 (lit_tl (by decide)) (flat1 (H .e z h5) flat0)))
 |iff h h2 h3=>
  unfold sS;simp only[h,Int.reduceEq,if_true,if_false,false_or,or_false,or_self];unfold sBranch;exact(pairs_tl H x.kids _ (tok_lit (by decide)) h3).app (lit_tl (by decide))
 |forn h h2 h3 h4 h5 h6 h7=>
  rename_i ys z;have e1:x.n.toNat=ys.length:=by rw[h5];exact Int.toNat_natCast _
  have e2:x.kids.take ys.length=ys:=by rw[h4];simp
  have e3:kid x ys.length=z:=by unfold kid;rw[h4];simp
  have e4:Tok (x.names.getD 0 ⟨#[]⟩):=by
   match hq:x.names,h3 with
   |a::r,_=>exact hn a (by rw[hq];simp)
  unfold sS;simp only[h,Int.reduceEq,if_true,if_false,false_or,or_false,or_self,e1,e2,e3];exact flat1 (((lit_tl (l:=[⟨#[61]⟩]) (by decide)).cons e4).cons (tok_lit (by decide))) (flat1 (list_tl H h6) (flat1 (lit_tl (by decide)) (flat1 (H .b z h7) (flat1 (lit_tl (by decide)) flat0))))
 |fori h h2 h4 h5 h6 h7=>
  rename_i ys z;have e1:x.n.toNat=ys.length:=by rw[h5];exact Int.toNat_natCast _
  have e2:x.kids.take ys.length=ys:=by rw[h4];simp
  have e3:kid x ys.length=z:=by unfold kid;rw[h4];simp
  unfold sS;simp only[h,Int.reduceEq,if_true,if_false,false_or,or_false,or_self,e1,e2,e3];exact flat1 (lit_tl (by decide)) (flat1 hn.names (flat1 (lit_tl (by decide)) (flat1 (list_tl H h6) (flat1 (lit_tl (by decide)) (flat1 (H .b z h7) (flat1 (lit_tl (by decide)) flat0))))))
 |lfn h h2 h3 h4 h5 h6=>
  rename_i y;have e:kid x 0=y:=by unfold kid;rw[h4];rfl
  have e4:Tok (x.names.getD 0 ⟨#[]⟩):=by
   match hq:x.names,h3 with
   |a::r,_=>exact hn a (by rw[hq];simp)
  unfold sS;simp only[h,Int.reduceEq,if_true,if_false,false_or,or_false,or_self,e];exact flat1 (((TL.nil.cons e4).cons (tok_lit (by decide))).cons (tok_lit (by decide))) (flat1 (fn_tl H h6 h5 (h6.tx trivial).tl) flat0)
 |ret h h2 h3=>
  unfold sS;simp only[h,Int.reduceEq,if_true,if_false,false_or,or_false,or_self];exact flat1 (lit_tl (by decide)) (flat1 (list_tl H h3) flat0)
 |brk h h2=>
  unfold sS;simp only[h,Int.reduceEq,if_true,if_false,false_or,or_false,or_self];exact lit_tl (by decide)
theorem sBlock_tl{x:Nd}(hx:Ok True .b x):TL (sBlock R x):=by
 cases hx with
 |block h h2 h3=>
  unfold sBlock;refine TL.flat ?_;intro l hl;obtain⟨y,hy,rfl⟩:=List.mem_map.1 hl;exact(H .s y (h3 y hy)).app (lit_tl (by decide))
end
theorem pr_tl:∀(m:Nat) (s:Srt) (x:Nd),Ok True s x->TL (pr m s x)
 |0,s,x,_=>by rw[pr];exact TL.nil
 |m+1,.e,x,h=>by rw[pr];exact sE_tl (pr_tl m) h
 |m+1,.s,x,h=>by rw[pr];exact sS_tl (pr_tl m) h
 |m+1,.b,x,h=>by rw[pr];exact sBlock_tl (pr_tl m) h
 |m+1,.f,x,h=>by rw[pr];exact TL.nil
theorem toks_tl{x:Nd}(h:Ok True .b x):TL (toks x):=pr_tl _ _ _ h
theorem toks_len{x:Nd}(h:x.wt<=6010):(toks x).length<=60100:=by
 have:=pr_len 6011 .b x;unfold toks;omega
theorem gapL_lead(kind:Int)(a b:ByteArray):(gapL kind a b=[]/\nb a b=false)\/∃x g,gapL kind a b=x::g/\(x=32\/x=9\/x=10):=by
 unfold gapL
 repeat' split
 ·exact .inr ⟨_,_,rfl,by omega⟩
 ·exact .inr ⟨_,_,rfl,by omega⟩
 ·exact .inr ⟨_,_,rfl,by omega⟩
 ·exact .inr ⟨_,_,rfl,by omega⟩
 ·exact .inr ⟨_,_,rfl,by omega⟩
 ·exact .inr ⟨_,_,rfl,by omega⟩
 ·exact .inr ⟨_,_,rfl,by omega⟩
 ·exact .inr ⟨_,_,rfl,by omega⟩
 ·rename_i h
  exact .inl ⟨rfl,by simpa using h⟩
def Stop(l r:List Int):Prop:=∀x y,l.getLast? = some x->r.head? = some y->nbI x y=false
theorem tok_ne{t:ByteArray}(h:Tok t):bytesOf t≠[]:=by
 intro e;have h2:=h.2;rw[e] at h2;rcases h2 with⟨x,r,h,_⟩|h|⟨ds,h,_,h2⟩|⟨s,_,h⟩
 ·cases h
 ·revert h
  decide
 ·rcases h2 with h2|⟨es,_,h2|h2⟩
  ·exact h.1 h2.symm
  ·cases ds<;>cases h2
  ·cases ds<;>cases h2
 ·simp[quoL] at h
theorem nbI_ws{x y:Int}(h:y=32\/y=9\/y=10):nbI x y=false:=by
 have hw:isWy y=false:=by rcases h with rfl|rfl|rfl<;>decide
 have h1:(y==46)=false:=by rw[beq_eq_false_iff_ne];omega
 have h2:(y==91)=false:=by rw[beq_eq_false_iff_ne];omega
 have h3:(y==61)=false:=by rw[beq_eq_false_iff_ne];omega
 have h4:(y==45)=false:=by rw[beq_eq_false_iff_ne];omega
 have h5:(y==58)=false:=by rw[beq_eq_false_iff_ne];omega
 unfold nbI;rw[hw,h1,h2,h3,h4,h5];simp
theorem spr_stop(gaps:List Int)(ts:List ByteArray)(i:Nat)(last:ByteArray)(h:TL ts):Stop (bytesOf last) (spr gaps i last ts):=by
 intro x y hx hy
 match ts,h with
 |[],_=>simp[spr] at hy
 |t::ts,h=>
  have ht:=h t (by simp);rw[spr] at hy;rcases gapL_lead (kindAt gaps i) last t with⟨hg,hn⟩|⟨z,g,hg,hz⟩
  ·rw[hg,List.nil_append] at hy
   match ht2:bytesOf t,tok_ne ht with
   |z::r,_=>
    rw[ht2] at hy;simp only[List.cons_append,List.head?_cons,Option.some.injEq] at hy;unfold nb at hn;rw[hx,ht2] at hn;subst hy
    simpa using hn
  ·rw[hg] at hy
   simp only[List.cons_append,List.head?_cons,Option.some.injEq] at hy;subst hy;exact nbI_ws hz
def Clean(l:List Int):Prop:=∀x∈l,0<=x/\x<=255/\x≠13
theorem bytes_range(s:ByteArray):∀y∈bytesOf s,0<=y/\y<=255:=fun y hy=>by
 obtain⟨i,hi,rfl⟩:=List.mem_iff_getElem.1 hy;have:=rd_bytesOf s (i:Int);unfold rd at this;have h2:=bt_range s (i:Int);rw[<-this] at h2
 simpa[hi] using h2
theorem wy_ne{x:Int}(h:isWy x=true):x≠13:=by rintro rfl;revert h;decide
theorem quo_clean(l:List Int)(hl:∀y∈l,0<=y/\y<=255):∀x∈quoL l,x≠13:=by
 intro x hx;unfold quoL at hx;simp only[List.mem_append,List.mem_singleton,List.mem_flatMap] at hx;rcases hx with(rfl|⟨y,hy,hx⟩)|rfl
 ·omega
 ·have:=hl y hy
  unfold qEsc at hx
  split at hx
  ·simp at hx;omega
  ·split at hx
   ·simp at hx;omega
   ·split at hx
    ·simp at hx;omega
    ·simp at hx;omega
 ·omega
theorem signs_clean:∀l∈signsL,∀x∈l,x≠13:=by decide
theorem num_wy{l:List Int}(h:NumT l):∀x∈l,isDg x=true\/x=101\/x=45:=by
 have dg:∀ds,Digs ds->∀x∈ds,isDg x=true:=fun ds h x hx=>by
  have:=h.2 x hx;simp[isDg];omega
 obtain⟨ds,hd,_,h⟩:=h;intro x hx;rcases h with rfl|⟨es,he,rfl|rfl⟩
 ·exact .inl (dg _ hd x hx)
 ·simp only[List.mem_append,List.mem_cons] at hx
  rcases hx with hx|rfl|hx
  ·exact .inl (dg _ hd x hx)
  ·exact .inr (.inl rfl)
  ·exact .inl (dg _ he x hx)
 ·simp only[List.mem_append,List.mem_cons] at hx
  rcases hx with hx|rfl|rfl|hx
  ·exact .inl (dg _ hd x hx)
  ·exact .inr (.inl rfl)
  ·exact .inr (.inr rfl)
  ·exact .inl (dg _ he x hx)
theorem tok_clean{t:ByteArray}(h:Tok t):∀x∈bytesOf t,x≠13:=by
 rcases h.2 with⟨y,r,h,h1,h2⟩|h|h|⟨s,_,h⟩
 ·intro x hx
  rw[h] at hx;rcases List.mem_cons.1 hx with rfl|hx
  ·exact wy_ne (by simp[isWy,h1])
  ·exact wy_ne (h2 x hx)
 ·exact signs_clean _ h
 ·intro x hx
  rcases num_wy h x hx with h|h|h
  ·exact wy_ne (by simp[isWy,h])
  ·omega
  ·omega
 ·rw[h]
  exact quo_clean _ (bytes_range s)
theorem gapL_clean(kind:Int)(a b:ByteArray):∀x∈gapL kind a b,x≠13:=by
 unfold gapL
 repeat' split
 all_goals(intro x hx;simp at hx;try omega)
theorem spr_clean(gaps:List Int):∀(ts:List ByteArray) (i:Nat) (last:ByteArray),TL ts->Clean (spr gaps i last ts)
 |[],i,last,_=>by intro x hx;simp[spr] at hx
 |t::ts,i,last,h=>by
  have ht:=h t (by simp);have h1:=spr_clean gaps ts (i+1) t (fun u hu=>h u (List.mem_cons_of_mem _ hu));intro x hx;rw[spr] at hx;rcases List.mem_append.1 hx with hx|hx
  ·have:=gapL_range _ _ _ x hx
   exact⟨this.1,this.2,gapL_clean _ _ _ x hx⟩
  ·rcases List.mem_append.1 hx with hx|hx
   ·have:=bytes_range t x hx
    exact⟨this.1,this.2,tok_clean ht x hx⟩
   ·exact h1 x hx
end Go.Proofs.YtoimaaonloibfaaGreatDoor.Pa
