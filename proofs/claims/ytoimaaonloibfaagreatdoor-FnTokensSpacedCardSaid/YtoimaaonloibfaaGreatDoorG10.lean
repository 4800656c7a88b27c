/- FnTokensSpaced (part 10): joined texts of this seat: Po, Pp, Pq, Pr, Ps, Pt, Pv, Pu, Px, Py. -/
import Derived.Test.YtoimaaonloibfaaGreatDoorG09
set_option linter.unusedVariables false
set_option linter.unusedSimpArgs false
set_option linter.constructorNameAsVariable false
set_option linter.unnecessarySimpa false
namespace Go.Proofs.YtoimaaonloibfaaGreatDoor.Pa
open Go.RowKit W1 W2 PF Wf Lx
attribute [local go_sem] run_store_float fld49_0 fld49_1 fld49_3
section
variable {E:Env} {w wr w1 w2:World} {a a' n0 n1 b q:Nat} {c c':Int} {x:Nd} {vn vk:Value} {cs:Array Value}
theorem Tr.res(hp:Pt E w wr a c)(hv:Vb wr n0 cs)(hcs:cs.size=7)(ht:Tr wr b x vn vk)(hE:E.Fine)(h0:Ps E w a' c')(hB:E.w0.heap.size<=w.heap.size)(hn:w.heap.size=n0)(hb:n0<b):
  Pt E w (((((((wr.setCell ⟨n0,0,none⟩ (.int .i64 x.k)).setCell ⟨n0,1,none⟩ (.string x.s)).setCell ⟨n0,2,none⟩ (.float .f64 x.x)).setCell ⟨n0,3,none⟩ (.int .i64 x.n)).setCell ⟨n0,4,none⟩ (.bool x.b)).setCell ⟨n0,5,none⟩ vn).setCell ⟨n0,6,none⟩ vk) a c/\
  Tr (((((((wr.setCell ⟨n0,0,none⟩ (.int .i64 x.k)).setCell ⟨n0,1,none⟩ (.string x.s)).setCell ⟨n0,2,none⟩ (.float .f64 x.x)).setCell ⟨n0,3,none⟩ (.int .i64 x.n)).setCell ⟨n0,4,none⟩ (.bool x.b)).setCell ⟨n0,5,none⟩ vn).setCell ⟨n0,6,none⟩ vk) w.heap.size x vn vk/\
  (((((((wr.setCell ⟨n0,0,none⟩ (.int .i64 x.k)).setCell ⟨n0,1,none⟩ (.string x.s)).setCell ⟨n0,2,none⟩ (.float .f64 x.x)).setCell ⟨n0,3,none⟩ (.int .i64 x.n)).setCell ⟨n0,4,none⟩ (.bool x.b)).setCell ⟨n0,5,none⟩ vn).setCell ⟨n0,6,none⟩ vk).heap[n0]? = some (.cells #[.int .i64 x.k,.string x.s,.float .f64 x.x,.int .i64 x.n,.bool x.b,vn,vk] 27 (0,0)):=by
 obtain⟨h1,h2,h3⟩:=hp.put7 hE h0 hB (b:=n0) (by omega) hv hcs (.int .i64 x.k) (.string x.s) (.float .f64 x.x) (.int .i64 x.n) (.bool x.b) vn vk;exact⟨h1,(ht.far h3 hb).lower (by omega),h2⟩
theorem Tr.leaf(w:World)(b:Nat)(k:Int)(s:ByteArray)(y:Nat):Tr w b ⟨k,s,y,0,false,[],[]⟩ (.slice none 0 0) (.slice none 0 0):=Tr.mk (NR.nil _ _) (KR.nil _ _)
set_option maxRecDepth 10000 in
set_option maxHeartbeats 2000000 in
theorem simple_any(hE:E.Fine)(IH:∀b,a<b->b<E.n->All E b)(ha:a<E.n)(hT:NC E 147 #[.pointer (some ⟨E.g,0,none⟩)] a .e 1 0 (fun _=>True))(hPre:NC E 127 #[.pointer (some ⟨E.g,0,none⟩)] a .e 1 0 (fun _=>True)):NC E 121 #[.pointer (some ⟨E.g,0,none⟩)] a .e 1 0 (fun _=>True):=by
 intro w c h hB;have HE:=aM hE;have HIH:=aM IH;have HT:=aM hT;have HPR:=aM hPre;have hpos:=hE.pos;have hlen:=hE.len;have HP:=aM h;have HB0:=aM hB.size;obtain⟨n0,hn0⟩:∃n0,w.heap.size=n0:=⟨_,rfl⟩;have HN0:=aM hn0;have H:=aM ((Pt.start h hB).alloc (.cells #[.int .i64 0,.string ⟨#[]⟩,.float .f64 0,.int .i64 0,.bool false,.slice none 0 0,.slice none 0 0] 27));have HV2:=aM (show Vb (w.alloc (.cells #[.int .i64 0,.string ⟨#[]⟩,.float .f64 0,.int .i64 0,.bool false,.slice none 0 0,.slice none 0 0] 27)) n0 #[.int .i64 0,.string ⟨#[]⟩,.float .f64 0,.int .i64 0,.bool false,.slice none 0 0,.slice none 0 0] by have:=Vb.new w #[.int .i64 0,.string ⟨#[]⟩,.float .f64 0,.int .i64 0,.bool false,.slice none 0 0,.slice none 0 0];rwa[hn0] at this);clear hE IH h hB hT hPre;go_enter Tryz.func121,Tryz.ntmps121
 go_wp2_with fail;generalize w.alloc _=wz at H HV2|-;clear hn0;refine(now_q HE.out H.out.s ha).mono ?_;rintro e w1 ⟨rfl,hb⟩;obtain⟨kd,hkd⟩:∃k,(E.tk a).k=k:=⟨_,rfl⟩;obtain⟨tx,htx⟩:∃k,(E.tk a).s=k:=⟨_,rfl⟩;obtain⟨nx,hnx⟩:∃k,(E.tk a).x=k:=⟨_,rfl⟩;obtain⟨i1,hi1⟩:∃k,(E.tk a).f1=k:=⟨_,rfl⟩;obtain⟨i2,hi2⟩:∃k,(E.tk a).f2=k:=⟨_,rfl⟩;have HKD:=aM hkd;have HTX:=aM htx;have HNX:=aM (show(E.tk a).x=nx/\(E.tk a).f1=i1/\(E.tk a).f2=i2 from⟨hnx,hi1,hi2⟩);have HSS:=aM (show tx.size<=2000 by rw[<-htx];exact HE.out.size a);rw[hkd,htx,hnx,hi1,hi2];clear hkd htx hnx hi1 hi2;replace H:=aM (H.out.below hb);replace HV2:=aM (HV2.out.below hb);obtain⟨n3,hn3⟩:∃n,w1.heap.size=n:=⟨_,rfl⟩;replace H:=aM (H.out.alloc (.cells #[.int .i64 kd,.string tx,.float .f64 nx,.int .i64 i1,.int .i64 i2] 49));replace HV2:=aM (HV2.out.alloc (.cells #[.int .i64 kd,.string tx,.float .f64 nx,.int .i64 i1,.int .i64 i2] 49));have HTK:=aM (show(w1.alloc (.cells #[.int .i64 kd,.string tx,.float .f64 nx,.int .i64 i1,.int .i64 i2] 49)).heap[n3]? = some (.cells #[.int .i64 kd,.string tx,.float .f64 nx,.int .i64 i1,.int .i64 i2] 49 (0,0)) by have:=blk_new w1 (.cells #[.int .i64 kd,.string tx,.float .f64 nx,.int .i64 i1,.int .i64 i2] 49);rwa[hn3] at this);clear hb
 go_upto_block 0 with fail
 generalize w1.alloc _=w2 at H HV2 HTK|-;clear hn3;have HSZ:=aM (blk_lt HV2.out);have k0:=bC HTK.out 0
 by_cases h4:kd=4
 ·have hb4:(kd==4)=true:=beq_iff_eq.2 h4
  have hlt:=Env.not_end HE.out ha (by rw[HKD.out,h4];decide);have HK:=aM (show(E.tk a).k≠6 by rw[HKD.out,h4];decide);have OKK:Ok (c=0) .e (⟨23,tx,nx,0,false,[],[]⟩:Nd):= .atom (.inr (.inr (.inr (.inl rfl)))) (fun _=>⟨HSS.out,fun _=>by
   have:=HE.out.wt a hlt;rw[HKD.out,h4,HTX.out] at this;rcases this with⟨h,_⟩|⟨h,_⟩|⟨h,_⟩|⟨_,h⟩|h
   ·omega
   ·omega
   ·omega
   ·exact h
   ·omega,fun h=>absurd h (by simp),fun h=>absurd h (by simp),fun nm h=>by simp at h⟩)
  clear h4;go_wp2_with fail;refine(take_any HE.out H.out.s H.out.B ha).mono ?_;rw[if_neg HK.out];rintro e w3 ⟨rfl,h2⟩;have HTK2:=aM (show w3.heap[n3]? = _ from by
   obtain⟨cs,hg⟩:=H.out.s.typed;exact h2.k.k.blk HTK.out (blk_ne HTK.out hg (by decide)) (by simp))
  replace HV2:=aM (HV2.out.keep H.out.s h2);replace H:=aM (H.out.step h2);clear h2;have k1:=bC HTK2.out 1;have k2:=bC HTK2.out 2;obtain⟨z0,z1,z2,z3,z4,z5,z6⟩:=bC7 HV2.out;obtain⟨fz0,fz1,fz2,fz3,fz4,fz5,fz6⟩:=bF7 HV2.out;go_wp2_with fail;have HF:=aM (Tr.res H.out HV2.out rfl (Tr.leaf w3 (n0+1) 23 tx nx) HE.out HP.out HB0.out HN0.out (by omega));generalize (((((((w3.setCell ⟨n0,0,none⟩ (.int .i64 23)).setCell ⟨n0,1,none⟩ (.string tx)).setCell ⟨n0,2,none⟩ (.float .f64 nx)).setCell ⟨n0,3,none⟩ (.int .i64 0)).setCell ⟨n0,4,none⟩ (.bool false)).setCell ⟨n0,5,none⟩ (.slice none 0 0)).setCell ⟨n0,6,none⟩ (.slice none 0 0))=WF at HF|-;obtain⟨qq0,qq1,qq2,qq3,qq4,qq5,qq6⟩:=bC7 HF.out.2.2;refine bodyPost_ret (v:= .agg #[.int .i64 23,.string tx,.float .f64 nx,.int .i64 0,.bool false,.slice none 0 0,.slice none 0 0]) (by simp[results,Tryz.results121,go_sem,qq0,qq1,qq2,qq3,qq4,qq5,qq6]) rfl ?_;exact⟨⟨23,tx,nx,0,false,[],[]⟩,none,0,none,0,a+1,c,rfl,HF.out.2.1,OKK,trivial,⟨by omega,hlt,fun _ _=>by omega,fun h0=>⟨h0,by simp[wt_mk,wts]<;>omega⟩⟩,HF.out.1⟩
 ·have hb4:(kd==4)=false:=beq_eq_false_iff_ne.2 h4
  clear h4
  by_cases h5:kd=5
  ·have hb5:(kd==5)=true:=beq_iff_eq.2 h5
   have hlt:=Env.not_end HE.out ha (by rw[HKD.out,h5];decide);have HK:=aM (show(E.tk a).k≠6 by rw[HKD.out,h5];decide);have OKK:Ok (c=0) .e (⟨24,tx,0,0,false,[],[]⟩:Nd):=Ok.str HSS.out;clear h5;go_wp2_with fail;refine(take_any HE.out H.out.s H.out.B ha).mono ?_;rw[if_neg HK.out];rintro e w3 ⟨rfl,h2⟩;have HTK2:=aM (show w3.heap[n3]? = _ from by
    obtain⟨cs,hg⟩:=H.out.s.typed;exact h2.k.k.blk HTK.out (blk_ne HTK.out hg (by decide)) (by simp))
   replace HV2:=aM (HV2.out.keep H.out.s h2);replace H:=aM (H.out.step h2);clear h2;have k1:=bC HTK2.out 1;have k2:=bC HTK2.out 2;obtain⟨z0,z1,z2,z3,z4,z5,z6⟩:=bC7 HV2.out;obtain⟨fz0,fz1,fz2,fz3,fz4,fz5,fz6⟩:=bF7 HV2.out;go_wp2_with fail;have HF:=aM (Tr.res H.out HV2.out rfl (Tr.leaf w3 (n0+1) 24 tx 0) HE.out HP.out HB0.out HN0.out (by omega));generalize (((((((w3.setCell ⟨n0,0,none⟩ (.int .i64 24)).setCell ⟨n0,1,none⟩ (.string tx)).setCell ⟨n0,2,none⟩ (.float .f64 0)).setCell ⟨n0,3,none⟩ (.int .i64 0)).setCell ⟨n0,4,none⟩ (.bool false)).setCell ⟨n0,5,none⟩ (.slice none 0 0)).setCell ⟨n0,6,none⟩ (.slice none 0 0))=WF at HF|-;obtain⟨qq0,qq1,qq2,qq3,qq4,qq5,qq6⟩:=bC7 HF.out.2.2;refine bodyPost_ret (v:= .agg #[.int .i64 24,.string tx,.float .f64 0,.int .i64 0,.bool false,.slice none 0 0,.slice none 0 0]) (by simp[results,Tryz.results121,go_sem,qq0,qq1,qq2,qq3,qq4,qq5,qq6]) rfl ?_;exact⟨⟨24,tx,0,0,false,[],[]⟩,none,0,none,0,a+1,c,rfl,HF.out.2.1,OKK,trivial,⟨by omega,hlt,fun _ _=>by omega,fun h0=>⟨h0,by simp[wt_mk,wts]<;>omega⟩⟩,HF.out.1⟩
  ·have hb5:(kd==5)=false:=beq_eq_false_iff_ne.2 h5
   clear h5;go_wp2_with fail;refine(hasWord_any HE.out H.out.s H.out.B ha _).mono ?_;rintro e w3 ⟨b1,a1,rfl,hb1,p1,p2,hp⟩;replace HV2:=aM (HV2.out.keep H.out.s hp);replace H:=aM (H.out.step hp);clear hp hb1
   cases b1 with
   |true=>
    obtain⟨rfl,hlt⟩:=p1 rfl;clear p1 p2;have OKK:Ok (c=0) .e (⟨20,⟨#[]⟩,0,0,false,[],[]⟩:Nd):= .atom (by simp) (fun _=>Tx.bare (by decide));obtain⟨z0,z1,z2,z3,z4,z5,z6⟩:=bC7 HV2.out;obtain⟨fz0,fz1,fz2,fz3,fz4,fz5,fz6⟩:=bF7 HV2.out;go_wp2_with fail;have HF:=aM (Tr.res H.out HV2.out rfl (Tr.leaf w3 (n0+1) 20 ⟨#[]⟩ 0) HE.out HP.out HB0.out HN0.out (by omega));generalize (((((((w3.setCell ⟨n0,0,none⟩ (.int .i64 20)).setCell ⟨n0,1,none⟩ (.string ⟨#[]⟩)).setCell ⟨n0,2,none⟩ (.float .f64 0)).setCell ⟨n0,3,none⟩ (.int .i64 0)).setCell ⟨n0,4,none⟩ (.bool false)).setCell ⟨n0,5,none⟩ (.slice none 0 0)).setCell ⟨n0,6,none⟩ (.slice none 0 0))=WF at HF|-;obtain⟨qq0,qq1,qq2,qq3,qq4,qq5,qq6⟩:=bC7 HF.out.2.2;refine bodyPost_ret (v:= .agg #[.int .i64 20,.string ⟨#[]⟩,.float .f64 0,.int .i64 0,.bool false,.slice none 0 0,.slice none 0 0]) (by simp[results,Tryz.results121,go_sem,qq0,qq1,qq2,qq3,qq4,qq5,qq6]) rfl ?_;exact⟨⟨20,⟨#[]⟩,0,0,false,[],[]⟩,none,0,none,0,a+1,c,rfl,HF.out.2.1,OKK,trivial,⟨by omega,hlt,fun _ _=>by omega,fun h0=>⟨h0,by simp[wt_mk,wts]<;>omega⟩⟩,HF.out.1⟩
   |false=>
    obtain rfl:=(p2 rfl).symm;clear p1 p2;go_wp2_with fail;refine(hasWord_any HE.out H.out.s H.out.B ha _).mono ?_;rintro e w3 ⟨b1,a1,rfl,hb1,p1,p2,hp⟩;replace HV2:=aM (HV2.out.keep H.out.s hp);replace H:=aM (H.out.step hp);clear hp hb1
    cases b1 with
    |true=>
     obtain⟨rfl,hlt⟩:=p1 rfl;clear p1 p2;have OKK:Ok (c=0) .e (⟨21,⟨#[]⟩,0,0,false,[],[]⟩:Nd):= .atom (by simp) (fun _=>Tx.bare (by decide));obtain⟨z0,z1,z2,z3,z4,z5,z6⟩:=bC7 HV2.out;obtain⟨fz0,fz1,fz2,fz3,fz4,fz5,fz6⟩:=bF7 HV2.out;go_wp2_with fail;have HF:=aM (Tr.res H.out HV2.out rfl (Tr.leaf w3 (n0+1) 21 ⟨#[]⟩ 0) HE.out HP.out HB0.out HN0.out (by omega));generalize (((((((w3.setCell ⟨n0,0,none⟩ (.int .i64 21)).setCell ⟨n0,1,none⟩ (.string ⟨#[]⟩)).setCell ⟨n0,2,none⟩ (.float .f64 0)).setCell ⟨n0,3,none⟩ (.int .i64 0)).setCell ⟨n0,4,none⟩ (.bool false)).setCell ⟨n0,5,none⟩ (.slice none 0 0)).setCell ⟨n0,6,none⟩ (.slice none 0 0))=WF at HF|-;obtain⟨qq0,qq1,qq2,qq3,qq4,qq5,qq6⟩:=bC7 HF.out.2.2;refine bodyPost_ret (v:= .agg #[.int .i64 21,.string ⟨#[]⟩,.float .f64 0,.int .i64 0,.bool false,.slice none 0 0,.slice none 0 0]) (by simp[results,Tryz.results121,go_sem,qq0,qq1,qq2,qq3,qq4,qq5,qq6]) rfl ?_;exact⟨⟨21,⟨#[]⟩,0,0,false,[],[]⟩,none,0,none,0,a+1,c,rfl,HF.out.2.1,OKK,trivial,⟨by omega,hlt,fun _ _=>by omega,fun h0=>⟨h0,by simp[wt_mk,wts]<;>omega⟩⟩,HF.out.1⟩
    |false=>
     obtain rfl:=(p2 rfl).symm;clear p1 p2;go_wp2_with fail;refine(hasWord_any HE.out H.out.s H.out.B ha _).mono ?_;rintro e w3 ⟨b1,a1,rfl,hb1,p1,p2,hp⟩;replace HV2:=aM (HV2.out.keep H.out.s hp);replace H:=aM (H.out.step hp);clear hp hb1
     cases b1 with
     |true=>
      obtain⟨rfl,hlt⟩:=p1 rfl;clear p1 p2;have OKK:Ok (c=0) .e (⟨22,⟨#[]⟩,0,0,false,[],[]⟩:Nd):= .atom (by simp) (fun _=>Tx.bare (by decide));obtain⟨z0,z1,z2,z3,z4,z5,z6⟩:=bC7 HV2.out;obtain⟨fz0,fz1,fz2,fz3,fz4,fz5,fz6⟩:=bF7 HV2.out;go_wp2_with fail;have HF:=aM (Tr.res H.out HV2.out rfl (Tr.leaf w3 (n0+1) 22 ⟨#[]⟩ 0) HE.out HP.out HB0.out HN0.out (by omega));generalize (((((((w3.setCell ⟨n0,0,none⟩ (.int .i64 22)).setCell ⟨n0,1,none⟩ (.string ⟨#[]⟩)).setCell ⟨n0,2,none⟩ (.float .f64 0)).setCell ⟨n0,3,none⟩ (.int .i64 0)).setCell ⟨n0,4,none⟩ (.bool false)).setCell ⟨n0,5,none⟩ (.slice none 0 0)).setCell ⟨n0,6,none⟩ (.slice none 0 0))=WF at HF|-;obtain⟨qq0,qq1,qq2,qq3,qq4,qq5,qq6⟩:=bC7 HF.out.2.2;refine bodyPost_ret (v:= .agg #[.int .i64 22,.string ⟨#[]⟩,.float .f64 0,.int .i64 0,.bool false,.slice none 0 0,.slice none 0 0]) (by simp[results,Tryz.results121,go_sem,qq0,qq1,qq2,qq3,qq4,qq5,qq6]) rfl ?_;exact⟨⟨22,⟨#[]⟩,0,0,false,[],[]⟩,none,0,none,0,a+1,c,rfl,HF.out.2.1,OKK,trivial,⟨by omega,hlt,fun _ _=>by omega,fun h0=>⟨h0,by simp[wt_mk,wts]<;>omega⟩⟩,HF.out.1⟩
     |false=>
      obtain rfl:=(p2 rfl).symm;clear p1 p2;go_wp2_with fail;refine(isSign_q HE.out H.out.s ha _).mono ?_;rintro e w4 ⟨rfl,hb⟩;replace HV2:=aM (HV2.out.below hb);replace H:=aM (H.out.below hb);clear hb;generalize E.isS a ⟨#[123]⟩=b1;replace HSZ:=aM (blk_lt HV2.out)
      cases b1 with
      |true=>
       go_wp2_with fail;refine(HT.out _ _ H.out.s H.out.B).mono ?_;rintro e w5 ⟨x,An,cn,Ak,ck,a2,c1,rfl,tx,ox,_,mx,hp⟩;have MVV:=mx;replace HV2:=aM (HV2.out.keep H.out.s hp);replace H:=aM (H.out.step hp);have TX:=aM (tx.lower (b':=n0+1) HSZ.out);have OX:=aM ox;have MX:=aM mx;clear tx ox mx hp;obtain⟨z0,z1,z2,z3,z4,z5,z6⟩:=bC7 HV2.out;obtain⟨fz0,fz1,fz2,fz3,fz4,fz5,fz6⟩:=bF7 HV2.out;go_wp2_with fail;have HF:=aM (Tr.res H.out HV2.out rfl TX.out HE.out HP.out HB0.out HN0.out (by omega));generalize (((((((w5.setCell ⟨n0,0,none⟩ (.int .i64 x.k)).setCell ⟨n0,1,none⟩ (.string x.s)).setCell ⟨n0,2,none⟩ (.float .f64 x.x)).setCell ⟨n0,3,none⟩ (.int .i64 x.n)).setCell ⟨n0,4,none⟩ (.bool x.b)).setCell ⟨n0,5,none⟩ (.slice An x.names.length cn)).setCell ⟨n0,6,none⟩ (.slice Ak x.kids.length ck))=WF at HF|-;obtain⟨qq0,qq1,qq2,qq3,qq4,qq5,qq6⟩:=bC7 HF.out.2.2;refine bodyPost_ret (v:= .agg #[.int .i64 x.k,.string x.s,.float .f64 x.x,.int .i64 x.n,.bool x.b,.slice An x.names.length cn,.slice Ak x.kids.length ck]) (by simp[results,Tryz.results121,go_sem,qq0,qq1,qq2,qq3,qq4,qq5,qq6]) rfl ?_;exact⟨x,An,cn,Ak,ck,a2,c1,rfl,HF.out.2.1,OX.out,trivial,MVV,HF.out.1⟩
      |false=>
       go_wp2_with fail;refine(hasWord_any HE.out H.out.s H.out.B ha _).mono ?_;rintro e w5 ⟨b1,a2,rfl,hb1,p1,p2,hp⟩;replace HV2:=aM (HV2.out.keep H.out.s hp);replace H:=aM (H.out.step hp);clear hp hb1;replace HSZ:=aM (blk_lt HV2.out)
       cases b1 with
       |true=>
        obtain⟨rfl,hlt⟩:=p1 rfl;clear p1 p2;go_wp2_with fail;refine((HIH.out (a+1) (by omega) hlt).body w5 _ c (some ⟨w5.heap.size,0,none⟩) 0 [] ((Pt.start H.out.s H.out.B).alloc _) H.out.B.size H.out.s (NR.lit0 w5 w5.heap.size (Nat.le_refl _)) (fun nm h=>by simp at h) (by simp)).mono ?_;rintro e w6 ⟨x,An,cn,Ak,ck,a2,c1,rfl,tx,ox,k26,mx,hp,_⟩;clear k26;have MVV:Mv E a c a2 c1 (x.wt+1) 0:=⟨by have:=mx.le;omega,mx.lt,fun _ _=>by have:=mx.le;omega,fun h0=>⟨(mx.good h0).1,by have:=(mx.good h0).2;omega⟩⟩;replace HV2:=aM (HV2.out.keep H.out.s hp);replace H:=aM (H.out.step hp);have TX:=aM (tx.lower (b':=n0+1) HSZ.out);have OX:=aM ox;have MX:=aM mx;clear tx ox mx hp;obtain⟨z0,z1,z2,z3,z4,z5,z6⟩:=bC7 HV2.out;obtain⟨fz0,fz1,fz2,fz3,fz4,fz5,fz6⟩:=bF7 HV2.out;go_wp2_with fail;have HF:=aM (Tr.res H.out HV2.out rfl TX.out HE.out HP.out HB0.out HN0.out (by omega));generalize (((((((w6.setCell ⟨n0,0,none⟩ (.int .i64 x.k)).setCell ⟨n0,1,none⟩ (.string x.s)).setCell ⟨n0,2,none⟩ (.float .f64 x.x)).setCell ⟨n0,3,none⟩ (.int .i64 x.n)).setCell ⟨n0,4,none⟩ (.bool x.b)).setCell ⟨n0,5,none⟩ (.slice An x.names.length cn)).setCell ⟨n0,6,none⟩ (.slice Ak x.kids.length ck))=WF at HF|-;obtain⟨qq0,qq1,qq2,qq3,qq4,qq5,qq6⟩:=bC7 HF.out.2.2;refine bodyPost_ret (v:= .agg #[.int .i64 x.k,.string x.s,.float .f64 x.x,.int .i64 x.n,.bool x.b,.slice An x.names.length cn,.slice Ak x.kids.length ck]) (by simp[results,Tryz.results121,go_sem,qq0,qq1,qq2,qq3,qq4,qq5,qq6]) rfl ?_;exact⟨x,An,cn,Ak,ck,a2,c1,rfl,HF.out.2.1,OX.out,trivial,MVV,HF.out.1⟩
       |false=>
        obtain rfl:=(p2 rfl).symm;clear p1 p2;go_wp2_with fail;refine(hasSign_any HE.out H.out.s H.out.B ha _).mono ?_;rintro e w5 ⟨b1,a1,rfl,hb1,p1,p2,hp⟩;replace HV2:=aM (HV2.out.keep H.out.s hp);replace H:=aM (H.out.step hp);clear hp hb1;replace HSZ:=aM (blk_lt HV2.out)
        cases b1 with
        |true=>
         obtain⟨rfl,hlt⟩:=p1 rfl;clear p1 p2;have OKK:Ok (c=0) .e (⟨25,⟨#[]⟩,0,0,false,[],[]⟩:Nd):= .atom (by simp) (fun _=>Tx.bare (by decide));obtain⟨va,lo,g3,g5⟩:∃(va:Bool) (lo:Int),w5.cell? ⟨E.g,3,none⟩=some (.bool va)/\w5.cell? ⟨E.g,5,none⟩=some (.bool true):=by
          obtain⟨va,lo,g1,g2⟩:=H.out.s;exact⟨va,lo,bC g1 3,bC g1 5⟩
         cases va with
         |true=>
          obtain⟨z0,z1,z2,z3,z4,z5,z6⟩:=bC7 HV2.out;obtain⟨fz0,fz1,fz2,fz3,fz4,fz5,fz6⟩:=bF7 HV2.out;go_wp2_with fail;have HF:=aM (Tr.res H.out HV2.out rfl (Tr.leaf w5 (n0+1) 25 ⟨#[]⟩ 0) HE.out HP.out HB0.out HN0.out (by omega));generalize (((((((w5.setCell ⟨n0,0,none⟩ (.int .i64 25)).setCell ⟨n0,1,none⟩ (.string ⟨#[]⟩)).setCell ⟨n0,2,none⟩ (.float .f64 0)).setCell ⟨n0,3,none⟩ (.int .i64 0)).setCell ⟨n0,4,none⟩ (.bool false)).setCell ⟨n0,5,none⟩ (.slice none 0 0)).setCell ⟨n0,6,none⟩ (.slice none 0 0))=WF at HF|-;obtain⟨qq0,qq1,qq2,qq3,qq4,qq5,qq6⟩:=bC7 HF.out.2.2;refine bodyPost_ret (v:= .agg #[.int .i64 25,.string ⟨#[]⟩,.float .f64 0,.int .i64 0,.bool false,.slice none 0 0,.slice none 0 0]) (by simp[results,Tryz.results121,go_sem,qq0,qq1,qq2,qq3,qq4,qq5,qq6]) rfl ?_;exact⟨⟨25,⟨#[]⟩,0,0,false,[],[]⟩,none,0,none,0,a+1,c,rfl,HF.out.2.1,OKK,trivial,⟨by omega,hlt,fun _ _=>by omega,fun h0=>⟨h0,by simp[wt_mk,wts]<;>omega⟩⟩,HF.out.1⟩
         |false=>
          obtain⟨z0,z1,z2,z3,z4,z5,z6⟩:=bC7 HV2.out;obtain⟨fz0,fz1,fz2,fz3,fz4,fz5,fz6⟩:=bF7 HV2.out;go_wp2_with fail;have HF:=aM (Tr.res H.out HV2.out rfl (Tr.leaf w5 (n0+1) 25 ⟨#[]⟩ 0) HE.out HP.out HB0.out HN0.out (by omega));generalize (((((((w5.setCell ⟨n0,0,none⟩ (.int .i64 25)).setCell ⟨n0,1,none⟩ (.string ⟨#[]⟩)).setCell ⟨n0,2,none⟩ (.float .f64 0)).setCell ⟨n0,3,none⟩ (.int .i64 0)).setCell ⟨n0,4,none⟩ (.bool false)).setCell ⟨n0,5,none⟩ (.slice none 0 0)).setCell ⟨n0,6,none⟩ (.slice none 0 0))=WF at HF|-;obtain⟨qq0,qq1,qq2,qq3,qq4,qq5,qq6⟩:=bC7 HF.out.2.2;refine bodyPost_ret (v:= .agg #[.int .i64 25,.string ⟨#[]⟩,.float .f64 0,.int .i64 0,.bool false,.slice none 0 0,.slice none 0 0]) (by simp[results,Tryz.results121,go_sem,qq0,qq1,qq2,qq3,qq4,qq5,qq6]) rfl ?_;exact⟨⟨25,⟨#[]⟩,0,0,false,[],[]⟩,none,0,none,0,a+1,c,rfl,HF.out.2.1,OKK,trivial,⟨by omega,hlt,fun _ _=>by omega,fun h0=>⟨h0,by simp[wt_mk,wts]<;>omega⟩⟩,HF.out.1⟩
        |false=>
         obtain rfl:=(p2 rfl).symm;clear p1 p2;go_wp2_with fail;refine(HPR.out _ _ H.out.s H.out.B).mono ?_;rintro e w6 ⟨x,An,cn,Ak,ck,a2,c1,rfl,tx,ox,_,mx,hp⟩;have MVV:=mx;replace HV2:=aM (HV2.out.keep H.out.s hp);replace H:=aM (H.out.step hp);have TX:=aM (tx.lower (b':=n0+1) HSZ.out);have OX:=aM ox;have MX:=aM mx;clear tx ox mx hp;obtain⟨z0,z1,z2,z3,z4,z5,z6⟩:=bC7 HV2.out;obtain⟨fz0,fz1,fz2,fz3,fz4,fz5,fz6⟩:=bF7 HV2.out;go_wp2_with fail;have HF:=aM (Tr.res H.out HV2.out rfl TX.out HE.out HP.out HB0.out HN0.out (by omega));generalize (((((((w6.setCell ⟨n0,0,none⟩ (.int .i64 x.k)).setCell ⟨n0,1,none⟩ (.string x.s)).setCell ⟨n0,2,none⟩ (.float .f64 x.x)).setCell ⟨n0,3,none⟩ (.int .i64 x.n)).setCell ⟨n0,4,none⟩ (.bool x.b)).setCell ⟨n0,5,none⟩ (.slice An x.names.length cn)).setCell ⟨n0,6,none⟩ (.slice Ak x.kids.length ck))=WF at HF|-;obtain⟨qq0,qq1,qq2,qq3,qq4,qq5,qq6⟩:=bC7 HF.out.2.2;refine bodyPost_ret (v:= .agg #[.int .i64 x.k,.string x.s,.float .f64 x.x,.int .i64 x.n,.bool x.b,.slice An x.names.length cn,.slice Ak x.kids.length ck]) (by simp[results,Tryz.results121,go_sem,qq0,qq1,qq2,qq3,qq4,qq5,qq6]) rfl ?_;exact⟨x,An,cn,Ak,ck,a2,c1,rfl,HF.out.2.1,OX.out,trivial,MVV,HF.out.1⟩
end
section
variable {E:Env} {w wr w1 w2:World} {a a' n0 n1 b b2 q:Nat} {c c':Int} {x y:Nd} {v vn vk un uk:Value} {cs:Array Value} {xs:List Nd}
variable {ops:Array Oper} {rest:List Oper} {o:Oper} {act:Act} {Q:Exit->Act->World->Prop} {K:Act->World->Prop}
theorem KR.push(hgd:o.guard=none)(s p:Operand)(ho:o.op = .call {callee:= .builtin .append,args:= #[s,p],argTypes:= #[25,25]})
  (hs:act.eval s=v) (h:KR wr b v xs) {N:Nat} (hp:act.eval p = .slice (some ⟨N,0,none⟩) 1 1) (hN:wr.heap.size=N) (hy:Tr wr b2 y un uk) (hb:b<=b2) (hv:∀k,v.ownBlock=some k->k<b2)
  (hb0:b<=wr.heap.size) (hl:xs.length<=100000)
  (h0:Ps E w a' c') (hE:E.Fine) (hB:E.w0.heap.size<=w.heap.size) (hwb:w.heap.size<=b) (hP:Pt E w wr a c)
  (hK:∀A1 c1 w1,KR w1 b (.slice A1 (xs.length+1) c1) (xs++[y])->Pt E w w1 a c->(∀q cs,q<b->Vb wr q cs->Vb w1 q cs)->wpList Tryz.prog ops Q rest (act.put o.dst (.slice A1 (xs.length+1) c1)) w1):
  wpList Tryz.prog ops Q (o::rest) act (wr.alloc (.cells #[.int .i64 y.k,.string y.s,.float .f64 y.x,.int .i64 y.n,.bool y.b,un,uk] 27)):=by
 subst hN;refine Kd.R_append (P:=Tryz.prog) nodeK (w0:=wr) b hgd s p 25 27 (.agg #[.int .i64 0,.string ⟨#[]⟩,.float .f64 0,.int .i64 0,.bool false,.slice none 0 0,.slice none 0 0]) 96 ho Tryz.underlying25 info27 rfl (by decide) (by decide) v xs y [.int .i64 y.k,.string y.s,.float .f64 y.x,.int .i64 y.n,.bool y.b,un,uk] (fun _=>True) (fun k=>some k≠v.ownBlock) hs hp
  (nodeK.M_lower hb (nodeK.M_mono (fun k hk e=> ?_) (nodeK.M_bound hy))) (fun k hk=>⟨trivial,hk⟩) (fun k hk=>trivial) h (bR _ _) hb0 (by omega) ?_
 ·have:=hv _ e.symm
  have:=hk.2.1;omega
 ·intro v1 w1 hR _ hg _
  obtain⟨A1,c1,rfl⟩:=Kd.R_slice hR;rw[List.length_append,List.length_singleton] at hR|-;have hr:∀k,v.ownBlock=some k->b<=k:=fun k hk=>Kd.R_base h k hk
  exact hK A1 c1 w1 hR (hP.grown h0 hE hB hg (fun k hk=>Nat.le_trans hwb (hr k hk))) (fun q cs hq hV=>hV.grown hg hr hq)
set_option maxRecDepth 10000 in
set_option maxHeartbeats 4000000 in
theorem list_any(hE:E.Fine)(IH:∀b,a<b->b<E.n->All E b)(ha:a<E.n)(hX:NC E 94 #[.pointer (some ⟨E.g,0,none⟩),.int .i64 0] a .e 1 0 (fun _=>True)):LC E 92 a:=by
 intro w c h hB;have HE:=aM hE;have HIH:=aM IH;have HX:=aM hX;have hpos:=hE.pos;have hlen:=hE.len;have HP:=aM h;have HB0:=aM hB.size;have H:=aM (Pt.start h hB);clear hE IH h hB hX;go_enter Tryz.func92,Tryz.ntmps92
 go_wp2_with fail;refine(HX.out _ _ H.out.s H.out.B).mono ?_;rintro e w1 ⟨x,An,cn,Ak,ck,a1,c1,rfl,tx,ox,_,mx,hp⟩;replace H:=aM (H.out.step hp);have KX:=aM (KR.lit1 tx H.out.size);have OX:=aM ox;have h1:=mx.le;have h2:=mx.lt;have PR:=aM (mx.pr rfl);have G:=aM mx.good;clear tx ox mx hp;replace H:=aM (H.out.alloc (.cells #[.int .i64 x.k,.string x.s,.float .f64 x.x,.int .i64 x.n,.bool x.b,(.slice An x.names.length cn),(.slice Ak x.kids.length ck)] 27));go_wp2_with fail;go_loopg [3] (E.n-a1) (fun k v wr=>∃(a':Nat) (c':Int) (A:Option Addr) (cp:Nat) (xs:List Nd),v = .slice A xs.length cp/\k=E.n-a'/\a<=a'/\a'<E.n/\xs.length<=a'+1/\Aside0 (a+1<E.n->a<a')/\Aside0 (∀x∈xs,Ok (c'=0) .e x)/\Aside0 (c'=0->c=0/\wts xs+1<=3*(a'-a))/\Aside0 (Pt E w wr a' c')/\Aside0 (KR wr w.heap.size (.slice A xs.length cp) xs))
 case atStart=>exact⟨a1,c1,_,1,[x],rfl,rfl,h1,h2,by simp,PR,⟨fun y hy=>by have:=List.mem_singleton.1 hy;subst this;exact OX.out⟩,⟨fun h0=>⟨(G.out h0).1,by have:=(G.out h0).2;simp[wts];omega⟩⟩,H,KX⟩
 case round=>
  clear H KX OX G PR h1 h2;obtain⟨a2,c2,A,cp,xs,rfl,hk,h1,h2,hl,PR,OX,G,H,KX⟩:=hrel;go_wp2_with fail;refine(hasSign_any HE.out H.out.s H.out.B h2 _).mono ?_;rintro e w2 ⟨b1,a3,rfl,_,p1,p2,hp⟩;replace KX:=aM (KX.out.keep H.out.s hp);replace H:=aM (H.out.step hp);clear hp
  cases b1 with
  |false=>
   obtain rfl:=(p2 rfl).symm;clear p1 p2;go_wp2_with fail;go_ret;exact⟨xs,A,cp,a2,c2,rfl,KX.out,OX.out,by omega,⟨h1,h2,fun _=>PR.out,G.out⟩,H.out⟩
  |true=>
   obtain⟨rfl,hlt⟩:=p1 rfl;clear p1 p2;have HV:=aM KX.out.lt;have HSZ:=aM H.out.size;go_wp2_with fail;refine((HIH.out (a2+1) (by omega) hlt).expression 0 (by decide) _ _ H.out.s H.out.B).mono ?_;rintro e w3 ⟨y,Yn,yn,Yk,yk,a4,c4,rfl,ty,oy,_,my,hp⟩;replace KX:=aM (KX.out.keep H.out.s hp);replace H:=aM (H.out.step hp);have TY:=aM ty;have OY:=aM oy;have MY:=aM my;clear ty oy my hp;go_wp2_with (at_builtin;refine KR.push rfl (.tmp 9) (.tmp 12) (by rfl) (by rfl) KX.out (by rfl) (by rfl) TY.out HSZ.out HV.out H.out.size (by omega) HP.out HE.out HB0.out (Nat.le_refl _) H.out ?_;intro A5 n5 w5 hN5 hP5 _;have K5:=aM hN5;have H5:=aM hP5;clear hN5 hP5)
   have hle:=MY.out.le;have l5:xs.length+1=(xs++[y]).length:=by simp
   rw[l5] at K5;go_roundg (E.n-a4)
   case measure=>have:=MY.out.lt;omega
   case rel=>
    refine⟨a4,c4,A5,n5,xs++[y],by rw[<-l5],rfl,by omega,MY.out.lt,by rw[<-l5];omega,⟨fun _=>by omega⟩,⟨fun z hz=> ?_⟩,⟨fun h0=> ?_⟩,H5,K5⟩
    ·rcases List.mem_append.1 hz with hz|hz
     ·exact(OX.out z hz).mono (fun h0=>(MY.out.good h0).1)
     ·have:=List.mem_singleton.1 hz
      subst this;exact OY.out
    ·obtain⟨r1,r2⟩:=MY.out.good h0
     obtain⟨r3,r4⟩:=G.out r1;refine⟨r3,?_⟩;rw[wts_append];simp only[wts];omega
end
end Go.Proofs.YtoimaaonloibfaaGreatDoor.Pa
namespace Go.Proofs.YtoimaaonloibfaaGreatDoor.Pa
open Go.RowKit W1 W2 W3 PF Wf Lx
attribute [local go_sem] run_store_float fld49_0 fld49_1 fld49_3 min2_int min_two
section
variable {E:Env} {w wr w1 w2:World} {a a' n0 n1 b q:Nat} {c c':Int}
set_option maxRecDepth 10000 in
set_option maxHeartbeats 1500000 in
theorem field_any(hE:E.Fine)(IH:∀b,a<b->b<E.n->All E b)(ha:a<E.n)(hX:NC E 94 #[.pointer (some ⟨E.g,0,none⟩),.int .i64 0] a .e 1 0 (fun _=>True)):NC E 160 #[.pointer (some ⟨E.g,0,none⟩)] a .f 0 0 (fun _=>True):=by
 intro w c h hB;have HE:=aM hE;have HIH:=aM IH;have HX:=aM hX;have hpos:=hE.pos;have hlen:=hE.len;have HP:=aM h;have HB0:=aM hB.size;obtain⟨n0,hn0⟩:∃n0,w.heap.size=n0:=⟨_,rfl⟩;have HN0:=aM hn0;have H:=aM ((Pt.start h hB).alloc (.cells #[.int .i64 0,.string ⟨#[]⟩,.float .f64 0,.int .i64 0,.bool false,.slice none 0 0,.slice none 0 0] 27));have HV2:=aM (show Vb (w.alloc (.cells #[.int .i64 0,.string ⟨#[]⟩,.float .f64 0,.int .i64 0,.bool false,.slice none 0 0,.slice none 0 0] 27)) n0 #[.int .i64 0,.string ⟨#[]⟩,.float .f64 0,.int .i64 0,.bool false,.slice none 0 0,.slice none 0 0] by have:=Vb.new w #[.int .i64 0,.string ⟨#[]⟩,.float .f64 0,.int .i64 0,.bool false,.slice none 0 0,.slice none 0 0];rwa[hn0] at this);clear hE IH h hB hX;go_enter Tryz.func160,Tryz.ntmps160
 go_wp2_with fail;generalize w.alloc _=wz at H HV2|-;clear hn0;refine(hasSign_any HE.out H.out.s H.out.B ha _).mono ?_;rintro e w1 ⟨b1,a1,rfl,_,p1,p2,hp⟩;replace HV2:=aM (HV2.out.keep H.out.s hp);replace H:=aM (H.out.step hp);clear hp
 cases b1 with
 |true=>
  obtain⟨rfl,hlt⟩:=p1 rfl;clear p1 p2;have HSZ:=aM (blk_lt HV2.out);go_wp2_with fail;refine((HIH.out (a+1) (by omega) hlt).expression 0 (by decide) _ _ H.out.s H.out.B).mono ?_;rintro e w2 ⟨x,An,cn,Ak,ck,a2,c2,rfl,tx,ox,_,mx,hp⟩;replace HV2:=aM (HV2.out.keep H.out.s hp);replace H:=aM (H.out.step hp);have TX:=aM ((tx.lower (b':=n0+1) HSZ.out).alloc (.cells #[.int .i64 x.k,.string x.s,.float .f64 x.x,.int .i64 x.n,.bool x.b,(.slice An x.names.length cn),(.slice Ak x.kids.length ck)] 27));have OX:=aM ox;have MX:=aM mx;have hA:=mx.lt;obtain⟨n3,hn3⟩:∃n,w2.heap.size=n:=⟨_,rfl⟩;have HN3:=aM (show n0<n3 by rw[<-hn3];exact blk_lt HV2.out);have HV3:=aM (show Vb (w2.alloc (.cells #[.int .i64 x.k,.string x.s,.float .f64 x.x,.int .i64 x.n,.bool x.b,(.slice An x.names.length cn),(.slice Ak x.kids.length ck)] 27)) n3 #[.int .i64 x.k,.string x.s,.float .f64 x.x,.int .i64 x.n,.bool x.b,(.slice An x.names.length cn),(.slice Ak x.kids.length ck)] by have:=Vb.new w2 #[.int .i64 x.k,.string x.s,.float .f64 x.x,.int .i64 x.n,.bool x.b,(.slice An x.names.length cn),(.slice Ak x.kids.length ck)];rwa[hn3] at this);replace HV2:=aM (HV2.out.alloc (.cells #[.int .i64 x.k,.string x.s,.float .f64 x.x,.int .i64 x.n,.bool x.b,(.slice An x.names.length cn),(.slice Ak x.kids.length ck)] 27));replace H:=aM (H.out.alloc (.cells #[.int .i64 x.k,.string x.s,.float .f64 x.x,.int .i64 x.n,.bool x.b,(.slice An x.names.length cn),(.slice Ak x.kids.length ck)] 27));clear tx ox mx hp;go_wp2_with fail;generalize w2.alloc _=w3 at H HV2 HV3 TX|-;clear hn3;refine(sign_any HE.out H.out.s H.out.B hA _).mono ?_;rintro e w4 ⟨a3,c3,rfl,q1,q2,q3,q4,hp⟩;replace HV2:=aM (HV2.out.keep H.out.s hp);replace HV3:=aM (HV3.out.keep H.out.s hp);replace TX:=aM (TX.out.keep H.out.s hp);replace H:=aM (H.out.step hp);have Q4:=aM q4;clear hp q4;go_wp2_with fail;refine(sign_any HE.out H.out.s H.out.B q2 _).mono ?_;rintro e w5 ⟨a5,c5,rfl,r1,hA,r3,r4,hp⟩;replace HV2:=aM (HV2.out.keep H.out.s hp);replace HV3:=aM (HV3.out.keep H.out.s hp);replace TX:=aM (TX.out.keep H.out.s hp);replace H:=aM (H.out.step hp);have hle:=MX.out.le;have G:=aM (show c5=0->c=0/\x.wt+1<=3*(a5-a) from fun h0=>⟨(MX.out.good (Q4.out (r4 h0).1).1).1,by have:=(MX.out.good (Q4.out (r4 h0).1).1).2;omega⟩);replace OX:=aM (OX.out.mono (fun h0:c5=0=>(Q4.out (r4 h0).1).1));clear hp r4 MX Q4;obtain⟨y0,y1,y2,y3,y4,y5,y6⟩:=bC7 HV3.out;replace H:=aM H.out.drew;replace HV2:=aM HV2.out.drew;replace HV3:=aM HV3.out.drew;replace TX:=aM TX.out.drew;have HN:=aM ((HIH.out a5 (by omega) hA).expression 0 (by decide) _ _ H.out.s H.out.B);have HSZ:=aM (blk_lt HV3.out);go_upto_region 5 with fail
  go_region_law (go_simp;go_at_call 94;refine HN.out.mono ?_;rintro e w8 ⟨z,Zn,zn,Zk,zk,a4,c4,rfl,tz,oz,_,mz,hp⟩;have H2:=aM (H.out.step hp);have U2:=aM (HV2.out.keep H.out.s hp);have U3:=aM (HV3.out.keep H.out.s hp);have TX2:=aM (TX.out.keep H.out.s hp);have r0:=bC U3.out 0;have r1:=bC U3.out 1;have r2:=bC U3.out 2;have r3:=bC U3.out 3;have r4:=bC U3.out 4;have r5:=bC U3.out 5;have r6:=bC U3.out 6;have OZ:=aM oz;have MZ:=aM mz;have H3:=aM (H2.out.alloc (.cells #[.int .i64 x.k,.string x.s,.float .f64 x.x,.int .i64 x.n,.bool x.b,(.slice An x.names.length cn),(.slice Ak x.kids.length ck),.int .i64 z.k,.string z.s,.float .f64 z.x,.int .i64 z.n,.bool z.b,(.slice Zn z.names.length zn),(.slice Zk z.kids.length zk)] 27));have U4:=aM (U2.out.alloc (.cells #[.int .i64 x.k,.string x.s,.float .f64 x.x,.int .i64 x.n,.bool x.b,(.slice An x.names.length cn),(.slice Ak x.kids.length ck),.int .i64 z.k,.string z.s,.float .f64 z.x,.int .i64 z.n,.bool z.b,(.slice Zn z.names.length zn),(.slice Zk z.kids.length zk)] 27));have KY:=aM (KR.lit2 TX2.out (tz.lower (b':=n0+1) (by have:=HSZ.out;have:=HN3.out;omega)) (by have:=blk_lt U2.out;omega));have rr0:=bC U4.out 0;have rr1:=bC U4.out 1;have rr2:=bC U4.out 2;have rr3:=bC U4.out 3;have rr4:=bC U4.out 4;have rr5:=bC U4.out 5;have rr6:=bC U4.out 6;have fr0:=bF U4.out 0;have fr1:=bF U4.out 1;have fr2:=bF U4.out 2;have fr3:=bF U4.out 3;have fr4:=bF U4.out 4;have fr5:=bF U4.out 5;have fr6:=bF U4.out 6;clear hp oz mz tz)
  all_goals
   go_wp2
   have HF:=aM (Tr.res (x:=⟨36,⟨#[]⟩,0,0,false,[],[x,z]⟩) H3.out U4.out rfl (Tr.mk (NR.nil _ _) KY.out) HE.out HP.out HB0.out HN0.out (by omega));generalize ((((((((w8.alloc (.cells #[.int .i64 x.k,.string x.s,.float .f64 x.x,.int .i64 x.n,.bool x.b,(.slice An x.names.length cn),(.slice Ak x.kids.length ck),.int .i64 z.k,.string z.s,.float .f64 z.x,.int .i64 z.n,.bool z.b,(.slice Zn z.names.length zn),(.slice Zk z.kids.length zk)] 27)).setCell ⟨n0,0,none⟩ (.int .i64 36)).setCell ⟨n0,1,none⟩ (.string ⟨#[]⟩)).setCell ⟨n0,2,none⟩ (.float .f64 0)).setCell ⟨n0,3,none⟩ (.int .i64 0)).setCell ⟨n0,4,none⟩ (.bool false)).setCell ⟨n0,5,none⟩ (.slice none 0 0)).setCell ⟨n0,6,none⟩ (.slice (some ⟨w8.heap.size,0,none⟩) 2 2))=WF at HF|-;obtain⟨qq0,qq1,qq2,qq3,qq4,qq5,qq6⟩:=bC7 HF.out.2.2;refine bodyPost_ret (v:= .agg #[.int .i64 36,.string ⟨#[]⟩,.float .f64 0,.int .i64 0,.bool false,.slice none 0 0,.slice (some ⟨w8.heap.size,0,none⟩) 2 2]) (by simp[results,Tryz.results160,go_sem,qq0,qq1,qq2,qq3,qq4,qq5,qq6]) rfl ?_;exact⟨⟨36,⟨#[]⟩,0,0,false,[],[x,z]⟩,none,0,_,2,a4,c4,rfl,HF.out.2.1,.par rfl (fun _=>Tx.bare (by decide)) rfl (OX.out.mono (fun h0=>(MZ.out.good h0).1)) OZ.out,trivial,⟨by have:=MZ.out.le;omega,MZ.out.lt,fun _ _=>by have:=MZ.out.le;omega,fun h0=>⟨(G.out (MZ.out.good h0).1).1,by have:=(G.out (MZ.out.good h0).1).2;have:=(MZ.out.good h0).2;have:=MZ.out.le;simp[wt_mk,wts];omega⟩⟩,HF.out.1⟩
 |false=>
  obtain rfl:=(p2 rfl).symm;clear p1 p2;go_upto_region 6 with fail;obtain⟨d,hdd⟩:∃d,E.n-1=d:=⟨_,rfl⟩;obtain⟨f,hff⟩:∃f,a+1=f:=⟨_,rfl⟩;have qa:IntKind.i64.wrap ((a:Int)+1)=(f:Int):=by rw[IntWalk.i64_in _ (by omega)];omega
  have qn:IntKind.i64.wrap ((E.n:Int)-1)=(d:Int):=by rw[IntWalk.i64_in _ (by omega)];omega
  obtain⟨n3,hn3⟩:∃n,w1.heap.size=n:=⟨_,rfl⟩
  go_cut [4] from 19 to 36 (fun v wc=>∃(k:Int) (s:ByteArray) (x:Nat) (i1 i2:Int),v = .pointer (some ⟨n3,0,none⟩)/\Aside0 (wc.heap[n3]? = some (.cells #[.int .i64 k,.string s,.float .f64 x,.int .i64 i1,.int .i64 i2] 49 (0,0)))/\Aside0 (Pt E w wc a c)/\Aside0 (Vb wc n0 #[.int .i64 0,.string ⟨#[]⟩,.float .f64 0,.int .i64 0,.bool false,.slice none 0 0,.slice none 0 0]))
  case first=>
   by_cases hme:(d:Int)<(f:Int)
   ·have hme':d<f:=by omega
    have hdn:d<E.n:=by omega
    obtain⟨ad,hadd,x0,x1,x2,x3,x4⟩:=H.out.s.tok HE.out hdn;obtain⟨s0,s1⟩:w1.cell? ⟨E.g,0,none⟩=some (.slice (some E.ad) E.n E.cp)/\w1.cell? ⟨E.g,1,none⟩=some (.int .i64 (a:Int)):=by
     obtain⟨va,lo,g1,g2⟩:=H.out.s;exact⟨bC g1 0,bC g1 1⟩
    rw[hadd] at s0;have hltd:(d:Int)<(E.n:Int):=by omega
    have h0d:(0:Int)<=(d:Int):=by omega
    generalize E.tk d=t at x0 x1 x2 x3 x4
    go_region_held3 (fun w'=>w'.cell? ⟨E.g,0,none⟩=some (.slice (some ad) E.n E.cp)/\w'.cell? ⟨E.g,1,none⟩=some (.int .i64 (a:Int))/\w'.cell? (ad.add (d*5))=some (.int .i64 t.k)/\w'.cell? ⟨(ad.add (d*5)).block,(ad.add (d*5)).off+1,none⟩=some (.string t.s)/\w'.cell? ⟨(ad.add (d*5)).block,(ad.add (d*5)).off+2,none⟩=some (.float .f64 t.x)/\w'.cell? ⟨(ad.add (d*5)).block,(ad.add (d*5)).off+3,none⟩=some (.int .i64 t.f1)/\w'.cell? ⟨(ad.add (d*5)).block,(ad.add (d*5)).off+4,none⟩=some (.int .i64 t.f2)) (go_keep) (fail)
    all_goals
     go_wp2
     go_meet
     case rel=>exact⟨t.k,t.s,t.x,t.f1,t.f2,rfl,⟨by have:=blk_drew (blk_new w1 (.cells #[.int .i64 t.k,.string t.s,.float .f64 t.x,.int .i64 t.f1,.int .i64 t.f2] 49));rwa[hn3] at this⟩,⟨(H.out.alloc _).drew⟩,⟨(HV2.out.alloc _).drew⟩⟩
   ·have hme':¬d<f:=by omega
    have hdn:f<E.n:=by omega
    obtain⟨ad,hadd,x0,x1,x2,x3,x4⟩:=H.out.s.tok HE.out hdn;obtain⟨s0,s1⟩:w1.cell? ⟨E.g,0,none⟩=some (.slice (some E.ad) E.n E.cp)/\w1.cell? ⟨E.g,1,none⟩=some (.int .i64 (a:Int)):=by
     obtain⟨va,lo,g1,g2⟩:=H.out.s;exact⟨bC g1 0,bC g1 1⟩
    rw[hadd] at s0;have hltd:(f:Int)<(E.n:Int):=by omega
    have h0d:(0:Int)<=(f:Int):=by omega
    generalize E.tk f=t at x0 x1 x2 x3 x4
    go_region_held3 (fun w'=>w'.cell? ⟨E.g,0,none⟩=some (.slice (some ad) E.n E.cp)/\w'.cell? ⟨E.g,1,none⟩=some (.int .i64 (a:Int))/\w'.cell? (ad.add (f*5))=some (.int .i64 t.k)/\w'.cell? ⟨(ad.add (f*5)).block,(ad.add (f*5)).off+1,none⟩=some (.string t.s)/\w'.cell? ⟨(ad.add (f*5)).block,(ad.add (f*5)).off+2,none⟩=some (.float .f64 t.x)/\w'.cell? ⟨(ad.add (f*5)).block,(ad.add (f*5)).off+3,none⟩=some (.int .i64 t.f1)/\w'.cell? ⟨(ad.add (f*5)).block,(ad.add (f*5)).off+4,none⟩=some (.int .i64 t.f2)) (go_keep) (fail)
    all_goals
     go_wp2
     go_meet
     case rel=>exact⟨t.k,t.s,t.x,t.f1,t.f2,rfl,⟨by have:=blk_drew (blk_new w1 (.cells #[.int .i64 t.k,.string t.s,.float .f64 t.x,.int .i64 t.f1,.int .i64 t.f2] 49));rwa[hn3] at this⟩,⟨(H.out.alloc _).drew⟩,⟨(HV2.out.alloc _).drew⟩⟩
  clear H HV2 hn3 qa qn;obtain⟨tk,ts,tx,t1,t2,rfl,HTK,H,HV2⟩:=hcut;go_upto_region 7 with fail
  go_cut [50] from 37 to 50 (fun v wc=>∃b:Bool,v = .bool b/\Aside0 (b=true->(E.tk a).k=1)/\Aside0 (Pt E w wc a c)/\Aside0 (Vb wc n0 #[.int .i64 0,.string ⟨#[]⟩,.float .f64 0,.int .i64 0,.bool false,.slice none 0 0,.slice none 0 0]))
  case first=>
   go_wp2_with fail;refine(now_q HE.out H.out.s ha).mono ?_;rintro e w2 ⟨rfl,hb⟩;have HTK2:=aM (blk_below HTK.out hb);replace HV2:=aM (HV2.out.below hb);replace H:=aM (H.out.below hb);clear hb;have k0:=bC HTK2.out 0;have k1:=bC HTK2.out 1;obtain⟨b1,hb1⟩:∃b:Bool,((E.tk a).k==1)=b:=⟨_,rfl⟩
   cases b1 with
   |false=>
    go_wp2_with fail;go_meet
    case rel=>exact⟨_,rfl,⟨fun h=>by cases h⟩,H,HV2⟩
   |true=>
    have hk1:Aside0 ((E.tk a).k=1):=⟨eq_of_beq hb1⟩;obtain⟨b2,hb2⟩:∃b:Bool,(tk==3)=b:=⟨_,rfl⟩
    cases b2 with
    |false=>
     go_wp2_with fail;go_meet
     case rel=>exact⟨_,rfl,⟨fun _=>hk1.out⟩,H,HV2⟩
    |true=>
     obtain⟨b3,hb3⟩:∃b:Bool,(ts.toList==([61]:List UInt8))=b:=⟨_,rfl⟩;go_wp2_with fail;go_meet
     case rel=>exact⟨b3,rfl,⟨fun _=>hk1.out⟩,H,HV2⟩
  clear H HV2 HTK;obtain⟨b50,rfl,K1,H,HV2⟩:=hcut;have HSZ:=aM (blk_lt HV2.out)
  cases b50 with
  |true=>
   have hk1:(E.tk a).k=1:=by first|exact K1.out rfl|exact K1.out trivial
   have hlt:=Env.not_end HE.out ha (by rw[hk1];decide);clear K1 hk1;go_wp2_with fail;refine(name_any HE.out H.out.s H.out.B ha).mono ?_;rintro e w2 ⟨s,a2,c2,rfl,hs,q1,hA,q3,q4,hp⟩;replace HV2:=aM (HV2.out.keep H.out.s hp);replace H:=aM (H.out.step hp);have Q4:=aM q4;clear hp q4;obtain⟨n3,hn3⟩:∃n,w2.heap.size=n:=⟨_,rfl⟩;have HN3:=aM (show n0<n3 by rw[<-hn3];exact blk_lt HV2.out);have HV3:=aM (show Vb (w2.alloc (.cells #[.int .i64 24,.string s,.float .f64 0,.int .i64 0,.bool false,.slice none 0 0,.slice none 0 0] 27)) n3 #[.int .i64 24,.string s,.float .f64 0,.int .i64 0,.bool false,.slice none 0 0,.slice none 0 0] by have:=Vb.new w2 #[.int .i64 24,.string s,.float .f64 0,.int .i64 0,.bool false,.slice none 0 0,.slice none 0 0];rwa[hn3] at this);have TX:=aM (Tr.str (w2.alloc (.cells #[.int .i64 24,.string s,.float .f64 0,.int .i64 0,.bool false,.slice none 0 0,.slice none 0 0] 27)) (n0+1) s);replace HV2:=aM (HV2.out.alloc (.cells #[.int .i64 24,.string s,.float .f64 0,.int .i64 0,.bool false,.slice none 0 0,.slice none 0 0] 27));replace H:=aM (H.out.alloc (.cells #[.int .i64 24,.string s,.float .f64 0,.int .i64 0,.bool false,.slice none 0 0,.slice none 0 0] 27));go_wp2_with fail;generalize w2.alloc _=w3 at H HV2 HV3 TX|-;clear hn3;refine(sign_any HE.out H.out.s H.out.B hA _).mono ?_;rintro e w4 ⟨a5,c5,rfl,r1,hA,r3,r4,hp⟩;replace HV2:=aM (HV2.out.keep H.out.s hp);replace HV3:=aM (HV3.out.keep H.out.s hp);replace TX:=aM (TX.out.keep H.out.s hp);replace H:=aM (H.out.step hp);have hm:a<a5:=by have:=q3 hlt;omega
   have G:=aM (show c5=0->c=0/\(ndS s).wt+1<=3*(a5-a) from fun h0=>⟨(Q4.out (r4 h0).1).1,by have:=(Q4.out (r4 h0).1).2.1;have:=(r4 h0).2.1;simp[ndS,wt_mk,wts];omega⟩);have OX:=aM (show Ok (c5=0) .e (ndS s) from Ok.str hs);clear hp r4 Q4;obtain⟨y0,y1,y2,y3,y4,y5,y6⟩:=bC7 HV3.out;replace H:=aM H.out.drew;replace HV2:=aM HV2.out.drew;replace HV3:=aM HV3.out.drew;replace TX:=aM TX.out.drew;have HN:=aM ((HIH.out a5 (by omega) hA).expression 0 (by decide) _ _ H.out.s H.out.B);have HSZ:=aM (blk_lt HV3.out);go_upto_region 10 with fail
   go_region_law (go_simp;go_at_call 94;refine HN.out.mono ?_;rintro e w8 ⟨z,Zn,zn,Zk,zk,a4,c4,rfl,tz,oz,_,mz,hp⟩;have H2:=aM (H.out.step hp);have U2:=aM (HV2.out.keep H.out.s hp);have U3:=aM (HV3.out.keep H.out.s hp);have TX2:=aM (TX.out.keep H.out.s hp);have r0:=bC U3.out 0;have r1:=bC U3.out 1;have r2:=bC U3.out 2;have r3:=bC U3.out 3;have r4:=bC U3.out 4;have r5:=bC U3.out 5;have r6:=bC U3.out 6;have OZ:=aM oz;have MZ:=aM mz;have H3:=aM (H2.out.alloc (.cells #[.int .i64 24,.string s,.float .f64 0,.int .i64 0,.bool false,.slice none 0 0,.slice none 0 0,.int .i64 z.k,.string z.s,.float .f64 z.x,.int .i64 z.n,.bool z.b,(.slice Zn z.names.length zn),(.slice Zk z.kids.length zk)] 27));have U4:=aM (U2.out.alloc (.cells #[.int .i64 24,.string s,.float .f64 0,.int .i64 0,.bool false,.slice none 0 0,.slice none 0 0,.int .i64 z.k,.string z.s,.float .f64 z.x,.int .i64 z.n,.bool z.b,(.slice Zn z.names.length zn),(.slice Zk z.kids.length zk)] 27));have KY:=aM (KR.lit2 TX2.out (tz.lower (b':=n0+1) (by have:=HSZ.out;have:=HN3.out;omega)) (by have:=blk_lt U2.out;omega));have rr0:=bC U4.out 0;have rr1:=bC U4.out 1;have rr2:=bC U4.out 2;have rr3:=bC U4.out 3;have rr4:=bC U4.out 4;have rr5:=bC U4.out 5;have rr6:=bC U4.out 6;have fr0:=bF U4.out 0;have fr1:=bF U4.out 1;have fr2:=bF U4.out 2;have fr3:=bF U4.out 3;have fr4:=bF U4.out 4;have fr5:=bF U4.out 5;have fr6:=bF U4.out 6;clear hp oz mz tz)
   all_goals
    go_wp2
    have HF:=aM (Tr.res (x:=⟨36,⟨#[]⟩,0,0,false,[],[(ndS s),z]⟩) H3.out U4.out rfl (Tr.mk (NR.nil _ _) KY.out) HE.out HP.out HB0.out HN0.out (by omega));generalize ((((((((w8.alloc (.cells #[.int .i64 24,.string s,.float .f64 0,.int .i64 0,.bool false,.slice none 0 0,.slice none 0 0,.int .i64 z.k,.string z.s,.float .f64 z.x,.int .i64 z.n,.bool z.b,(.slice Zn z.names.length zn),(.slice Zk z.kids.length zk)] 27)).setCell ⟨n0,0,none⟩ (.int .i64 36)).setCell ⟨n0,1,none⟩ (.string ⟨#[]⟩)).setCell ⟨n0,2,none⟩ (.float .f64 0)).setCell ⟨n0,3,none⟩ (.int .i64 0)).setCell ⟨n0,4,none⟩ (.bool false)).setCell ⟨n0,5,none⟩ (.slice none 0 0)).setCell ⟨n0,6,none⟩ (.slice (some ⟨w8.heap.size,0,none⟩) 2 2))=WF at HF|-;obtain⟨qq0,qq1,qq2,qq3,qq4,qq5,qq6⟩:=bC7 HF.out.2.2;refine bodyPost_ret (v:= .agg #[.int .i64 36,.string ⟨#[]⟩,.float .f64 0,.int .i64 0,.bool false,.slice none 0 0,.slice (some ⟨w8.heap.size,0,none⟩) 2 2]) (by simp[results,Tryz.results160,go_sem,qq0,qq1,qq2,qq3,qq4,qq5,qq6]) rfl ?_;exact⟨⟨36,⟨#[]⟩,0,0,false,[],[(ndS s),z]⟩,none,0,_,2,a4,c4,rfl,HF.out.2.1,.par rfl (fun _=>Tx.bare (by decide)) rfl (OX.out.mono (fun h0=>(MZ.out.good h0).1)) OZ.out,trivial,⟨by have:=MZ.out.le;omega,MZ.out.lt,fun _ _=>by have:=MZ.out.le;omega,fun h0=>⟨(G.out (MZ.out.good h0).1).1,by have:=(G.out (MZ.out.good h0).1).2;have:=(MZ.out.good h0).2;have:=MZ.out.le;simp[wt_mk,wts];omega⟩⟩,HF.out.1⟩
  |false=>
   clear K1;go_wp2_with fail;refine(HX.out _ _ H.out.s H.out.B).mono ?_;rintro e w2 ⟨x,An,cn,Ak,ck,a2,c2,rfl,tx,ox,_,mx,hp⟩;replace HV2:=aM (HV2.out.keep H.out.s hp);replace H:=aM (H.out.step hp);have KX:=aM (KR.lit1 (tx.lower (b':=n0+1) HSZ.out) (by have:=blk_lt HV2.out;omega));have OX:=aM ox;have MX:=aM mx;clear tx ox mx hp;replace HV2:=aM (HV2.out.alloc (.cells #[.int .i64 x.k,.string x.s,.float .f64 x.x,.int .i64 x.n,.bool x.b,(.slice An x.names.length cn),(.slice Ak x.kids.length ck)] 27));replace H:=aM (H.out.alloc (.cells #[.int .i64 x.k,.string x.s,.float .f64 x.x,.int .i64 x.n,.bool x.b,(.slice An x.names.length cn),(.slice Ak x.kids.length ck)] 27));obtain⟨z0,z1,z2,z3,z4,z5,z6⟩:=bC7 HV2.out;obtain⟨fz0,fz1,fz2,fz3,fz4,fz5,fz6⟩:=bF7 HV2.out;go_wp2_with fail;have HF:=aM (Tr.res (x:=⟨35,⟨#[]⟩,0,0,false,[],[x]⟩) H.out HV2.out rfl (Tr.mk (NR.nil _ _) KX.out) HE.out HP.out HB0.out HN0.out (by omega));generalize ((((((((w2.alloc (.cells #[.int .i64 x.k,.string x.s,.float .f64 x.x,.int .i64 x.n,.bool x.b,(.slice An x.names.length cn),(.slice Ak x.kids.length ck)] 27)).setCell ⟨n0,0,none⟩ (.int .i64 35)).setCell ⟨n0,1,none⟩ (.string ⟨#[]⟩)).setCell ⟨n0,2,none⟩ (.float .f64 0)).setCell ⟨n0,3,none⟩ (.int .i64 0)).setCell ⟨n0,4,none⟩ (.bool false)).setCell ⟨n0,5,none⟩ (.slice none 0 0)).setCell ⟨n0,6,none⟩ (.slice (some ⟨w2.heap.size,0,none⟩) 1 1))=WF at HF|-;obtain⟨qq0,qq1,qq2,qq3,qq4,qq5,qq6⟩:=bC7 HF.out.2.2;refine bodyPost_ret (v:= .agg #[.int .i64 35,.string ⟨#[]⟩,.float .f64 0,.int .i64 0,.bool false,.slice none 0 0,.slice (some ⟨w2.heap.size,0,none⟩) 1 1]) (by simp[results,Tryz.results160,go_sem,qq0,qq1,qq2,qq3,qq4,qq5,qq6]) rfl ?_;exact⟨⟨35,⟨#[]⟩,0,0,false,[],[x]⟩,none,0,_,1,a2,c2,rfl,HF.out.2.1,.item rfl (fun _=>Tx.bare (by decide)) rfl OX.out,trivial,⟨MX.out.le,MX.out.lt,MX.out.pr,fun h0=>⟨(MX.out.good h0).1,by have:=(MX.out.good h0).2;simp[wt_mk,wts];omega⟩⟩,HF.out.1⟩
end
end Go.Proofs.YtoimaaonloibfaaGreatDoor.Pa
namespace Go.Proofs.YtoimaaonloibfaaGreatDoor.Pa
open Go.RowKit W1 W2 PF Wf Lx
attribute [local go_sem] run_store_float fld49_0 fld49_1 fld49_3
section
variable {E:Env} {w wr w1 w2:World} {a a' n0 n1 b q:Nat} {c c' k n:Int} {s:ByteArray} {x:Nat} {fl:Bool} {ns:List ByteArray} {ks ks2:List Nd} {vn vk uk:Value}
theorem Ou.kids(h:Ou E w wr n0 n1 b a c k s x n fl ns ks vn vk)(hk:KR wr b uk ks2)(h0:Ps E w a' c')(hE:E.Fine)(hB:E.w0.heap.size<=w.heap.size)(hwn:w.heap.size<=n1)(hn1:n1<b)(hne:n0≠n1):
  Ou E w (wr.setCell ⟨n1,6,none⟩ uk) n0 n1 b a c k s x n fl ns ks2 vn uk:=by
 have hf:∀j,j≠n1->(wr.setCell ⟨n1,6,none⟩ uk).heap[j]? = wr.heap[j]? :=fun j hj=>Below.heap_setCell wr ⟨n1,6,none⟩ _ j hj
 exact⟨h.p.put hE h0 hB hwn 6 _,h.v2.off hne 6 _,h.v3.set 6 _,h.nr.far hf hn1,hk.far hf hn1⟩
set_option maxRecDepth 10000 in
set_option maxHeartbeats 1500000 in
theorem last_any(hE:E.Fine)(IH:∀b,a<b->b<E.n->All E b)(ha:a<E.n):NC E 55 #[.pointer (some ⟨E.g,0,none⟩)] a .s 0 0 (fun _=>True):=by
 intro w c h hB;have HE:=aM hE;have HIH:=aM IH;have hpos:=hE.pos;have hlen:=hE.len;have HP:=aM h;have HB0:=aM hB.size;obtain⟨n0,hn0⟩:∃n0,w.heap.size=n0:=⟨_,rfl⟩;have HN0:=aM hn0;have H:=aM ((Pt.start h hB).alloc (.cells #[.int .i64 0,.string ⟨#[]⟩,.float .f64 0,.int .i64 0,.bool false,.slice none 0 0,.slice none 0 0] 27));have HV2:=aM (show Vb (w.alloc (.cells #[.int .i64 0,.string ⟨#[]⟩,.float .f64 0,.int .i64 0,.bool false,.slice none 0 0,.slice none 0 0] 27)) n0 #[.int .i64 0,.string ⟨#[]⟩,.float .f64 0,.int .i64 0,.bool false,.slice none 0 0,.slice none 0 0] by have:=Vb.new w #[.int .i64 0,.string ⟨#[]⟩,.float .f64 0,.int .i64 0,.bool false,.slice none 0 0,.slice none 0 0];rwa[hn0] at this);clear hE IH h hB;go_enter Tryz.func55,Tryz.ntmps55
 go_wp2_with fail;generalize w.alloc _=wz at H HV2|-;clear hn0;refine(hasWord_any HE.out H.out.s H.out.B ha _).mono ?_;rintro e w1 ⟨b1,a1,rfl,_,p1,p2,hp⟩;replace HV2:=aM (HV2.out.keep H.out.s hp);replace H:=aM (H.out.step hp);clear hp
 cases b1 with
 |true=>
  obtain⟨rfl,hlt⟩:=p1 rfl;clear p1 p2;obtain⟨lo,g4,g5⟩:∃(lo:Int),w1.cell? ⟨E.g,4,none⟩=some (.int .i64 lo)/\w1.cell? ⟨E.g,5,none⟩=some (.bool true):=by
   obtain⟨va,lo,g1,g2⟩:=H.out.s;exact⟨lo,bC g1 4,bC g1 5⟩
  obtain⟨bl,hbl⟩:∃b:Bool,(lo==0)=b:=⟨_,rfl⟩;obtain⟨z0,z1,z2,z3,z4,z5,z6⟩:=bC7 HV2.out;obtain⟨fz0,fz1,fz2,fz3,fz4,fz5,fz6⟩:=bF7 HV2.out
  cases bl with
  |true=>
   go_wp2_with fail;have HF:=aM (Tr.res H.out HV2.out rfl (Tr.leaf w1 (n0+1) 13 ⟨#[]⟩ 0) HE.out HP.out HB0.out HN0.out (by omega));generalize (((((((w1.setCell ⟨n0,0,none⟩ (.int .i64 13)).setCell ⟨n0,1,none⟩ (.string ⟨#[]⟩)).setCell ⟨n0,2,none⟩ (.float .f64 0)).setCell ⟨n0,3,none⟩ (.int .i64 0)).setCell ⟨n0,4,none⟩ (.bool false)).setCell ⟨n0,5,none⟩ (.slice none 0 0)).setCell ⟨n0,6,none⟩ (.slice none 0 0))=WF at HF|-;obtain⟨qq0,qq1,qq2,qq3,qq4,qq5,qq6⟩:=bC7 HF.out.2.2;refine bodyPost_ret (v:= .agg #[.int .i64 13,.string ⟨#[]⟩,.float .f64 0,.int .i64 0,.bool false,.slice none 0 0,.slice none 0 0]) (by simp[results,Tryz.results55,go_sem,qq0,qq1,qq2,qq3,qq4,qq5,qq6]) rfl ?_;exact⟨⟨13,⟨#[]⟩,0,0,false,[],[]⟩,none,0,none,0,a+1,c,rfl,HF.out.2.1,.brk rfl (fun _=>Tx.bare (by decide)),trivial,⟨by omega,hlt,fun _ _=>by omega,fun h0=>⟨h0,by simp[wt_mk,wts]<;>omega⟩⟩,HF.out.1⟩
  |false=>
   go_wp2_with fail;have HF:=aM (Tr.res H.out HV2.out rfl (Tr.leaf w1 (n0+1) 13 ⟨#[]⟩ 0) HE.out HP.out HB0.out HN0.out (by omega));generalize (((((((w1.setCell ⟨n0,0,none⟩ (.int .i64 13)).setCell ⟨n0,1,none⟩ (.string ⟨#[]⟩)).setCell ⟨n0,2,none⟩ (.float .f64 0)).setCell ⟨n0,3,none⟩ (.int .i64 0)).setCell ⟨n0,4,none⟩ (.bool false)).setCell ⟨n0,5,none⟩ (.slice none 0 0)).setCell ⟨n0,6,none⟩ (.slice none 0 0))=WF at HF|-;obtain⟨qq0,qq1,qq2,qq3,qq4,qq5,qq6⟩:=bC7 HF.out.2.2;refine bodyPost_ret (v:= .agg #[.int .i64 13,.string ⟨#[]⟩,.float .f64 0,.int .i64 0,.bool false,.slice none 0 0,.slice none 0 0]) (by simp[results,Tryz.results55,go_sem,qq0,qq1,qq2,qq3,qq4,qq5,qq6]) rfl ?_;exact⟨⟨13,⟨#[]⟩,0,0,false,[],[]⟩,none,0,none,0,a+1,c,rfl,HF.out.2.1,.brk rfl (fun _=>Tx.bare (by decide)),trivial,⟨by omega,hlt,fun _ _=>by omega,fun h0=>⟨h0,by simp[wt_mk,wts]<;>omega⟩⟩,HF.out.1⟩
 |false=>
  obtain rfl:=(p2 rfl).symm;clear p1 p2;go_wp2_with fail;refine(word_any HE.out H.out.s H.out.B ha _).mono ?_;rintro e w2 ⟨a1,c1,rfl,h1,h2,h3,h4,hp⟩;replace HV2:=aM (HV2.out.keep H.out.s hp);replace H:=aM (H.out.step hp);have Q4:=aM h4;have PR:=aM h3;clear hp h4 h3;obtain⟨n1,hn1⟩:∃n,w2.heap.size=n:=⟨_,rfl⟩;have hn01:n0<n1:=by rw[<-hn1];exact blk_lt HV2.out
  have HO:=aM (show Ou E w (w2.alloc (.cells #[.int .i64 12,.string ⟨#[]⟩,.float .f64 0,.int .i64 0,.bool false,.slice none 0 0,.slice none 0 0] 27)) n0 n1 (n1+1) a1 c1 12 ⟨#[]⟩ 0 0 false [] [] (.slice none 0 0) (.slice none 0 0) from⟨H.out.alloc _,HV2.out.alloc _,by have:=Vb.new w2 #[.int .i64 12,.string ⟨#[]⟩,.float .f64 0,.int .i64 0,.bool false,.slice none 0 0,.slice none 0 0];rwa[hn1] at this,NR.nil _ _,KR.nil _ _⟩);clear H HV2;go_upto_region 7 with fail;generalize w2.alloc _=w3 at HO|-;clear hn1
  go_cut [31] from 24 to 31 (fun v wc=>∃b:Bool,v = .bool b/\Aside0 (b=true->(E.tk a1).k≠6)/\Aside0 (Ou E w wc n0 n1 (n1+1) a1 c1 12 ⟨#[]⟩ 0 0 false [] [] (.slice none 0 0) (.slice none 0 0)))
  case first=>
   go_wp2_with fail;refine(atEnd_q HE.out HO.out.p.s h2).mono ?_;rintro e w4 ⟨b4,rfl,h6,hb⟩;replace HO:=aM (HO.out.below hb);have H6:=aM h6;clear hb h6
   cases b4 with
   |true=>
    go_wp2_with fail;go_meet
    case rel=>exact⟨_,rfl,⟨fun h=>by cases h⟩,HO⟩
   |false=>
    go_wp2_with fail;refine(isSign_q HE.out HO.out.p.s h2 _).mono ?_;rintro e w5 ⟨rfl,hb⟩;replace HO:=aM (HO.out.below hb);clear hb;generalize E.isS a1 ⟨#[59]⟩=b5;go_wp2_with fail;go_meet
    case rel=>exact⟨_,rfl,⟨fun _ h=>by cases H6.out h⟩,HO⟩
  clear HO;obtain⟨b31,rfl,K6,HO⟩:=hcut
  go_upto_if 31 with fail
  go_cut [] from 31 to 34 (fun wc=>∃(a':Nat) (c':Int) (A:Option Addr) (cp:Nat) (xs:List Nd),a1<=a'/\a'<E.n/\Aside0 (∀x∈xs,Ok (c'=0) .e x)/\Aside0 (c'=0->c1=0/\wts xs<=3*(a'-a1))/\Aside0 (Ou E w wc n0 n1 (n1+1) a' c' 12 ⟨#[]⟩ 0 0 false [] xs (.slice none 0 0) (.slice A xs.length cp)))
  case first=>
   cases b31 with
   |false=>
    go_wp2_with fail;go_meet
    case rel=>exact⟨a1,c1,none,0,[],Nat.le_refl _,h2,⟨fun x hx=>by simp at hx⟩,⟨fun h0=>⟨h0,by simp[wts]⟩⟩,HO⟩
   |true=>
    have hk6:(E.tk a1).k≠6:=by first|exact K6.out rfl|exact K6.out trivial
    have hlt:=Env.not_end HE.out h2 hk6;have hmid:a<a1:=PR.out (by omega);clear hk6 K6;have HSZ:=aM (blk_lt HO.out.v3);go_wp2_with fail;refine((HIH.out a1 hmid h2).list _ _ HO.out.p.s HO.out.p.B).mono ?_;rintro e w6 ⟨xs,A,cp,a2,c2,rfl,kx,ox,lx,mx,hp⟩;have KX:=aM (kx.lower (b':=n1+1) HSZ.out);replace HO:=aM (HO.out.step hp);have OX:=aM ox;have MX:=aM mx;clear kx ox mx hp;have y6:=bC HO.out.v3 6;have fy6:=bF HO.out.v3 6;go_wp2_with fail;go_meet
    case rel=>exact⟨a2,c2,A,cp,xs,MX.out.le,MX.out.lt,OX,⟨fun h0=>⟨(MX.out.good h0).1,by have:=(MX.out.good h0).2;omega⟩⟩,⟨HO.out.kids KX.out HP.out HE.out HB0.out (by have:=HN0.out;omega) (by omega) (by omega)⟩⟩
  clear HO K6;obtain⟨a2,c2,A,cp,xs,q1,q2,OX,G,HO⟩:=hcut;obtain⟨y0,y1,y2,y3,y4,y5,y6⟩:=bC7 HO.out.v3;obtain⟨z0,z1,z2,z3,z4,z5,z6⟩:=bC7 HO.out.v2;obtain⟨fz0,fz1,fz2,fz3,fz4,fz5,fz6⟩:=bF7 HO.out.v2;go_wp2_with fail;have HF:=aM (HO.out.fin HE.out HP.out HB0.out HN0.out (by omega));generalize (((((((wc.setCell ⟨n0,0,none⟩ (.int .i64 12)).setCell ⟨n0,1,none⟩ (.string ⟨#[]⟩)).setCell ⟨n0,2,none⟩ (.float .f64 0)).setCell ⟨n0,3,none⟩ (.int .i64 0)).setCell ⟨n0,4,none⟩ (.bool false)).setCell ⟨n0,5,none⟩ (.slice none 0 0)).setCell ⟨n0,6,none⟩ (.slice A xs.length cp))=WF at HF|-;obtain⟨qq0,qq1,qq2,qq3,qq4,qq5,qq6⟩:=bC7 HF.out.2.2;refine bodyPost_ret (v:= .agg #[.int .i64 12,.string ⟨#[]⟩,.float .f64 0,.int .i64 0,.bool false,.slice none 0 0,.slice A xs.length cp]) (by simp[results,Tryz.results55,go_sem,qq0,qq1,qq2,qq3,qq4,qq5,qq6]) rfl ?_;exact⟨⟨12,⟨#[]⟩,0,0,false,[],xs⟩,none,0,A,cp,a2,c2,rfl,HF.out.2.1,.ret rfl (fun _=>Tx.bare (by decide)) OX.out,trivial,⟨by omega,q2,fun _ h=>by have:=PR.out h;omega,fun h0=>⟨(Q4.out (G.out h0).1).1,by have:=(G.out h0).2;have:=(Q4.out (G.out h0).1).2.1;simp[wt_mk];omega⟩⟩,HF.out.1⟩
end
section
variable {E:Env} {a:Nat}
set_option maxRecDepth 10000 in
set_option maxHeartbeats 1500000 in
theorem loop_any(hE:E.Fine)(ha:a<E.n)(hBk:NC E 20 #[.pointer (some ⟨E.g,0,none⟩)] a .b 0 1 (fun _=>True)):NC E 95 #[.pointer (some ⟨E.g,0,none⟩)] a .b 0 1 (fun _=>True):=by
 intro w c h hB;have HE:=aM hE;have HBK:=aM hBk;have HP:=aM h;have HB0:=aM hB.size;obtain⟨n0,hn0⟩:∃n0,w.heap.size=n0:=⟨_,rfl⟩;have HN0:=aM hn0;have H:=aM ((Pt.start h hB).alloc (.cells #[.int .i64 0,.string ⟨#[]⟩,.float .f64 0,.int .i64 0,.bool false,.slice none 0 0,.slice none 0 0] 27));have HV2:=aM (show Vb (w.alloc (.cells #[.int .i64 0,.string ⟨#[]⟩,.float .f64 0,.int .i64 0,.bool false,.slice none 0 0,.slice none 0 0] 27)) n0 #[.int .i64 0,.string ⟨#[]⟩,.float .f64 0,.int .i64 0,.bool false,.slice none 0 0,.slice none 0 0] by have:=Vb.new w #[.int .i64 0,.string ⟨#[]⟩,.float .f64 0,.int .i64 0,.bool false,.slice none 0 0,.slice none 0 0];rwa[hn0] at this);clear hE h hB hBk;go_enter Tryz.func95,Tryz.ntmps95
 go_upto_region 1 with fail;generalize w.alloc _=wz at H HV2|-;clear hn0;obtain⟨lo,g4,f4⟩:∃(lo:Int),wz.cell? ⟨E.g,4,none⟩=some (.int .i64 lo)/\wz.frozen? ⟨E.g,4,none⟩=false:=by
  obtain⟨va,lo,g1,g2⟩:=H.out.s;exact⟨lo,bC g1 4,bF g1 4⟩
 have hne:Aside0 (n0≠E.g):=⟨by
  obtain⟨cs,hg⟩:=H.out.s.typed;exact blk_ne HV2.out hg (by decide)⟩
 obtain⟨l2,hl2⟩:∃l,IntKind.i64.wrap (lo+1)=l:=⟨_,rfl⟩;go_wp2_with fail;replace HV2:=aM (HV2.out.sg hne.out 4 (.int .i64 l2));replace H:=aM (H.out.setl HE.out l2);generalize wz.setCell ⟨E.g,4,none⟩ (.int .i64 l2)=w1 at H HV2|-;clear g4 f4 hl2;have HSZ:=aM (blk_lt HV2.out);refine(HBK.out _ _ H.out.s H.out.B).mono ?_;rintro e w2 ⟨x,An,cn,Ak,ck,a2,c2,rfl,tx,ox,_,mx,hp⟩;replace HV2:=aM ((HV2.out.keep H.out.s hp).alloc (.cells #[.int .i64 x.k,.string x.s,.float .f64 x.x,.int .i64 x.n,.bool x.b,(.slice An x.names.length cn),(.slice Ak x.kids.length ck)] 27));replace H:=aM ((H.out.step hp).alloc (.cells #[.int .i64 x.k,.string x.s,.float .f64 x.x,.int .i64 x.n,.bool x.b,(.slice An x.names.length cn),(.slice Ak x.kids.length ck)] 27));have TX:=aM ((tx.lower (b':=n0+1) HSZ.out).alloc (.cells #[.int .i64 x.k,.string x.s,.float .f64 x.x,.int .i64 x.n,.bool x.b,(.slice An x.names.length cn),(.slice Ak x.kids.length ck)] 27));have OX:=aM ox;have MX:=aM mx;have e0:=aM (show n0<w2.heap.size from by
  have:=hp.size;have:=HSZ.out
  omega)
 have hv3:=Vb.new w2 #[.int .i64 x.k,.string x.s,.float .f64 x.x,.int .i64 x.n,.bool x.b,(.slice An x.names.length cn),(.slice Ak x.kids.length ck)];clear tx ox mx hp;go_upto_region 3 with fail;generalize w2.alloc _=w3 at H HV2 TX hv3|-;obtain⟨n3,hn3⟩:∃n,w2.heap.size=n:=⟨_,rfl⟩;rw[hn3] at hv3 e0|-;have HV3:=aM hv3;have hne3:Aside0 (n3≠E.g):=⟨by
  obtain⟨cs,hg⟩:=H.out.s.typed;exact blk_ne HV3.out hg (by decide)⟩
 clear hv3 hn3;obtain⟨lo2,g4,f4⟩:∃(lo:Int),w3.cell? ⟨E.g,4,none⟩=some (.int .i64 lo)/\w3.frozen? ⟨E.g,4,none⟩=false:=by
  obtain⟨va,lo,g1,g2⟩:=H.out.s;exact⟨lo,bC g1 4,bF g1 4⟩
 obtain⟨l3,hl3⟩:∃l,IntKind.i64.wrap (lo2-1)=l:=⟨_,rfl⟩;go_upto_region 4 with fail;replace HV2:=aM (HV2.out.sg hne.out 4 (.int .i64 l3));replace HV3:=aM (HV3.out.sg hne3.out 4 (.int .i64 l3));replace TX:=aM (Tr.mk (TX.out.rows.1.sg H.out.s 4 (.int .i64 l3)) (TX.out.rows.2.sg H.out.s 4 (.int .i64 l3)));replace H:=aM (H.out.setl HE.out l3);generalize w3.setCell ⟨E.g,4,none⟩ (.int .i64 l3)=w4 at H HV2 HV3 TX|-;clear g4 f4 hl3;obtain⟨y0,y1,y2,y3,y4,y5,y6⟩:=bC7 HV3.out;obtain⟨z0,z1,z2,z3,z4,z5,z6⟩:=bC7 HV2.out;obtain⟨fz0,fz1,fz2,fz3,fz4,fz5,fz6⟩:=bF7 HV2.out;go_wp2_with fail;have HF:=aM (Tr.res H.out HV2.out rfl TX.out HE.out HP.out HB0.out HN0.out (by omega));generalize (((((((w4.setCell ⟨n0,0,none⟩ (.int .i64 x.k)).setCell ⟨n0,1,none⟩ (.string x.s)).setCell ⟨n0,2,none⟩ (.float .f64 x.x)).setCell ⟨n0,3,none⟩ (.int .i64 x.n)).setCell ⟨n0,4,none⟩ (.bool x.b)).setCell ⟨n0,5,none⟩ (.slice An x.names.length cn)).setCell ⟨n0,6,none⟩ (.slice Ak x.kids.length ck))=WF at HF|-;obtain⟨qq0,qq1,qq2,qq3,qq4,qq5,qq6⟩:=bC7 HF.out.2.2;refine bodyPost_ret (v:= .agg #[.int .i64 x.k,.string x.s,.float .f64 x.x,.int .i64 x.n,.bool x.b,.slice An x.names.length cn,.slice Ak x.kids.length ck]) (by simp[results,Tryz.results95,go_sem,qq0,qq1,qq2,qq3,qq4,qq5,qq6]) rfl ?_;exact⟨x,An,cn,Ak,ck,a2,c2,rfl,HF.out.2.1,OX.out,trivial,MX.out,HF.out.1⟩
end
section
variable {E:Env} {a:Nat}
set_option maxRecDepth 10000 in
set_option maxHeartbeats 3000000 in
theorem block_any(hE:E.Fine)(ha:a<E.n)(hST:∀b,a<=b->b+1<E.n->NC E 58 #[.pointer (some ⟨E.g,0,none⟩)] b .s 0 0 (fun _=>True)/\NC E 55 #[.pointer (some ⟨E.g,0,none⟩)] b .s 0 0 (fun _=>True)):NC E 20 #[.pointer (some ⟨E.g,0,none⟩)] a .b 0 1 (fun _=>True):=by
 intro w c h hB;have HE:=aM hE;have HST:=aM hST;have hpos:=hE.pos;have hlen:=hE.len;have HP:=aM h;have HB0:=aM hB.size;obtain⟨n0,hn0⟩:∃n0,w.heap.size=n0:=⟨_,rfl⟩;have hgl:=h.lt;have e1:(w.alloc (.cells #[.int .i64 0,.string ⟨#[]⟩,.float .f64 0,.int .i64 0,.bool false,.slice none 0 0,.slice none 0 0] 27)).heap.size=n0+1:=by simp[hn0]
 have H:=aM (show Ou E w ((w.alloc (.cells #[.int .i64 0,.string ⟨#[]⟩,.float .f64 0,.int .i64 0,.bool false,.slice none 0 0,.slice none 0 0] 27)).alloc (.cells #[.int .i64 1,.string ⟨#[]⟩,.float .f64 0,.int .i64 0,.bool false,.slice none 0 0,.slice none 0 0] 27)) n0 (n0+1) (n0+2) a c 1 ⟨#[]⟩ 0 0 false [] [] (.slice none 0 0) (.slice none 0 0) from⟨((Pt.start h hB).alloc _).alloc _,by have:=(Vb.new w #[.int .i64 0,.string ⟨#[]⟩,.float .f64 0,.int .i64 0,.bool false,.slice none 0 0,.slice none 0 0]).alloc (.cells #[.int .i64 1,.string ⟨#[]⟩,.float .f64 0,.int .i64 0,.bool false,.slice none 0 0,.slice none 0 0] 27);rwa[hn0] at this,by have:=Vb.new (w.alloc (.cells #[.int .i64 0,.string ⟨#[]⟩,.float .f64 0,.int .i64 0,.bool false,.slice none 0 0,.slice none 0 0] 27)) #[.int .i64 1,.string ⟨#[]⟩,.float .f64 0,.int .i64 0,.bool false,.slice none 0 0,.slice none 0 0];rwa[e1] at this,NR.nil _ _,KR.nil _ _⟩);have HN0:=aM hn0;clear hE hST h hB e1;go_enter Tryz.func20,Tryz.ntmps20
 go_wp2_with fail;generalize ((w.alloc (.cells #[.int .i64 0,.string ⟨#[]⟩,.float .f64 0,.int .i64 0,.bool false,.slice none 0 0,.slice none 0 0] 27)).alloc (.cells #[.int .i64 1,.string ⟨#[]⟩,.float .f64 0,.int .i64 0,.bool false,.slice none 0 0,.slice none 0 0] 27))=wz at H|-;clear hn0;go_loopg [] (E.n-a) (fun k wr=>∃(a':Nat) (c':Int) (A6:Option Addr) (c6:Nat) (xs:List Nd),k=E.n-a'/\a'<E.n/\a<=a'/\xs.length<=a'/\Aside0 (∀y∈xs,Ok (c'=0) .s y)/\Aside0 (c'=0->c=0/\wts xs<=3*(a'-a))/\Aside0 (Ou E w wr n0 (n0+1) (n0+2) a' c' 1 ⟨#[]⟩ 0 0 false [] xs (.slice none 0 0) (.slice A6 xs.length c6)))
 case atStart=>exact⟨a,c,none,0,[],rfl,ha,Nat.le_refl _,by simp,⟨fun y hy=>by simp at hy⟩,⟨fun h0=>⟨h0,by simp[wts]⟩⟩,H⟩
 case round=>
  clear H;obtain⟨a2,c2,A6,c6,xs,hk,hA,h1,hl,OK,G,H⟩:=hrel;go_wp2_with fail;refine(atEnd_q HE.out H.out.p.s hA).mono ?_;rintro e w4 ⟨b4,rfl,h6,hb⟩;replace H:=aM (H.out.below hb);have H6:=aM h6;clear hb h6
  cases b4 with
  |true=>
   obtain⟨y0,y1,y2,y3,y4,y5,y6⟩:=bC7 H.out.v3;obtain⟨z0,z1,z2,z3,z4,z5,z6⟩:=bC7 H.out.v2;obtain⟨fz0,fz1,fz2,fz3,fz4,fz5,fz6⟩:=bF7 H.out.v2;go_wp2_with fail;have HF:=aM (H.out.fin HE.out HP.out HB0.out HN0.out (by omega));generalize (((((((w4.setCell ⟨n0,0,none⟩ (.int .i64 1)).setCell ⟨n0,1,none⟩ (.string ⟨#[]⟩)).setCell ⟨n0,2,none⟩ (.float .f64 0)).setCell ⟨n0,3,none⟩ (.int .i64 0)).setCell ⟨n0,4,none⟩ (.bool false)).setCell ⟨n0,5,none⟩ (.slice none 0 0)).setCell ⟨n0,6,none⟩ (.slice A6 xs.length c6))=WF at HF|-;obtain⟨qq0,qq1,qq2,qq3,qq4,qq5,qq6⟩:=bC7 HF.out.2.2;refine bodyPost_ret (v:= .agg #[.int .i64 1,.string ⟨#[]⟩,.float .f64 0,.int .i64 0,.bool false,.slice none 0 0,.slice A6 xs.length c6]) (by simp[results,Tryz.results20,go_sem,qq0,qq1,qq2,qq3,qq4,qq5,qq6]) rfl ?_;exact⟨⟨1,⟨#[]⟩,0,0,false,[],xs⟩,none,0,A6,c6,a2,c2,rfl,HF.out.2.1,.block rfl (fun _=>Tx.bare (by decide)) OK.out,trivial,⟨by omega,hA,fun h=>by omega,fun h0=>⟨(G.out h0).1,by have:=(G.out h0).2;simp[wt_mk];omega⟩⟩,HF.out.1⟩
  |false=>
   have hlt:=Env.not_end HE.out hA (fun h=>by cases H6.out h);clear H6;go_upto_region 3 with fail
   go_cut [13] from 8 to 13 (fun v wc=>∃b:Bool,v = .bool b/\Aside0 (Ou E w wc n0 (n0+1) (n0+2) a2 c2 1 ⟨#[]⟩ 0 0 false [] xs (.slice none 0 0) (.slice A6 xs.length c6)))
   case first=>
    go_wp2_with fail;refine(isWord_q HE.out H.out.p.s hA _).mono ?_;rintro e w5 ⟨rfl,hb⟩;replace H:=aM (H.out.below hb);clear hb;generalize E.isW a2 ⟨#[114,101,116,117,114,110]⟩=b1
    cases b1 with
    |true=>
     go_wp2_with fail;go_meet
     case rel=>exact⟨_,rfl,H⟩
    |false=>
     go_wp2_with fail;refine(isWord_q HE.out H.out.p.s hA _).mono ?_;rintro e w6 ⟨rfl,hb⟩;replace H:=aM (H.out.below hb);clear hb;generalize E.isW a2 ⟨#[98,114,101,97,107]⟩=b2;go_wp2_with fail;go_meet
     case rel=>exact⟨_,rfl,H⟩
   clear H;obtain⟨b13,rfl,H⟩:=hcut
   cases b13 with
   |true=>
    clear hA;have y6:=bC H.out.v3 6;have HF:=aM ((And.right (HST.out a2 h1 hlt)) _ _ H.out.drew.p.s H.out.drew.p.B);replace H:=aM H.out.drew;have HSZ:=aM (blk_lt H.out.v3);have HVV:=aM H.out.kr.lt;go_upto_region 4 with fail
    go_cut [] from 14 to 20 (fun wc=>∃(y:Nd) (A9:Option Addr) (c9:Nat) (a4:Nat) (c4:Int),Aside0 (Ok (c4=0) .s y)/\Aside0 (Mv E a2 c2 a4 c4 (y.wt+0) 0)/\Aside0 (Ou E w wc n0 (n0+1) (n0+2) a4 c4 1 ⟨#[]⟩ 0 0 false [] (xs++[y]) (.slice none 0 0) (.slice A9 (xs.length+1) c9)))
    case first=>
     go_region_law (first|(refine Ou.push_stepd _ (by rfl) (.tmp 15) (.tmp 18) (by rfl) (by rfl) H2.out (by rfl) (by rfl) TY.out (by have:=HSZ.out;omega) HVV.out (by rfl) (by have:=blk_lt H2.out.v3;omega) (by omega) HP.out HE.out HB0.out (by have:=HN0.out;omega) (by omega) (by omega) ?_;intro A9 c9 w9 k9 p9 n9 v9 u9;have H9:=aM (Ou.stored k9 p9 v9 u9 n9 HP.out HE.out HB0.out (by have:=HN0.out;omega) (by omega) (by omega));have e9:=bC u9 6;have fe9:=bF u9 6;clear k9 p9 n9 v9 u9)|(go_simp;go_at_call 55;refine HF.out.mono ?_;rintro e w8 ⟨y,Yn,yn,Yk,yk,a4,c4,rfl,ty,oy,_,my,hp⟩;have TY:=aM ty;have OY:=aM oy;have MY:=aM my;have H2:=aM (H.out.step hp);have r6:=bC H2.out.v3 6;have r6a:=fun(ob:Obj)=>bC (H2.out.alloc ob).v3 6;clear ty oy my hp))
     all_goals
      go_wp2
      go_meet
      case rel=>exact⟨y,A9,c9,a4,c4,OY,MY,H9⟩
    clear H HF y6 HSZ HVV;obtain⟨y,A9,c9,a4,c4,OY,MY,H⟩:=hcut;have hA:=MY.out.lt;have hle:=MY.out.le;have hpr:=MY.out.pr rfl hlt;have OK2:=aM (show ∀z∈xs++[y],Ok (c4=0) .s z from fun z hz=>by
     rcases List.mem_append.1 hz with hz|hz
     ·exact(OK.out z hz).mono (fun h0=>(MY.out.good h0).1)
     ·have:=List.mem_singleton.1 hz
      subst this;exact OY.out)
    have G2:=aM (show c4=0->c=0/\wts (xs++[y])<=3*(a4-a) from fun h0=>by
     obtain⟨r1,r2⟩:=MY.out.good h0;obtain⟨r3,r4⟩:=G.out r1;refine⟨r3,?_⟩;rw[wts_append];simp only[wts]
     omega)
    have hl2:(xs++[y]).length=xs.length+1:=by simp
    have hl3:(xs++[y]).length<=a4:=by rw[hl2];omega
    rw[<-hl2] at H;clear OK G MY OY;generalize xs++[y]=ys at OK2 G2 H hl3;go_wp2_with fail;refine(hasSign_any HE.out H.out.p.s H.out.p.B hA _).mono ?_;rintro e w7 ⟨b7,a7,rfl,_,p1,p2,hp⟩;have h7:a4<=a7/\a7<E.n:=by
     cases b7 with
     |true=>have:=p1 rfl;omega
     |false=>have:=p2 rfl;omega
    replace H:=aM (H.out.step hp);clear hp p1 p2 hA;obtain⟨h7,hA⟩:=h7;go_wp2_with fail;refine(isSign_q HE.out H.out.p.s hA _).mono ?_;rintro e w8 ⟨rfl,hb⟩;replace H:=aM (H.out.below hb);replace G2:=aM (show c4=0->c=0/\wts ys<=3*(a7-a) from fun h0=>⟨(G2.out h0).1,by have:=(G2.out h0).2;omega⟩);clear hb;generalize E.isS a7 ⟨#[59]⟩=b8
    cases b8 with
    |true=>
     clear hA;have hA:E.n-1<E.n:=by omega
     go_wp2_with fail;refine(tell_any HE.out H.out.p.s H.out.p.B 2).mono ?_;rintro e w9 ⟨rfl,hp⟩;replace H:=aM (H.out.step hp);obtain⟨c9',hc9⟩:∃x,(if c4=0 then(2:Int) else c4)=x:=⟨_,rfl⟩;have hc9n:c9'≠0:=by rw[<-hc9];exact tell_c (by decide)
     rw[hc9] at H;have OK3:=aM (show ∀z∈ys,Ok (c9'=0) .s z from fun z hz=>(OK2.out z hz).mono (fun h0=>absurd h0 hc9n));have G3:=aM (show c9'=0->c=0/\wts ys<=3*(E.n-1-a) from fun h0=>absurd h0 hc9n);clear hp hc9;obtain⟨y0,y1,y2,y3,y4,y5,y6⟩:=bC7 H.out.v3;obtain⟨z0,z1,z2,z3,z4,z5,z6⟩:=bC7 H.out.v2;obtain⟨fz0,fz1,fz2,fz3,fz4,fz5,fz6⟩:=bF7 H.out.v2;go_wp2_with fail;have HF:=aM (H.out.fin HE.out HP.out HB0.out HN0.out (by omega));generalize (((((((w9.setCell ⟨n0,0,none⟩ (.int .i64 1)).setCell ⟨n0,1,none⟩ (.string ⟨#[]⟩)).setCell ⟨n0,2,none⟩ (.float .f64 0)).setCell ⟨n0,3,none⟩ (.int .i64 0)).setCell ⟨n0,4,none⟩ (.bool false)).setCell ⟨n0,5,none⟩ (.slice none 0 0)).setCell ⟨n0,6,none⟩ (.slice A9 ys.length c9))=WF at HF|-;obtain⟨qq0,qq1,qq2,qq3,qq4,qq5,qq6⟩:=bC7 HF.out.2.2;refine bodyPost_ret (v:= .agg #[.int .i64 1,.string ⟨#[]⟩,.float .f64 0,.int .i64 0,.bool false,.slice none 0 0,.slice A9 ys.length c9]) (by simp[results,Tryz.results20,go_sem,qq0,qq1,qq2,qq3,qq4,qq5,qq6]) rfl ?_;exact⟨⟨1,⟨#[]⟩,0,0,false,[],ys⟩,none,0,A9,c9,(E.n-1),c9',rfl,HF.out.2.1,.block rfl (fun _=>Tx.bare (by decide)) OK3.out,trivial,⟨by omega,hA,fun h=>by omega,fun h0=>⟨(G3.out h0).1,by have:=(G3.out h0).2;simp[wt_mk];omega⟩⟩,HF.out.1⟩
    |false=>
     obtain⟨y0,y1,y2,y3,y4,y5,y6⟩:=bC7 H.out.v3;obtain⟨z0,z1,z2,z3,z4,z5,z6⟩:=bC7 H.out.v2;obtain⟨fz0,fz1,fz2,fz3,fz4,fz5,fz6⟩:=bF7 H.out.v2;go_wp2_with fail;have HF:=aM (H.out.fin HE.out HP.out HB0.out HN0.out (by omega));generalize (((((((w8.setCell ⟨n0,0,none⟩ (.int .i64 1)).setCell ⟨n0,1,none⟩ (.string ⟨#[]⟩)).setCell ⟨n0,2,none⟩ (.float .f64 0)).setCell ⟨n0,3,none⟩ (.int .i64 0)).setCell ⟨n0,4,none⟩ (.bool false)).setCell ⟨n0,5,none⟩ (.slice none 0 0)).setCell ⟨n0,6,none⟩ (.slice A9 ys.length c9))=WF at HF|-;obtain⟨qq0,qq1,qq2,qq3,qq4,qq5,qq6⟩:=bC7 HF.out.2.2;refine bodyPost_ret (v:= .agg #[.int .i64 1,.string ⟨#[]⟩,.float .f64 0,.int .i64 0,.bool false,.slice none 0 0,.slice A9 ys.length c9]) (by simp[results,Tryz.results20,go_sem,qq0,qq1,qq2,qq3,qq4,qq5,qq6]) rfl ?_;exact⟨⟨1,⟨#[]⟩,0,0,false,[],ys⟩,none,0,A9,c9,a7,c4,rfl,HF.out.2.1,.block rfl (fun _=>Tx.bare (by decide)) OK2.out,trivial,⟨by omega,hA,fun h=>by omega,fun h0=>⟨(G2.out h0).1,by have:=(G2.out h0).2;simp[wt_mk];omega⟩⟩,HF.out.1⟩
   |false=>
    go_wp2_with fail;refine(isSign_q HE.out H.out.p.s hA _).mono ?_;rintro e w5 ⟨rfl,hb⟩;replace H:=aM (H.out.below hb);clear hb;generalize E.isS a2 ⟨#[59]⟩=b8
    cases b8 with
    |true=>
     clear hA;have hA:E.n-1<E.n:=by omega
     go_wp2_with fail;refine(tell_any HE.out H.out.p.s H.out.p.B 2).mono ?_;rintro e w9 ⟨rfl,hp⟩;replace H:=aM (H.out.step hp);obtain⟨c9',hc9⟩:∃x,(if c2=0 then(2:Int) else c2)=x:=⟨_,rfl⟩;have hc9n:c9'≠0:=by rw[<-hc9];exact tell_c (by decide)
     rw[hc9] at H;have OK3:=aM (show ∀z∈xs,Ok (c9'=0) .s z from fun z hz=>(OK.out z hz).mono (fun h0=>absurd h0 hc9n));have G3:=aM (show c9'=0->c=0/\wts xs<=3*(E.n-1-a) from fun h0=>absurd h0 hc9n);clear hp hc9;obtain⟨y0,y1,y2,y3,y4,y5,y6⟩:=bC7 H.out.v3;obtain⟨z0,z1,z2,z3,z4,z5,z6⟩:=bC7 H.out.v2;obtain⟨fz0,fz1,fz2,fz3,fz4,fz5,fz6⟩:=bF7 H.out.v2;go_wp2_with fail;have HF:=aM (H.out.fin HE.out HP.out HB0.out HN0.out (by omega));generalize (((((((w9.setCell ⟨n0,0,none⟩ (.int .i64 1)).setCell ⟨n0,1,none⟩ (.string ⟨#[]⟩)).setCell ⟨n0,2,none⟩ (.float .f64 0)).setCell ⟨n0,3,none⟩ (.int .i64 0)).setCell ⟨n0,4,none⟩ (.bool false)).setCell ⟨n0,5,none⟩ (.slice none 0 0)).setCell ⟨n0,6,none⟩ (.slice A6 xs.length c6))=WF at HF|-;obtain⟨qq0,qq1,qq2,qq3,qq4,qq5,qq6⟩:=bC7 HF.out.2.2;refine bodyPost_ret (v:= .agg #[.int .i64 1,.string ⟨#[]⟩,.float .f64 0,.int .i64 0,.bool false,.slice none 0 0,.slice A6 xs.length c6]) (by simp[results,Tryz.results20,go_sem,qq0,qq1,qq2,qq3,qq4,qq5,qq6]) rfl ?_;exact⟨⟨1,⟨#[]⟩,0,0,false,[],xs⟩,none,0,A6,c6,(E.n-1),c9',rfl,HF.out.2.1,.block rfl (fun _=>Tx.bare (by decide)) OK3.out,trivial,⟨by omega,hA,fun h=>by omega,fun h0=>⟨(G3.out h0).1,by have:=(G3.out h0).2;simp[wt_mk];omega⟩⟩,HF.out.1⟩
    |false=>
     clear hA;have y6:=bC H.out.v3 6;have HF:=aM ((And.left (HST.out a2 h1 hlt)) _ _ H.out.drew.p.s H.out.drew.p.B);replace H:=aM H.out.drew;have HSZ:=aM (blk_lt H.out.v3);have HVV:=aM H.out.kr.lt;go_upto_region 12 with fail
     go_cut [] from 33 to 39 (fun wc=>∃(y:Nd) (A9:Option Addr) (c9:Nat) (a4:Nat) (c4:Int),Aside0 (Ok (c4=0) .s y)/\Aside0 (Mv E a2 c2 a4 c4 (y.wt+0) 0)/\Aside0 (Ou E w wc n0 (n0+1) (n0+2) a4 c4 1 ⟨#[]⟩ 0 0 false [] (xs++[y]) (.slice none 0 0) (.slice A9 (xs.length+1) c9)))
     case first=>
      go_region_law (first|(refine Ou.push_stepd _ (by rfl) (.tmp 34) (.tmp 37) (by rfl) (by rfl) H2.out (by rfl) (by rfl) TY.out (by have:=HSZ.out;omega) HVV.out (by rfl) (by have:=blk_lt H2.out.v3;omega) (by omega) HP.out HE.out HB0.out (by have:=HN0.out;omega) (by omega) (by omega) ?_;intro A9 c9 w9 k9 p9 n9 v9 u9;have H9:=aM (Ou.stored k9 p9 v9 u9 n9 HP.out HE.out HB0.out (by have:=HN0.out;omega) (by omega) (by omega));have e9:=bC u9 6;have fe9:=bF u9 6;clear k9 p9 n9 v9 u9)|(go_simp;go_at_call 58;refine HF.out.mono ?_;rintro e w8 ⟨y,Yn,yn,Yk,yk,a4,c4,rfl,ty,oy,_,my,hp⟩;have TY:=aM ty;have OY:=aM oy;have MY:=aM my;have H2:=aM (H.out.step hp);have r6:=bC H2.out.v3 6;have r6a:=fun(ob:Obj)=>bC (H2.out.alloc ob).v3 6;clear ty oy my hp))
      all_goals
       go_wp2
       go_meet
       case rel=>exact⟨y,A9,c9,a4,c4,OY,MY,H9⟩
     clear H HF y6 HSZ HVV;obtain⟨y,A9,c9,a4,c4,OY,MY,H⟩:=hcut;have hA:=MY.out.lt;have hle:=MY.out.le;have hpr:=MY.out.pr rfl hlt;have OK2:=aM (show ∀z∈xs++[y],Ok (c4=0) .s z from fun z hz=>by
      rcases List.mem_append.1 hz with hz|hz
      ·exact(OK.out z hz).mono (fun h0=>(MY.out.good h0).1)
      ·have:=List.mem_singleton.1 hz
       subst this;exact OY.out)
     have G2:=aM (show c4=0->c=0/\wts (xs++[y])<=3*(a4-a) from fun h0=>by
      obtain⟨r1,r2⟩:=MY.out.good h0;obtain⟨r3,r4⟩:=G.out r1;refine⟨r3,?_⟩;rw[wts_append];simp only[wts]
      omega)
     have hl2:(xs++[y]).length=xs.length+1:=by simp
     have hl3:(xs++[y]).length<=a4:=by rw[hl2];omega
     rw[<-hl2] at H;clear OK G MY OY;generalize xs++[y]=ys at OK2 G2 H hl3;go_wp2_with fail;refine(hasSign_any HE.out H.out.p.s H.out.p.B hA _).mono ?_;rintro e w7 ⟨b7,a7,rfl,_,p1,p2,hp⟩;have h7:a4<=a7/\a7<E.n:=by
      cases b7 with
      |true=>have:=p1 rfl;omega
      |false=>have:=p2 rfl;omega
     replace H:=aM (H.out.step hp);clear hp p1 p2;go_wp2_with fail;go_roundg (E.n-a7)
     case measure=>omega
     case rel=>exact⟨a7,c4,A9,c9,ys,rfl,h7.2,by omega,by omega,OK2,⟨fun h0=>⟨(G2.out h0).1,by have:=(G2.out h0).2;omega⟩⟩,H⟩
end
end Go.Proofs.YtoimaaonloibfaaGreatDoor.Pa
namespace Go.Proofs.YtoimaaonloibfaaGreatDoor.Pa
open Go.RowKit W1 W2 PF Wf Lx
structure Ow(E:Env)(w wr:World)(n0 n1 a:Nat)(c:Int)(k n:Int)(ns:List ByteArray)(ks:List Nd)(vn vk:Value):Prop where
 p:Pt E w wr a c
 v2:Vb wr n0 #[.int .i64 0,.string ⟨#[]⟩,.float .f64 0,.int .i64 0,.bool false,.slice none 0 0,.slice none 0 0]
 v3:Vb wr n1 #[.int .i64 k,.string ⟨#[]⟩,.float .f64 0,.int .i64 n,.bool false,vn,vk]
 nr:NR wr (n0+1) vn ns
 kr:KR wr (n1+1) vk ks
section
variable {E:Env} {w wr w1 w2:World} {a a' b b2 n0 n1 q:Nat} {c c' k n:Int} {ns:List ByteArray} {ks ks2:List Nd} {v vn vk un uk:Value} {cs:Array Value} {y:Nd}
theorem Ow.step(h:Ow E w wr n0 n1 a c k n ns ks vn vk)(h2:Pt E wr w1 a' c'):Ow E w w1 n0 n1 a' c' k n ns ks vn vk:=
 ⟨h.p.step h2,h.v2.keep h.p.s h2,h.v3.keep h.p.s h2,h.nr.keep h.p.s h2,h.kr.keep h.p.s h2⟩
theorem Ow.below(h:Ow E w wr n0 n1 a c k n ns ks vn vk)(hb:Below wr.heap.size wr w1):Ow E w w1 n0 n1 a c k n ns ks vn vk:=
 ⟨h.p.below hb,h.v2.below hb,h.v3.below hb,h.nr.below hb,h.kr.below hb⟩
theorem Ow.drew(h:Ow E w wr n0 n1 a c k n ns ks vn vk):Ow E w wr.drew n0 n1 a c k n ns ks vn vk:=h.below (below_drew (bR _ _))
theorem Ow.alloc(h:Ow E w wr n0 n1 a c k n ns ks vn vk)(o:Obj):Ow E w (wr.alloc o) n0 n1 a c k n ns ks vn vk:=h.below (bA (bR _ _) o)
theorem Ow.kind(h:Ow E w wr n0 n1 a c k n ns ks vn vk)(hE:E.Fine)(h0:Ps E w a' c')(hB:E.w0.heap.size<=w.heap.size)(hwn:w.heap.size<=n1)(hne:n0≠n1)(m:Int):Ow E w (wr.setCell ⟨n1,0,none⟩ (.int .i64 m)) n0 n1 a c m n ns ks vn vk:=
 ⟨h.p.put hE h0 hB hwn 0 _,h.v2.off hne 0 _,h.v3.set 0 _,h.nr.set h.v3 0 _,h.kr.off (by omega) 0 _⟩
theorem Ow.count(h:Ow E w wr n0 n1 a c k n ns ks vn vk)(hE:E.Fine)(h0:Ps E w a' c')(hB:E.w0.heap.size<=w.heap.size)(hwn:w.heap.size<=n1)(hne:n0≠n1)(m:Int):Ow E w (wr.setCell ⟨n1,3,none⟩ (.int .i64 m)) n0 n1 a c k m ns ks vn vk:=
 ⟨h.p.put hE h0 hB hwn 3 _,h.v2.off hne 3 _,h.v3.set 3 _,h.nr.set h.v3 3 _,h.kr.off (by omega) 3 _⟩
theorem Ow.kids(hp:Pt E w wr a c)(hv2:Vb wr n0 #[.int .i64 0,.string ⟨#[]⟩,.float .f64 0,.int .i64 0,.bool false,.slice none 0 0,.slice none 0 0])(hv3:Vb wr n1 #[.int .i64 k,.string ⟨#[]⟩,.float .f64 0,.int .i64 n,.bool false,vn,vk])(hnr:NR wr (n0+1) vn ns)(hk:KR wr (n1+1) uk ks)(hE:E.Fine)(h0:Ps E w a' c')(hB:E.w0.heap.size<=w.heap.size)(hwn:w.heap.size<=n1)(hne:n0≠n1):Ow E w (wr.setCell ⟨n1,6,none⟩ uk) n0 n1 a c k n ns ks vn uk:=
 ⟨hp.put hE h0 hB hwn 6 _,hv2.off hne 6 _,hv3.set 6 _,hnr.set hv3 6 _,hk.off (by omega) 6 _⟩
theorem Ow.named(hp:Pt E w wr a c)(hv2:Vb wr n0 #[.int .i64 0,.string ⟨#[]⟩,.float .f64 0,.int .i64 0,.bool false,.slice none 0 0,.slice none 0 0])(hv3:Vb wr n1 #[.int .i64 k,.string ⟨#[]⟩,.float .f64 0,.int .i64 n,.bool false,vn,vk])(hnr:NR wr (n0+1) un ns)(hk:KR wr (n1+1) vk ks)(hE:E.Fine)(h0:Ps E w a' c')(hB:E.w0.heap.size<=w.heap.size)(hwn:w.heap.size<=n1)(hne:n0≠n1):Ow E w (wr.setCell ⟨n1,5,none⟩ un) n0 n1 a c k n ns ks un vk:=
 ⟨hp.put hE h0 hB hwn 5 _,hv2.off hne 5 _,hv3.set 5 _,hnr.set hv3 5 _,hk.off (by omega) 5 _⟩
theorem Ow.fin(h:Ow E w wr n0 n1 a c k n ns ks vn vk)(hE:E.Fine)(h0:Ps E w a' c')(hB:E.w0.heap.size<=w.heap.size)(hn:w.heap.size=n0)(hb:n0<n1):
  Pt E w (((((((wr.setCell ⟨n0,0,none⟩ (.int .i64 k)).setCell ⟨n0,1,none⟩ (.string ⟨#[]⟩)).setCell ⟨n0,2,none⟩ (.float .f64 0)).setCell ⟨n0,3,none⟩ (.int .i64 n)).setCell ⟨n0,4,none⟩ (.bool false)).setCell ⟨n0,5,none⟩ vn).setCell ⟨n0,6,none⟩ vk) a c/\
  Tr (((((((wr.setCell ⟨n0,0,none⟩ (.int .i64 k)).setCell ⟨n0,1,none⟩ (.string ⟨#[]⟩)).setCell ⟨n0,2,none⟩ (.float .f64 0)).setCell ⟨n0,3,none⟩ (.int .i64 n)).setCell ⟨n0,4,none⟩ (.bool false)).setCell ⟨n0,5,none⟩ vn).setCell ⟨n0,6,none⟩ vk) w.heap.size ⟨k,⟨#[]⟩,0,n,false,ns,ks⟩ vn vk/\
  (((((((wr.setCell ⟨n0,0,none⟩ (.int .i64 k)).setCell ⟨n0,1,none⟩ (.string ⟨#[]⟩)).setCell ⟨n0,2,none⟩ (.float .f64 0)).setCell ⟨n0,3,none⟩ (.int .i64 n)).setCell ⟨n0,4,none⟩ (.bool false)).setCell ⟨n0,5,none⟩ vn).setCell ⟨n0,6,none⟩ vk).heap[n0]? = some (.cells #[.int .i64 k,.string ⟨#[]⟩,.float .f64 0,.int .i64 n,.bool false,vn,vk] 27 (0,0)):=by
 obtain⟨h1,h2,h3⟩:=h.p.put7 hE h0 hB (b:=n0) (by omega) h.v2 rfl (.int .i64 k) (.string ⟨#[]⟩) (.float .f64 0) (.int .i64 n) (.bool false) vn vk;exact⟨h1,Tr.mk ((h.nr.far h3 (by omega)).lower (by omega)) ((h.kr.far h3 (by omega)).lower (by omega)),h2⟩
end
end Go.Proofs.YtoimaaonloibfaaGreatDoor.Pa
namespace Go.Proofs.YtoimaaonloibfaaGreatDoor.Pa
open Go.RowKit W1 W2 PF Wf Lx
attribute [local go_sem] run_store_float fld49_0 fld49_1 fld49_3
section
variable {E:Env} {a:Nat}
set_option maxRecDepth 10000 in
set_option maxHeartbeats 1500000 in
theorem local_any(hE:E.Fine)(IH:∀b,a<b->b<E.n->All E b)(ha:a<E.n):NC E 99 #[.pointer (some ⟨E.g,0,none⟩)] a .s 0 0 (fun _=>True):=by
 intro w c h hB;have HE:=aM hE;have HIH:=aM IH;have hpos:=hE.pos;have hlen:=hE.len;have HP:=aM h;have HB0:=aM hB.size;obtain⟨n0,hn0⟩:∃n0,w.heap.size=n0:=⟨_,rfl⟩;have HN0:=aM hn0;have H:=aM ((Pt.start h hB).alloc (.cells #[.int .i64 0,.string ⟨#[]⟩,.float .f64 0,.int .i64 0,.bool false,.slice none 0 0,.slice none 0 0] 27));have HV2:=aM (show Vb (w.alloc (.cells #[.int .i64 0,.string ⟨#[]⟩,.float .f64 0,.int .i64 0,.bool false,.slice none 0 0,.slice none 0 0] 27)) n0 #[.int .i64 0,.string ⟨#[]⟩,.float .f64 0,.int .i64 0,.bool false,.slice none 0 0,.slice none 0 0] by have:=Vb.new w #[.int .i64 0,.string ⟨#[]⟩,.float .f64 0,.int .i64 0,.bool false,.slice none 0 0,.slice none 0 0];rwa[hn0] at this);clear hE IH h hB;go_enter Tryz.func99,Tryz.ntmps99
 go_wp2_with fail;generalize w.alloc _=wz at H HV2|-;clear hn0;refine(hasWord_any HE.out H.out.s H.out.B ha _).mono ?_;rintro e w1 ⟨b1,a1,rfl,_,p1,p2,hp⟩;replace HV2:=aM (HV2.out.keep H.out.s hp);replace H:=aM (H.out.step hp);clear hp
 cases b1 with
 |true=>
  obtain⟨rfl,hlt⟩:=p1 rfl;clear p1 p2;go_wp2_with fail;refine(name_any HE.out H.out.s H.out.B hlt).mono ?_;rintro e w2 ⟨s,a2,c2,rfl,hs,q1,hA,q3,q4,hp⟩;replace HV2:=aM (HV2.out.keep H.out.s hp);replace H:=aM (H.out.step hp);have Q4:=aM q4;clear hp q4;have NN:=aM (NR.lit1 w2 (n0+1) (blk_lt HV2.out) s);replace HV2:=aM (HV2.out.alloc (.cells #[.string s] 9));replace H:=aM (H.out.alloc (.cells #[.string s] 9));have HSZ:=aM (blk_lt HV2.out);have HBD:=aM ((HIH.out a2 (by omega) hA).body _ _ c2 (some ⟨(w2.alloc (.cells #[.string s] 9)).heap.size,0,none⟩) 0 [] ((Pt.start H.out.s H.out.B).alloc (.cells #[] 9)) H.out.B.size H.out.s (NR.lit0 _ _ (Nat.le_refl _)) (fun nm h=>by simp at h) (by simp));have e9:(w2.alloc (.cells #[.string s] 9)).heap.size=w2.heap.size+1:=by simp
  go_wp2_with fail;rw[e9] at HBD;refine HBD.out.mono ?_;rintro e w4 ⟨y,Yn,yn,Yk,yk,a4,c4,rfl,ty,oy,k26,my,hp,_⟩;have K26:=aM k26;clear k26 HBD;replace HV2:=aM (HV2.out.keep H.out.s hp);replace NN:=aM (NN.out.keep H.out.s hp);replace H:=aM (H.out.step hp);have KY:=aM (KR.lit1 (ty.lower (b':=n0+1) (by have:=HSZ.out;omega)) (blk_lt HV2.out));have OY:=aM oy;have MY:=aM my;clear ty oy my hp;replace HV2:=aM (HV2.out.alloc (.cells #[.int .i64 y.k,.string y.s,.float .f64 y.x,.int .i64 y.n,.bool y.b,(.slice Yn y.names.length yn),(.slice Yk y.kids.length yk)] 27));replace NN:=aM (NN.out.alloc (.cells #[.int .i64 y.k,.string y.s,.float .f64 y.x,.int .i64 y.n,.bool y.b,(.slice Yn y.names.length yn),(.slice Yk y.kids.length yk)] 27));replace H:=aM (H.out.alloc (.cells #[.int .i64 y.k,.string y.s,.float .f64 y.x,.int .i64 y.n,.bool y.b,(.slice Yn y.names.length yn),(.slice Yk y.kids.length yk)] 27));obtain⟨z0,z1,z2,z3,z4,z5,z6⟩:=bC7 HV2.out;obtain⟨fz0,fz1,fz2,fz3,fz4,fz5,fz6⟩:=bF7 HV2.out;go_wp2_with fail;have HF:=aM (Tr.res (x:=⟨11,⟨#[]⟩,0,0,false,[s],[y]⟩) H.out HV2.out rfl (Tr.mk NN.out KY.out) HE.out HP.out HB0.out HN0.out (by omega));generalize ((((((((w4.alloc (.cells #[.int .i64 y.k,.string y.s,.float .f64 y.x,.int .i64 y.n,.bool y.b,(.slice Yn y.names.length yn),(.slice Yk y.kids.length yk)] 27)).setCell ⟨n0,0,none⟩ (.int .i64 11)).setCell ⟨n0,1,none⟩ (.string ⟨#[]⟩)).setCell ⟨n0,2,none⟩ (.float .f64 0)).setCell ⟨n0,3,none⟩ (.int .i64 0)).setCell ⟨n0,4,none⟩ (.bool false)).setCell ⟨n0,5,none⟩ (.slice (some ⟨w2.heap.size,0,none⟩) 1 1)).setCell ⟨n0,6,none⟩ (.slice (some ⟨w4.heap.size,0,none⟩) 1 1))=WF at HF|-;obtain⟨qq0,qq1,qq2,qq3,qq4,qq5,qq6⟩:=bC7 HF.out.2.2;refine bodyPost_ret (v:= .agg #[.int .i64 11,.string ⟨#[]⟩,.float .f64 0,.int .i64 0,.bool false,.slice (some ⟨w2.heap.size,0,none⟩) 1 1,.slice (some ⟨w4.heap.size,0,none⟩) 1 1]) (by simp[results,Tryz.results99,go_sem,qq0,qq1,qq2,qq3,qq4,qq5,qq6]) rfl ?_;exact⟨⟨11,⟨#[]⟩,0,0,false,[s],[y]⟩,_,1,_,1,a4,c4,rfl,HF.out.2.1,.lfn rfl (fun h0=>Tx.none (Nat.zero_le _) (by simp) (fun nm hm=>by(have e:=List.mem_singleton.1 hm);rw[e];exact⟨(Q4.out (MY.out.good h0).1).2.2.2,hs⟩)) (by simp) rfl K26.out OY.out,trivial,⟨by have:=MY.out.le;omega,MY.out.lt,fun _ _=>by have:=MY.out.le;omega,fun h0=>⟨(Q4.out (MY.out.good h0).1).1,by have:=(MY.out.good h0).2;have:=MY.out.le;have:=(Q4.out (MY.out.good h0).1).2.1;simp[wt_mk,wts];omega⟩⟩,HF.out.1⟩
 |false=>
  obtain rfl:=(p2 rfl).symm;clear p1 p2;have HSZ:=aM (blk_lt HV2.out);go_wp2_with fail;refine(names_any HE.out H.out.s H.out.B ha).mono ?_;rintro e w2 ⟨ns,vn,a1,c1,rfl,nn,hne,hnl,hnm,mn,hp⟩;obtain⟨An,cn,rfl⟩:=nn.sl;replace HV2:=aM (HV2.out.keep H.out.s hp);replace H:=aM (H.out.step hp);have hn1':=blk_lt HV2.out;obtain⟨n1,hn1⟩:∃n,w2.heap.size=n:=⟨_,rfl⟩;rw[hn1] at hn1';have NNM:=aM hnm;have MN:=aM mn;have h2:=mn.lt;have HO:=aM (show Ow E w (w2.alloc (.cells #[.int .i64 2,.string ⟨#[]⟩,.float .f64 0,.int .i64 0,.bool false,.slice An ns.length cn,.slice none 0 0] 27)) n0 n1 a1 c1 2 0 ns [] (.slice An ns.length cn) (.slice none 0 0) from⟨H.out.alloc _,HV2.out.alloc _,by have:=Vb.new w2 #[.int .i64 2,.string ⟨#[]⟩,.float .f64 0,.int .i64 0,.bool false,.slice An ns.length cn,.slice none 0 0];rwa[hn1] at this,(nn.lower (b':=n0+1) HSZ.out).alloc _,KR.nil _ _⟩);clear H HV2 nn hnm mn hp;go_wp2_with fail;generalize w2.alloc _=w3 at HO|-;clear hn1;refine(hasSign_any HE.out HO.out.p.s HO.out.p.B h2 _).mono ?_;rintro e w4 ⟨b2,a2,rfl,hb2,p1,p2,hp⟩;replace HO:=aM (HO.out.step hp);clear hp hb2
  go_upto_if 20 with fail
  go_cut [] from 20 to 23 (fun wc=>∃(a':Nat) (c':Int) (A:Option Addr) (cp:Nat) (xs:List Nd),a1<=a'/\a'<E.n/\Aside0 (∀x∈xs,Ok (c'=0) .e x)/\Aside0 (c'=0->c1=0/\wts xs<=3*(a'-a1))/\Aside0 (Ow E w wc n0 n1 a' c' 2 0 ns xs (.slice An ns.length cn) (.slice A xs.length cp)))
  case first=>
   cases b2 with
   |false=>
    obtain rfl:=(p2 rfl).symm;go_wp2_with fail;go_meet
    case rel=>exact⟨a1,c1,none,0,[],Nat.le_refl _,h2,⟨fun x hx=>by simp at hx⟩,⟨fun h0=>⟨h0,by simp[wts]⟩⟩,HO⟩
   |true=>
    obtain⟨rfl,hlt⟩:=p1 rfl;clear p1 p2;have HSZ2:=aM (blk_lt HO.out.v3);go_wp2_with fail;refine((HIH.out (a1+1) (by have:=MN.out.le;omega) hlt).list _ _ HO.out.p.s HO.out.p.B).mono ?_;rintro e w6 ⟨xs,A,cp,a2,c2,rfl,kx,ox,lx,mx,hp⟩;have KX:=aM (kx.lower (b':=n1+1) HSZ2.out);replace HO:=aM (HO.out.step hp);have OX:=aM ox;have MX:=aM mx;clear kx ox mx hp;have y6:=bC HO.out.v3 6;have fy6:=bF HO.out.v3 6;go_wp2_with fail;go_meet
    case rel=>exact⟨a2,c2,A,cp,xs,by have:=MX.out.le;omega,MX.out.lt,OX,⟨fun h0=>⟨(MX.out.good h0).1,by have:=(MX.out.good h0).2;omega⟩⟩,⟨Ow.kids HO.out.p HO.out.v2 HO.out.v3 HO.out.nr KX.out HE.out HP.out HB0.out (by have:=HN0.out;omega) (by omega)⟩⟩
  clear HO p1 p2;obtain⟨a2,c2,A,cp,xs,q1,q2,OX,G,HO⟩:=hcut;obtain⟨y0,y1,y2,y3,y4,y5,y6⟩:=bC7 HO.out.v3;obtain⟨z0,z1,z2,z3,z4,z5,z6⟩:=bC7 HO.out.v2;obtain⟨fz0,fz1,fz2,fz3,fz4,fz5,fz6⟩:=bF7 HO.out.v2;go_wp2_with fail;have HF:=aM (HO.out.fin HE.out HP.out HB0.out HN0.out (by omega));generalize (((((((wc.setCell ⟨n0,0,none⟩ (.int .i64 2)).setCell ⟨n0,1,none⟩ (.string ⟨#[]⟩)).setCell ⟨n0,2,none⟩ (.float .f64 0)).setCell ⟨n0,3,none⟩ (.int .i64 0)).setCell ⟨n0,4,none⟩ (.bool false)).setCell ⟨n0,5,none⟩ (.slice An ns.length cn)).setCell ⟨n0,6,none⟩ (.slice A xs.length cp))=WF at HF|-;obtain⟨qq0,qq1,qq2,qq3,qq4,qq5,qq6⟩:=bC7 HF.out.2.2;refine bodyPost_ret (v:= .agg #[.int .i64 2,.string ⟨#[]⟩,.float .f64 0,.int .i64 0,.bool false,.slice An ns.length cn,.slice A xs.length cp]) (by simp[results,Tryz.results99,go_sem,qq0,qq1,qq2,qq3,qq4,qq5,qq6]) rfl ?_;exact⟨⟨2,⟨#[]⟩,0,0,false,ns,xs⟩,An,cn,A,cp,a2,c2,rfl,HF.out.2.1,.loc rfl (fun h0=>Tx.none (Nat.zero_le _) (by simp) (NNM.out (G.out h0).1)) OX.out,trivial,⟨by have:=MN.out.le;omega,q2,fun _ h=>by have:=MN.out.pr rfl h;omega,fun h0=>⟨(MN.out.good (G.out h0).1).1,by have:=(G.out h0).2;have:=(MN.out.good (G.out h0).1).2;have:=MN.out.le;have:0<ns.length:=List.length_pos_iff.2 hne;simp[wt_mk];omega⟩⟩,HF.out.1⟩
end
end Go.Proofs.YtoimaaonloibfaaGreatDoor.Pa
namespace Go.Proofs.YtoimaaonloibfaaGreatDoor.Pa
open Go.RowKit W1 W2 PF Wf Lx
def KN(w:World)(b q:Nat)(v:Value)(xs:List Nd):Prop:=nodeK.R 27 w b (fun j=>j≠q) v xs
section
variable {E:Env} {w wr w1 w2:World} {a a' b b2 n0 n1 q:Nat} {c c' k n:Int} {ks ks2 xs ys:List Nd} {v vk un uk:Value} {cs:Array Value} {x y:Nd}
variable {ops:Array Oper} {rest:List Oper} {o:Oper} {act:Act} {Q:Exit->Act->World->Prop} {K:Act->World->Prop}
theorem KN.keep(h:KN wr b q v xs)(hs:Ps E wr a c)(h2:Pt E wr w1 a' c'):KN w1 b q v xs:=by
 obtain⟨cs,hg⟩:=hs.typed;exact Kd.R_mono (Kd.R_keep (Kd.R_types h hg (by decide)) h2.k.k (fun _ h=>h.2)) (fun _ h=>h.1)
theorem KN.below(h:KN wr b q v xs)(hb:Below wr.heap.size wr w1):KN w1 b q v xs:=Kd.R_below h hb
theorem KN.put(h:KN wr b q v xs)(j:Nat)(u:Value):KN (wr.setCell ⟨q,j,none⟩ u) b q v xs:=Kd.R_far h (p:=⟨q,j,none⟩) (fun k hk=>hk) u
theorem KN.kr(h:KN wr b q v xs):KR wr b v xs:=Kd.R_mono h (fun _ _=>trivial)
theorem KN.ne(h:KN wr b q v xs):∀k,v.ownBlock=some k->k≠q:=fun k hk=>h.1 k hk
theorem KR.kn_new(h:KR wr b v xs)(o:Obj):KN (wr.alloc o) b wr.heap.size v xs:=
 Kd.R_mono (Kd.R_bound h) (fun k hk=>by have:=hk.2.2.1;omega) |> fun h=>Kd.R_alloc h o
theorem KN.push_stepd(W:World)(hw:Region.wanted o (yielded ops act.tmps)=true)(s p:Operand)(ho:o.op = .call {callee:= .builtin .append,args:= #[s,p],argTypes:= #[25,25]})
  (hs:act.eval s=v) (h:KN wr b q v xs) {N:Nat} (hp:act.eval p = .slice (some ⟨N,0,none⟩) 1 1) (hN:wr.heap.size=N) (hy:Tr wr b2 y un uk) (hb:b<=b2) (hv:∀k,v.ownBlock=some k->k<b2) (hqb:q<b2)
  (hW:W=wr.alloc (.cells #[.int .i64 y.k,.string y.s,.float .f64 y.x,.int .i64 y.n,.bool y.b,un,uk] 27)) (hb0:b<=wr.heap.size) (hq0:q<wr.heap.size) (hl:xs.length<=100000)
  (h0:Ps E w a' c') (hE:E.Fine) (hB:E.w0.heap.size<=w.heap.size) (hwb:w.heap.size<=b) (hP:Pt E w wr a c)
  (hK:∀A1 c1 w1,KN w1 b q (.slice A1 (xs.length+1) c1) (xs++[y])->Pt E w w1 a c->(∀i cs,i<b->Vb wr i cs->Vb w1 i cs)->(∀cs,Vb wr q cs->Vb w1 q cs)->K (act.put o.dst (.slice A1 (xs.length+1) c1)) w1):
  if Region.wanted o (yielded ops act.tmps)=true then Oper.wp Tryz.prog o act W K Q else K (act.put o.dst undef) W:=by
 subst hW;subst hN;refine Kd.R_append_step (P:=Tryz.prog) nodeK (w0:=wr) b hw s p 25 27 (.agg #[.int .i64 0,.string ⟨#[]⟩,.float .f64 0,.int .i64 0,.bool false,.slice none 0 0,.slice none 0 0]) 96 ho Tryz.underlying25 info27 rfl (by decide) (by decide) v xs y [.int .i64 y.k,.string y.s,.float .f64 y.x,.int .i64 y.n,.bool y.b,un,uk] (fun j=>j≠q) (fun k=>k≠q/\some k≠v.ownBlock) hs hp
  (nodeK.M_lower hb (nodeK.M_mono (fun k hk=>⟨?_,fun e=> ?_⟩) (nodeK.M_bound hy))) (fun k hk=>hk) (fun k hk=>by omega) h (bR _ _) hb0 (by omega) ?_
 ·have:=hk.2.1
  omega
 ·have:=hv _ e.symm
  have:=hk.2.1;omega
 ·intro v1 w1 hR _ hg _
  obtain⟨A1,c1,rfl⟩:=Kd.R_slice hR;rw[List.length_append,List.length_singleton] at hR|-;have hr:∀k,v.ownBlock=some k->b<=k:=fun k hk=>Kd.R_base h k hk
  exact hK A1 c1 w1 hR (hP.grown h0 hE hB hg (fun k hk=>Nat.le_trans hwb (hr k hk))) (fun q cs hq hV=>hV.grown hg hr hq) (fun cs hV=>blk_grown hV hg (fun e=>h.ne _ e.symm rfl))
theorem KN.cat_stepd(hw:Region.wanted o (yielded ops act.tmps)=true)(t p:Operand)(ho:o.op = .call {callee:= .builtin .append,args:= #[t,p],argTypes:= #[25,25]})
  (hs:act.eval t=v) (h:KN wr b q v xs) {A:Option Addr} {m cp:Nat} (hp:act.eval p = .slice A m cp) (hy:nodeK.R 27 wr b2 (fun j=>j≠q/\some j≠v.ownBlock) (.slice A m cp) ys) (hb:b<=b2)
  (hb0:b<=wr.heap.size) (hq0:q<wr.heap.size) (hl:xs.length+m<=100000)
  (h0:Ps E w a' c') (hE:E.Fine) (hB:E.w0.heap.size<=w.heap.size) (hwb:w.heap.size<=b) (hP:Pt E w wr a c)
  (hK:∀A1 c1 w1,KN w1 b q (.slice A1 (xs.length+ys.length) c1) (xs++ys)->Pt E w w1 a c->(∀i cs,i<b->Vb wr i cs->Vb w1 i cs)->(∀cs,Vb wr q cs->Vb w1 q cs)->K (act.put o.dst (.slice A1 (xs.length+ys.length) c1)) w1):
  if Region.wanted o (yielded ops act.tmps)=true then Oper.wp Tryz.prog o act wr K Q else K (act.put o.dst undef) wr:=by
 obtain⟨A',cp',he,hlc,hr⟩:=OwnRow.reads hy.2
 injection he with e1 e2 e3
 subst e1;refine Kd.R_append_rows_step (P:=Tryz.prog) nodeK (Rr:=nodeK.M wr b (fun j=>j≠q/\some j≠v.ownBlock)) (w0:=wr) b hw t p 25 27 (.agg #[.int .i64 0,.string ⟨#[]⟩,.float .f64 0,.int .i64 0,.bool false,.slice none 0 0,.slice none 0 0]) 96 ho Tryz.underlying25 info27 rfl (by decide) (by decide) v xs ys A m cp (fun j=>j≠q) (fun j=>j≠q/\some j≠v.ownBlock) hs hp h
  ?_ (fun _ _ hk=>hk) (fun j hj=>hj) (fun j hj=>by omega) (bR _ _) hb0 (by omega) ?_
 ·rw[e2]
  exact hr.imp_ (bR _ _) (fun _ _ hk=>nodeK.M_lower hb (nodeK.M_mono (fun j hj=>hj.1) hk))
 ·intro v1 w1 hR _ hg _
  obtain⟨A1,c1,rfl⟩:=Kd.R_slice hR;rw[List.length_append] at hR|-;have hr:∀k,v.ownBlock=some k->b<=k:=fun k hk=>Kd.R_base h k hk
  exact hK A1 c1 w1 hR (hP.grown h0 hE hB hg (fun k hk=>Nat.le_trans hwb (hr k hk))) (fun q cs hq hV=>hV.grown hg hr hq) (fun cs hV=>blk_grown hV hg (fun e=>h.ne _ e.symm rfl))
theorem KR.kn_cat(h:KR wr b2 v ys){u:Value}(hu:∀k,u.ownBlock=some k->k<b2)(hq:q<b2):nodeK.R 27 wr b2 (fun j=>j≠q/\some j≠u.ownBlock) v ys:=
 Kd.R_mono (Kd.R_bound h) (fun i hi=>⟨by have:=hi.2.1;omega,fun e=>by have:=hu _ e.symm;have:=hi.2.1;omega⟩)
structure On(E:Env)(w wr:World)(n0 n1 a:Nat)(c:Int)(k n:Int)(ks:List Nd)(vk:Value):Prop where
 p:Pt E w wr a c
 v2:Vb wr n0 #[.int .i64 0,.string ⟨#[]⟩,.float .f64 0,.int .i64 0,.bool false,.slice none 0 0,.slice none 0 0]
 v3:Vb wr n1 #[.int .i64 k,.string ⟨#[]⟩,.float .f64 0,.int .i64 n,.bool false,.slice none 0 0,vk]
 kr:KN wr (n0+1) n1 vk ks
theorem On.step(h:On E w wr n0 n1 a c k n ks vk)(h2:Pt E wr w1 a' c'):On E w w1 n0 n1 a' c' k n ks vk:=
 ⟨h.p.step h2,h.v2.keep h.p.s h2,h.v3.keep h.p.s h2,h.kr.keep h.p.s h2⟩
theorem On.below(h:On E w wr n0 n1 a c k n ks vk)(hb:Below wr.heap.size wr w1):On E w w1 n0 n1 a c k n ks vk:=
 ⟨h.p.below hb,h.v2.below hb,h.v3.below hb,h.kr.below hb⟩
theorem On.drew(h:On E w wr n0 n1 a c k n ks vk):On E w wr.drew n0 n1 a c k n ks vk:=h.below (below_drew (bR _ _))
theorem On.alloc(h:On E w wr n0 n1 a c k n ks vk)(o:Obj):On E w (wr.alloc o) n0 n1 a c k n ks vk:=h.below (bA (bR _ _) o)
theorem On.count(h:On E w wr n0 n1 a c k n ks vk)(hE:E.Fine)(h0:Ps E w a' c')(hB:E.w0.heap.size<=w.heap.size)(hwn:w.heap.size<=n1)(hne:n0≠n1)(m:Int):On E w (wr.setCell ⟨n1,3,none⟩ (.int .i64 m)) n0 n1 a c k m ks vk:=
 ⟨h.p.put hE h0 hB hwn 3 _,h.v2.off hne 3 _,h.v3.set 3 _,h.kr.put 3 _⟩
theorem On.kids(hp:Pt E w wr a c)(hv2:Vb wr n0 #[.int .i64 0,.string ⟨#[]⟩,.float .f64 0,.int .i64 0,.bool false,.slice none 0 0,.slice none 0 0])(hv3:Vb wr n1 #[.int .i64 k,.string ⟨#[]⟩,.float .f64 0,.int .i64 n,.bool false,.slice none 0 0,vk])(hk:KN wr (n0+1) n1 uk ks)(hE:E.Fine)(h0:Ps E w a' c')(hB:E.w0.heap.size<=w.heap.size)(hwn:w.heap.size<=n1)(hne:n0≠n1):On E w (wr.setCell ⟨n1,6,none⟩ uk) n0 n1 a c k n ks uk:=
 ⟨hp.put hE h0 hB hwn 6 _,hv2.off hne 6 _,hv3.set 6 _,hk.put 6 _⟩
theorem On.fin(h:On E w wr n0 n1 a c k n ks vk)(hE:E.Fine)(h0:Ps E w a' c')(hB:E.w0.heap.size<=w.heap.size)(hn:w.heap.size=n0):
  Pt E w (((((((wr.setCell ⟨n0,0,none⟩ (.int .i64 k)).setCell ⟨n0,1,none⟩ (.string ⟨#[]⟩)).setCell ⟨n0,2,none⟩ (.float .f64 0)).setCell ⟨n0,3,none⟩ (.int .i64 n)).setCell ⟨n0,4,none⟩ (.bool false)).setCell ⟨n0,5,none⟩ (.slice none 0 0)).setCell ⟨n0,6,none⟩ vk) a c/\
  Tr (((((((wr.setCell ⟨n0,0,none⟩ (.int .i64 k)).setCell ⟨n0,1,none⟩ (.string ⟨#[]⟩)).setCell ⟨n0,2,none⟩ (.float .f64 0)).setCell ⟨n0,3,none⟩ (.int .i64 n)).setCell ⟨n0,4,none⟩ (.bool false)).setCell ⟨n0,5,none⟩ (.slice none 0 0)).setCell ⟨n0,6,none⟩ vk) w.heap.size ⟨k,⟨#[]⟩,0,n,false,[],ks⟩ (.slice none 0 0) vk/\
  (((((((wr.setCell ⟨n0,0,none⟩ (.int .i64 k)).setCell ⟨n0,1,none⟩ (.string ⟨#[]⟩)).setCell ⟨n0,2,none⟩ (.float .f64 0)).setCell ⟨n0,3,none⟩ (.int .i64 n)).setCell ⟨n0,4,none⟩ (.bool false)).setCell ⟨n0,5,none⟩ (.slice none 0 0)).setCell ⟨n0,6,none⟩ vk).heap[n0]? = some (.cells #[.int .i64 k,.string ⟨#[]⟩,.float .f64 0,.int .i64 n,.bool false,.slice none 0 0,vk] 27 (0,0)):=by
 obtain⟨h1,h2,h3⟩:=h.p.put7 hE h0 hB (b:=n0) (by omega) h.v2 rfl (.int .i64 k) (.string ⟨#[]⟩) (.float .f64 0) (.int .i64 n) (.bool false) (.slice none 0 0) vk;exact⟨h1,Tr.mk (NR.nil _ _) ((h.kr.kr.far h3 (by omega)).lower (by omega)),h2⟩
def TrN(w:World)(b q:Nat)(x:Nd)(vn vk:Value):Prop:=nodeK.M w b (fun j=>j≠q) x [.int .i64 x.k,.string x.s,.float .f64 x.x,.int .i64 x.n,.bool x.b,vn,vk]
theorem Tr.n_new{vn:Value}(h:Tr wr b x vn vk)(hq:wr.heap.size<=q):TrN wr b q x vn vk:=nodeK.M_mono (fun k hk=>by have:=hk.2.2.1;omega) (nodeK.M_bound h)
theorem Tr.n_old{vn:Value}(h:Tr wr b2 x vn vk)(hq:q<b2)(hb:b<=b2):TrN wr b q x vn vk:=nodeK.M_lower hb (nodeK.M_mono (fun k hk=>by have:=hk.2.1;omega) (nodeK.M_bound h))
theorem TrN.below{vn:Value}(h:TrN wr b q x vn vk)(hb:Below wr.heap.size wr w1):TrN w1 b q x vn vk:=Kd.M_below h hb
theorem TrN.alloc{vn:Value}(h:TrN wr b q x vn vk)(o:Obj):TrN (wr.alloc o) b q x vn vk:=h.below (bA (bR _ _) o)
theorem TrN.keep{vn:Value}(h:TrN wr b q x vn vk)(hs:Ps E wr a c)(h2:Pt E wr w1 a' c'):TrN w1 b q x vn vk:=by
 obtain⟨cs,hg⟩:=hs.typed;exact nodeK.M_mono (fun _ h=>h.1) (Kd.M_keep (Kd.M_types h hg (by decide)) h2.k.k (fun _ h=>h.2))
theorem TrN.reps{vn:Value}(h:TrN wr b q x vn vk):Reps (nodeK.M wr b (fun j=>j≠q)) 7 [x] [.int .i64 x.k,.string x.s,.float .f64 x.x,.int .i64 x.n,.bool x.b,vn,vk]:=by
 have:=Reps.snoc (Reps.none (nodeK.M wr b (fun j=>j≠q)) 7) h rfl;exact this
theorem KN.lit2{vn un:Value}(h:TrN wr b q x vn vk)(h2:TrN wr b q y un uk)(hb:b<=wr.heap.size)(hq:wr.heap.size≠q):KN (wr.alloc (.cells #[.int .i64 x.k,.string x.s,.float .f64 x.x,.int .i64 x.n,.bool x.b,vn,vk,.int .i64 y.k,.string y.s,.float .f64 y.x,.int .i64 y.n,.bool y.b,un,uk] 27)) b q (.slice (some ⟨wr.heap.size,0,none⟩) 2 2) [x,y]:=
 R_litd nodeK wr b 27 (xs:=[x,y]) (Kd.reps_append h.reps h2.reps) (fun _ h=>h) hq hb (by simp)
theorem On.laid{vn un:Value}(p:Pt E w wr a c)(v2:Vb wr n0 #[.int .i64 0,.string ⟨#[]⟩,.float .f64 0,.int .i64 0,.bool false,.slice none 0 0,.slice none 0 0])(tx:Tr wr (n0+1) x vn vk)(ty:Tr wr b2 y un uk)(hb:n0+1<=b2)(k:Int):
  On E w ((wr.alloc (.cells #[.int .i64 x.k,.string x.s,.float .f64 x.x,.int .i64 x.n,.bool x.b,vn,vk,.int .i64 y.k,.string y.s,.float .f64 y.x,.int .i64 y.n,.bool y.b,un,uk] 27)).alloc (.cells #[.int .i64 k,.string ⟨#[]⟩,.float .f64 0,.int .i64 0,.bool false,.slice none 0 0,.slice (some ⟨wr.heap.size,0,none⟩) 2 2] 27)) n0 (wr.heap.size+1) a c k 0 [x,y] (.slice (some ⟨wr.heap.size,0,none⟩) 2 2):=by
 have hs:=blk_lt v2;have e1:(wr.alloc (.cells #[.int .i64 x.k,.string x.s,.float .f64 x.x,.int .i64 x.n,.bool x.b,vn,vk,.int .i64 y.k,.string y.s,.float .f64 y.x,.int .i64 y.n,.bool y.b,un,uk] 27)).heap.size=wr.heap.size+1:=by simp
 refine⟨(p.alloc _).alloc _,(v2.alloc _).alloc _,?_,?_⟩
 ·have:=Vb.new (wr.alloc (.cells #[.int .i64 x.k,.string x.s,.float .f64 x.x,.int .i64 x.n,.bool x.b,vn,vk,.int .i64 y.k,.string y.s,.float .f64 y.x,.int .i64 y.n,.bool y.b,un,uk] 27)) #[.int .i64 k,.string ⟨#[]⟩,.float .f64 0,.int .i64 0,.bool false,.slice none 0 0,.slice (some ⟨wr.heap.size,0,none⟩) 2 2]
  rwa[e1] at this
 ·have:=(KR.lit2 tx (ty.lower hb) hs).kn_new (.cells #[.int .i64 k,.string ⟨#[]⟩,.float .f64 0,.int .i64 0,.bool false,.slice none 0 0,.slice (some ⟨wr.heap.size,0,none⟩) 2 2] 27)
  rwa[e1] at this
theorem On.laid2{vn un:Value}(p:Pt E w wr a c)(v2:Vb wr n0 #[.int .i64 0,.string ⟨#[]⟩,.float .f64 0,.int .i64 0,.bool false,.slice none 0 0,.slice none 0 0])(tx:Tr wr (n0+1) x vn vk)(ty:Tr wr b2 y un uk)(hb:n0+1<=b2)(k:Int):
  On E w ((wr.alloc (.cells #[.int .i64 k,.string ⟨#[]⟩,.float .f64 0,.int .i64 0,.bool false,.slice none 0 0,.slice (some ⟨wr.heap.size+1,0,none⟩) 2 2] 27)).alloc (.cells #[.int .i64 x.k,.string x.s,.float .f64 x.x,.int .i64 x.n,.bool x.b,vn,vk,.int .i64 y.k,.string y.s,.float .f64 y.x,.int .i64 y.n,.bool y.b,un,uk] 27)) n0 wr.heap.size a c k 0 [x,y] (.slice (some ⟨wr.heap.size+1,0,none⟩) 2 2):=by
 have hs:=blk_lt v2;have e1:(wr.alloc (.cells #[.int .i64 k,.string ⟨#[]⟩,.float .f64 0,.int .i64 0,.bool false,.slice none 0 0,.slice (some ⟨wr.heap.size+1,0,none⟩) 2 2] 27)).heap.size=wr.heap.size+1:=by simp
 refine⟨(p.alloc _).alloc _,(v2.alloc _).alloc _,(Vb.new _ _).alloc _,?_⟩;have:=KN.lit2 ((tx.n_new (Nat.le_refl _)).alloc (.cells #[.int .i64 k,.string ⟨#[]⟩,.float .f64 0,.int .i64 0,.bool false,.slice none 0 0,.slice (some ⟨wr.heap.size+1,0,none⟩) 2 2] 27)) (((ty.lower hb).n_new (Nat.le_refl _)).alloc (.cells #[.int .i64 k,.string ⟨#[]⟩,.float .f64 0,.int .i64 0,.bool false,.slice none 0 0,.slice (some ⟨wr.heap.size+1,0,none⟩) 2 2] 27)) (by rw[e1];omega) (by rw[e1];omega)
 rwa[e1] at this
theorem On.laid3{vn un:Value}(p:Pt E w wr a c)(v2:Vb wr n0 #[.int .i64 0,.string ⟨#[]⟩,.float .f64 0,.int .i64 0,.bool false,.slice none 0 0,.slice none 0 0])(v3:Vb wr q #[.int .i64 0,.string ⟨#[]⟩,.float .f64 0,.int .i64 0,.bool false,.slice none 0 0,.slice none 0 0])(tx:TrN wr (n0+1) q x vn vk)(ty:Tr wr b2 y un uk)(hqb:q<b2)(hq:n0<q)(hE:E.Fine)(h0:Ps E w a' c')(hB:E.w0.heap.size<=w.heap.size)(hwn:w.heap.size<=q)(k:Int):
  On E w ((((((((wr.alloc (.cells #[.int .i64 x.k,.string x.s,.float .f64 x.x,.int .i64 x.n,.bool x.b,vn,vk,.int .i64 y.k,.string y.s,.float .f64 y.x,.int .i64 y.n,.bool y.b,un,uk] 27)).setCell ⟨q,0,none⟩ (.int .i64 k)).setCell ⟨q,1,none⟩ (.string ⟨#[]⟩)).setCell ⟨q,2,none⟩ (.float .f64 0)).setCell ⟨q,3,none⟩ (.int .i64 0)).setCell ⟨q,4,none⟩ (.bool false)).setCell ⟨q,5,none⟩ (.slice none 0 0)).setCell ⟨q,6,none⟩ (.slice (some ⟨wr.heap.size,0,none⟩) 2 2)) n0 q a c k 0 [x,y] (.slice (some ⟨wr.heap.size,0,none⟩) 2 2):=by
 have hs:=blk_lt v2;have hs3:=blk_lt v3;obtain⟨h1,h2,h3⟩:=(p.alloc (.cells #[.int .i64 x.k,.string x.s,.float .f64 x.x,.int .i64 x.n,.bool x.b,vn,vk,.int .i64 y.k,.string y.s,.float .f64 y.x,.int .i64 y.n,.bool y.b,un,uk] 27)).put7 hE h0 hB (b:=q) hwn (v3.alloc (.cells #[.int .i64 x.k,.string x.s,.float .f64 x.x,.int .i64 x.n,.bool x.b,vn,vk,.int .i64 y.k,.string y.s,.float .f64 y.x,.int .i64 y.n,.bool y.b,un,uk] 27)) rfl (.int .i64 k) (.string ⟨#[]⟩) (.float .f64 0) (.int .i64 0) (.bool false) (.slice none 0 0) (.slice (some ⟨wr.heap.size,0,none⟩) 2 2);refine⟨h1,(h3 n0 (by omega)).trans (v2.alloc _),h2,?_⟩;have:=KN.lit2 tx (ty.n_old hqb (by omega)) (by omega) (by omega);exact Kd.R_step this (fun k hk _=>h3 k hk)
end
end Go.Proofs.YtoimaaonloibfaaGreatDoor.Pa
namespace Go.Proofs.YtoimaaonloibfaaGreatDoor.Pa
open Go.RowKit W1 W2 PF Wf Lx
attribute [local go_sem] run_store_float fld49_0 fld49_1 fld49_3
structure Pf1(E:Env)(w wr:World)(n0 n1 a:Nat)(c:Int)(x:Nd)(vn vk:Value):Prop where
 p:Pt E w wr a c
 v2:Vb wr n0 #[.int .i64 0,.string ⟨#[]⟩,.float .f64 0,.int .i64 0,.bool false,.slice none 0 0,.slice none 0 0]
 v3:Vb wr n1 #[.int .i64 x.k,.string x.s,.float .f64 x.x,.int .i64 x.n,.bool x.b,vn,vk]
 t:Tr wr (n0+1) x vn vk
section
variable {E:Env} {w wr w1:World} {a a' n0 n1:Nat} {c c':Int} {x:Nd} {vn vk:Value}
theorem Pf1.step(h:Pf1 E w wr n0 n1 a c x vn vk)(h2:Pt E wr w1 a' c'):Pf1 E w w1 n0 n1 a' c' x vn vk:=
 ⟨h.p.step h2,h.v2.keep h.p.s h2,h.v3.keep h.p.s h2,h.t.keep h.p.s h2⟩
theorem Pf1.below(h:Pf1 E w wr n0 n1 a c x vn vk)(hb:Below wr.heap.size wr w1):Pf1 E w w1 n0 n1 a c x vn vk:=
 ⟨h.p.below hb,h.v2.below hb,h.v3.below hb,h.t.below hb⟩
theorem isS_s{s:ByteArray}(h:E.isS a s=true)(ha:a<E.n)(hE:E.Fine):a+1<E.n:=Env.not_end hE ha (by rw[isS_k h];decide)
end
section
variable {E:Env} {a:Nat}
set_option maxRecDepth 10000 in
set_option maxHeartbeats 16000000 in
theorem plain_any(hE:E.Fine)(IH:∀b,a<b->b<E.n->All E b)(ha:a<E.n)(hPre:NC E 127 #[.pointer (some ⟨E.g,0,none⟩)] a .e 1 0 (fun _=>True)):NC E 100 #[.pointer (some ⟨E.g,0,none⟩)] a .s 0 0 (fun _=>True):=by
 intro w c h hB;have HE:=aM hE;have HIH:=aM IH;have HPRE:=aM hPre;have hpos:=hE.pos;have hlen:=hE.len;have HP:=aM h;have HB0:=aM hB.size;obtain⟨n0,hn0⟩:∃n0,w.heap.size=n0:=⟨_,rfl⟩;have HN0:=aM hn0;have H:=aM ((Pt.start h hB).alloc (.cells #[.int .i64 0,.string ⟨#[]⟩,.float .f64 0,.int .i64 0,.bool false,.slice none 0 0,.slice none 0 0] 27));have HV2:=aM (show Vb (w.alloc (.cells #[.int .i64 0,.string ⟨#[]⟩,.float .f64 0,.int .i64 0,.bool false,.slice none 0 0,.slice none 0 0] 27)) n0 #[.int .i64 0,.string ⟨#[]⟩,.float .f64 0,.int .i64 0,.bool false,.slice none 0 0,.slice none 0 0] by have:=Vb.new w #[.int .i64 0,.string ⟨#[]⟩,.float .f64 0,.int .i64 0,.bool false,.slice none 0 0,.slice none 0 0];rwa[hn0] at this);clear hE IH h hB hPre;go_enter Tryz.func100,Tryz.ntmps100
 go_wp2_with fail;generalize w.alloc _=wz at H HV2|-;clear hn0;have HSZ:=aM (blk_lt HV2.out);refine(HPRE.out _ _ H.out.s H.out.B).mono ?_;rintro e w3 ⟨x,An,cn,Ak,ck,a2,c2,rfl,tx,ox,_,mx,hp⟩;replace HV2:=aM (HV2.out.keep H.out.s hp);replace H:=aM (H.out.step hp);have OX:=aM ox;have MX:=aM mx;have hA:=mx.lt;have hle:=mx.le;obtain⟨n1,hn1⟩:∃n,w3.heap.size=n:=⟨_,rfl⟩;have hn01:n0<n1:=by rw[<-hn1];exact blk_lt HV2.out
 have H1:=aM (show Pf1 E w (w3.alloc (.cells #[.int .i64 x.k,.string x.s,.float .f64 x.x,.int .i64 x.n,.bool x.b,(.slice An x.names.length cn),(.slice Ak x.kids.length ck)] 27)) n0 n1 a2 c2 x (.slice An x.names.length cn) (.slice Ak x.kids.length ck) from⟨H.out.alloc _,HV2.out.alloc _,by have:=Vb.new w3 #[.int .i64 x.k,.string x.s,.float .f64 x.x,.int .i64 x.n,.bool x.b,(.slice An x.names.length cn),(.slice Ak x.kids.length ck)];rwa[hn1] at this,(tx.lower (b':=n0+1) HSZ.out).alloc _⟩);clear H HV2 tx ox mx hp;go_upto_region 2 with fail;generalize w3.alloc _=w4 at H1|-;have H:=H1;clear H1 hn1
 go_cut [16] from 9 to 16 (fun v wc=>∃b:Bool,v = .bool b/\(b=false->a2+1<E.n)/\Aside0 (Pf1 E w wc n0 n1 a2 c2 x (.slice An x.names.length cn) (.slice Ak x.kids.length ck)))
 case first=>
  go_wp2_with fail;refine(isSign_q HE.out H.out.p.s hA _).mono ?_;rintro e w6 ⟨rfl,hb⟩;replace H:=aM (H.out.below hb);clear hb;obtain⟨b1,hb1⟩:∃b,E.isS a2 ⟨#[61]⟩=b:=⟨_,rfl⟩;rw[hb1]
  cases b1 with
  |true=>
   go_wp2_with fail;go_meet
   case rel=>exact⟨_,rfl,fun _=>isS_s hb1 hA HE.out,H⟩
  |false=>
   go_wp2_with fail;refine(isSign_q HE.out H.out.p.s hA _).mono ?_;rintro e w7 ⟨rfl,hb⟩;replace H:=aM (H.out.below hb);clear hb;obtain⟨b2,hb2⟩:∃b,E.isS a2 ⟨#[44]⟩=b:=⟨_,rfl⟩;rw[hb2]
   cases b2 with
   |true=>
    go_wp2_with fail;go_meet
    case rel=>exact⟨_,rfl,fun _=>isS_s hb2 hA HE.out,H⟩
   |false=>
    go_wp2_with fail;go_meet
    case rel=>exact⟨_,rfl,fun h=>by simp at h,H⟩
 clear H;obtain⟨b16,rfl,hmore,H⟩:=hcut
 cases b16 with
 |true=>
  clear hmore;go_upto_region 3 with fail
  go_cut [23] from 16 to 23 (fun v wc=>∃b:Bool,v = .bool b/\Aside0 (Pf1 E w wc n0 n1 a2 c2 x (.slice An x.names.length cn) (.slice Ak x.kids.length ck)))
  case first=>
   obtain⟨y0,y1,y2,y3,y4,y5,y6⟩:=bC7 H.out.v3;obtain⟨b1,hb1⟩:∃b:Bool,(x.k==33)=b:=⟨_,rfl⟩
   cases b1 with
   |false=>
    go_wp2_with fail;go_meet
    case rel=>exact⟨_,rfl,H⟩
   |true=>
    go_wp2_with fail;refine(isCall_any OX.out (nodeK.K_of_M H.out.t)).mono ?_;rintro e w6 ⟨b2,rfl,hb⟩;replace H:=aM (H.out.below hb);clear hb;go_wp2_with fail;go_meet
    case rel=>exact⟨_,rfl,H⟩
  clear H;obtain⟨b23,rfl,H⟩:=hcut
  go_upto_if 23 with fail
  go_cut [] from 23 to 25 (fun wc=>∃(a':Nat) (c':Int),a2<=a'/\a'<E.n/\Aside0 (c'=0->c2=0)/\Aside0 (Pf1 E w wc n0 n1 a' c' x (.slice An x.names.length cn) (.slice Ak x.kids.length ck)))
  case first=>
   cases b23 with
   |true=>
    go_wp2_with fail;refine(tell_any HE.out H.out.p.s H.out.p.B 2).mono ?_;rintro e w6 ⟨rfl,h2⟩;replace H:=aM (H.out.step h2);clear h2;go_wp2_with fail;go_meet
    case rel=>exact⟨E.n-1,_,by omega,by omega,⟨tell_g (by decide)⟩,H⟩
   |false=>
    go_wp2_with fail;go_meet
    case rel=>exact⟨a2,c2,by omega,hA,⟨fun h=>h⟩,H⟩
  clear H;obtain⟨a3,c3,g1,g2,G3,H⟩:=hcut;go_upto_region 5 with fail
  go_cut [33] from 25 to 33 (fun v wc=>∃b:Bool,v = .bool b/\Aside0 (Pf1 E w wc n0 n1 a3 c3 x (.slice An x.names.length cn) (.slice Ak x.kids.length ck)))
  case first=>
   obtain⟨y0,y1,y2,y3,y4,y5,y6⟩:=bC7 H.out.v3;obtain⟨b1,hb1⟩:∃b:Bool,(x.k != 29)=b:=⟨_,rfl⟩;obtain⟨b2,hb2⟩:∃b:Bool,(x.k != 30)=b:=⟨_,rfl⟩
   cases b1 with
   |false=>
    go_wp2_with fail;go_meet
    case rel=>exact⟨_,rfl,H⟩
   |true=>
    go_wp2_with fail;go_meet
    case rel=>exact⟨_,rfl,H⟩
  clear H;obtain⟨b33,rfl,H⟩:=hcut
  go_upto_if 33 with fail
  go_cut [] from 33 to 35 (fun wc=>∃(a':Nat) (c':Int),a3<=a'/\a'<E.n/\Aside0 (c'=0->c3=0)/\Aside0 (Pf1 E w wc n0 n1 a' c' x (.slice An x.names.length cn) (.slice Ak x.kids.length ck)))
  case first=>
   cases b33 with
   |true=>
    go_wp2_with fail;refine(tell_any HE.out H.out.p.s H.out.p.B 1).mono ?_;rintro e w6 ⟨rfl,h2⟩;replace H:=aM (H.out.step h2);clear h2;go_wp2_with fail;go_meet
    case rel=>exact⟨E.n-1,_,by omega,by omega,⟨tell_g (by decide)⟩,H⟩
   |false=>
    go_wp2_with fail;go_meet
    case rel=>exact⟨a3,c3,by omega,g2,⟨fun h=>h⟩,H⟩
  clear H;obtain⟨a4,c4,f1,f2,F3,H⟩:=hcut;obtain⟨y0,y1,y2,y3,y4,y5,y6⟩:=bC7 H.out.v3;have KX:=aM (KR.lit1 H.out.t (by have:=blk_lt H.out.v2;omega));replace H:=aM (H.out.below (bA (bR _ _) (.cells #[.int .i64 x.k,.string x.s,.float .f64 x.x,.int .i64 x.n,.bool x.b,(.slice An x.names.length cn),(.slice Ak x.kids.length ck)] 27)));obtain⟨z0,z1,z2,z3,z4,z5,z6⟩:=bC7 H.out.v2;obtain⟨fz0,fz1,fz2,fz3,fz4,fz5,fz6⟩:=bF7 H.out.v2;go_wp2_with fail;have HF:=aM (Tr.res (x:=⟨4,⟨#[]⟩,0,0,false,[],[x]⟩) H.out.p H.out.v2 rfl (Tr.mk (NR.nil _ _) KX.out) HE.out HP.out HB0.out HN0.out (by omega));generalize ((((((((wc.alloc (.cells #[.int .i64 x.k,.string x.s,.float .f64 x.x,.int .i64 x.n,.bool x.b,(.slice An x.names.length cn),(.slice Ak x.kids.length ck)] 27)).setCell ⟨n0,0,none⟩ (.int .i64 4)).setCell ⟨n0,1,none⟩ (.string ⟨#[]⟩)).setCell ⟨n0,2,none⟩ (.float .f64 0)).setCell ⟨n0,3,none⟩ (.int .i64 0)).setCell ⟨n0,4,none⟩ (.bool false)).setCell ⟨n0,5,none⟩ (.slice none 0 0)).setCell ⟨n0,6,none⟩ (.slice (some ⟨wc.heap.size,0,none⟩) 1 1))=WF at HF|-;obtain⟨qq0,qq1,qq2,qq3,qq4,qq5,qq6⟩:=bC7 HF.out.2.2;refine bodyPost_ret (v:= .agg #[.int .i64 4,.string ⟨#[]⟩,.float .f64 0,.int .i64 0,.bool false,.slice none 0 0,.slice (some ⟨wc.heap.size,0,none⟩) 1 1]) (by simp[results,Tryz.results100,go_sem,qq0,qq1,qq2,qq3,qq4,qq5,qq6]) rfl ?_;exact⟨⟨4,⟨#[]⟩,0,0,false,[],[x]⟩,none,0,_,1,a4,c4,rfl,HF.out.2.1,.cst rfl (fun _=>Tx.bare (by decide)) rfl (OX.out.mono (fun h0=>G3.out (F3.out h0))),trivial,⟨by have:=MX.out.le;omega,f2,fun h1 h2=>by have:=MX.out.pr rfl h2;omega,fun h0=>⟨(MX.out.good (G3.out (F3.out h0))).1,by have:=(MX.out.good (G3.out (F3.out h0))).2;have:=MX.out.le;simp[wt_mk,wts];omega⟩⟩,HF.out.1⟩
 |false=>
  have hmid:a<a2:=MX.out.pr rfl (by have:=hmore rfl;omega);clear hmore;obtain⟨y0,y1,y2,y3,y4,y5,y6⟩:=bC7 H.out.v3;obtain⟨n2,hn2⟩:∃n,(wc.alloc (.cells #[.int .i64 x.k,.string x.s,.float .f64 x.x,.int .i64 x.n,.bool x.b,(.slice An x.names.length cn),(.slice Ak x.kids.length ck)] 27)).heap.size=n:=⟨_,rfl⟩;have hn02:n0<n2:=by rw[<-hn2];have:=blk_lt H.out.v2;simp;omega
  have KX:=KR.lit1 H.out.t (by have:=blk_lt H.out.v2;omega);have HO:=aM (show On E w ((wc.alloc (.cells #[.int .i64 x.k,.string x.s,.float .f64 x.x,.int .i64 x.n,.bool x.b,(.slice An x.names.length cn),(.slice Ak x.kids.length ck)] 27)).alloc (.cells #[.int .i64 3,.string ⟨#[]⟩,.float .f64 0,.int .i64 0,.bool false,.slice none 0 0,.slice (some ⟨wc.heap.size,0,none⟩) 1 1] 27)) n0 n2 a2 c2 3 0 [x] (.slice (some ⟨wc.heap.size,0,none⟩) 1 1) from⟨(H.out.p.alloc _).alloc _,(H.out.v2.alloc _).alloc _,by have:=Vb.new (wc.alloc (.cells #[.int .i64 x.k,.string x.s,.float .f64 x.x,.int .i64 x.n,.bool x.b,(.slice An x.names.length cn),(.slice Ak x.kids.length ck)] 27)) #[.int .i64 3,.string ⟨#[]⟩,.float .f64 0,.int .i64 0,.bool false,.slice none 0 0,.slice (some ⟨wc.heap.size,0,none⟩) 1 1];rwa[hn2] at this,by have:=KX.kn_new (.cells #[.int .i64 3,.string ⟨#[]⟩,.float .f64 0,.int .i64 0,.bool false,.slice none 0 0,.slice (some ⟨wc.heap.size,0,none⟩) 1 1] 27);rwa[hn2] at this⟩);clear KX H;have G:=aM (show c2=0->c=0/\wts [x]+1<=3*(a2-a) from fun h0=>⟨(MX.out.good h0).1,by have:=(MX.out.good h0).2;simp[wts];omega⟩);have OK:=aM (show ∀y∈[x],Ok (c2=0) .e y from fun y hy=>by rw[List.mem_singleton.1 hy];exact OX.out);clear OX MX;go_wp2_with fail;generalize ((wc.alloc (.cells #[.int .i64 x.k,.string x.s,.float .f64 x.x,.int .i64 x.n,.bool x.b,(.slice An x.names.length cn),(.slice Ak x.kids.length ck)] 27)).alloc (.cells #[.int .i64 3,.string ⟨#[]⟩,.float .f64 0,.int .i64 0,.bool false,.slice none 0 0,.slice (some ⟨wc.heap.size,0,none⟩) 1 1] 27))=w5 at HO|-;clear hn2;obtain⟨A6,c6,e6⟩:∃(A:Option Addr) (cp:Nat),Value.slice (some ⟨wc.heap.size,0,none⟩) 1 1 = .slice A [x].length cp:=⟨_,_,rfl⟩;rw[e6] at HO;clear e6;go_wp2_with fail;go_loopg [] (E.n-a2) (fun k wr=>∃(a':Nat) (c':Int) (A6:Option Addr) (c6:Nat) (xs:List Nd),k=E.n-a'/\a'<E.n/\a2<=a'/\xs.length<=a'+1/\Aside0 (∀y∈xs,Ok (c'=0) .e y)/\Aside0 (c'=0->c=0/\wts xs+1<=3*(a'-a))/\Aside0 (On E w wr n0 n2 a' c' 3 0 xs (.slice A6 xs.length c6)))
  case atStart=>exact⟨a2,c2,A6,c6,[x],rfl,hA,Nat.le_refl _,by simp,OK,G,HO⟩
  case round=>
   clear HO G OK;obtain⟨a3,c3,A6,c6,xs,hk,h1,h2,hl,OK,G,H⟩:=hrel;go_wp2_with fail;refine(hasSign_any HE.out H.out.p.s H.out.p.B h1 _).mono ?_;rintro e w7 ⟨b1,a4,rfl,_,p1,p2,hp⟩;replace H:=aM (H.out.step hp);clear hp
   cases b1 with
   |false=>
    obtain rfl:=(p2 rfl).symm;clear p1 p2;obtain⟨y0,y1,y2,y3,y4,y5,y6⟩:=bC7 H.out.v3;go_wp2_with fail;go_loopg [54] xs.length (fun k v wr=>∃(i a':Nat) (c':Int),v = .int .i64 (i:Int)/\k=xs.length-i/\i<=xs.length/\a3<=a'/\a'<E.n/\Aside0 (c'=0->c3=0)/\Aside0 (On E w wr n0 n2 a' c' 3 0 xs (.slice A6 xs.length c6)))
    case atStart=>exact⟨0,a3,c3,rfl,rfl,Nat.zero_le _,Nat.le_refl _,h1,⟨fun h=>h⟩,H⟩
    case round=>
     clear H;obtain⟨i,a4,c4,rfl,hk,hi,g1,g2,G3,H⟩:=hrel
     by_cases hlt:i<xs.length
     case neg=>
      have hltI:¬((i:Int)<(xs.length:Int)):=by omega
      have y6:=bC H.out.v3 6;have y3:=bC H.out.v3 3;have fy3:=bF H.out.v3 3;go_upto_region 18 with fail;have H2:=aM (H.out.count HE.out HP.out HB0.out (by have:=HN0.out;omega) (by omega) (xs.length:Int));generalize wr.setCell ⟨n2,3,none⟩ (.int .i64 (xs.length:Int))=w6 at H2|-;clear H y6 y3 fy3;have H:=H2;clear H2;go_wp2_with fail;refine(sign_any HE.out H.out.p.s H.out.p.B g2 _).mono ?_;rintro e w7 ⟨a5,c5,rfl,q1,q2,q3,q4,h5⟩;replace H:=aM (H.out.step h5);have Q4:=aM q4;clear h5 q4 q3;have y6:=bC H.out.v3 6;have fy6:=bF H.out.v3 6;have HF:=aM ((HIH.out a5 (by omega) q2).list _ _ H.out.drew.p.s H.out.drew.p.B);replace H:=aM H.out.drew;have HSZ:=aM (blk_lt H.out.v3);have HVV:=aM H.out.kr.kr.lt;go_upto_region 19 with fail
      go_cut [] from 75 to 80 (fun wc=>∃(ys:List Nd) (A9:Option Addr) (c9:Nat) (a6:Nat) (c6:Int),Aside0 (∀y∈ys,Ok (c6=0) .e y)/\Aside0 (Mv E a5 c5 a6 c6 (wts ys+1) 0)/\Aside0 (On E w wc n0 n2 a6 c6 3 (xs.length:Int) (xs++ys) (.slice A9 (xs.length+ys.length) c9)))
      case first=>
       go_region_law (first|(refine KN.cat_stepd (by rfl) (.tmp 76) (.tmp 78) (by rfl) (by rfl) H2.out.kr (by rfl) (KR.kn_cat TY.out HVV.out HSZ.out) (by have:=HSZ.out;omega) (by have:=blk_lt H2.out.v3;omega) (blk_lt H2.out.v3) (by omega) HP.out HE.out HB0.out (by have:=HN0.out;omega) H2.out.p ?_;intro A9 c9 w9 k9 p9 n9 v9;have N9:=n9 _ _ (by omega) H2.out.v2;have U9:=v9 _ H2.out.v3;have H9:=aM (On.kids p9 N9 U9 k9 HE.out HP.out HB0.out (by have:=HN0.out;omega) (by omega));have e9:=bC U9 6;have fe9:=bF U9 6;clear k9 p9 n9 v9 U9 N9)|(go_simp;go_at_call 92;refine HF.out.mono ?_;rintro e w8 ⟨ys,Ya,ya,a6,c8,rfl,ty,oy,ly,my,hp⟩;have TY:=aM ty;have OY:=aM oy;have MY:=aM my;have H2:=aM (H.out.step hp);have r6:=bC H2.out.v3 6;have r6a:=fun(ob:Obj)=>bC (H2.out.alloc ob).v3 6;clear ty oy my hp))
       all_goals
        go_wp2
        go_meet
        case rel=>exact⟨ys,A9,c9,a6,c8,OY,MY,H9⟩
      clear H HF y6 fy6 HSZ HVV;obtain⟨ys,A9,c9,a6,c8,OY,MY,H⟩:=hcut;obtain⟨m9,hm9⟩:∃m,m=(xs++ys).length:=⟨_,rfl⟩;have hl9:xs.length+ys.length=m9:=by rw[hm9];simp
      rw[hl9] at H;replace hm9:=aM hm9;clear hl9;obtain⟨y0,y1,y2,y3,y4,y5,y6⟩:=bC7 H.out.v3;obtain⟨z0,z1,z2,z3,z4,z5,z6⟩:=bC7 H.out.v2;obtain⟨fz0,fz1,fz2,fz3,fz4,fz5,fz6⟩:=bF7 H.out.v2;go_wp2_with fail;have hA6:=MY.out.lt;have hle6:=MY.out.le;have OK2:=aM (show ∀z∈xs++ys,Ok (c8=0) .e z from fun z hz=>by
       rcases List.mem_append.1 hz with hz|hz
       ·exact(OK.out z hz).mono (fun h0=>G3.out (Q4.out (MY.out.good h0).1).1)
       ·exact OY.out z hz)
      have HF:=aM (H.out.fin HE.out HP.out HB0.out HN0.out);generalize (((((((wc.setCell ⟨n0,0,none⟩ (.int .i64 3)).setCell ⟨n0,1,none⟩ (.string ⟨#[]⟩)).setCell ⟨n0,2,none⟩ (.float .f64 0)).setCell ⟨n0,3,none⟩ (.int .i64 (xs.length:Int))).setCell ⟨n0,4,none⟩ (.bool false)).setCell ⟨n0,5,none⟩ (.slice none 0 0)).setCell ⟨n0,6,none⟩ (.slice A9 m9 c9))=WF at HF|-;obtain⟨qq0,qq1,qq2,qq3,qq4,qq5,qq6⟩:=bC7 HF.out.2.2;refine bodyPost_ret (v:= .agg #[.int .i64 3,.string ⟨#[]⟩,.float .f64 0,.int .i64 (xs.length:Int),.bool false,.slice none 0 0,.slice A9 m9 c9]) (by simp[results,Tryz.results100,go_sem,qq0,qq1,qq2,qq3,qq4,qq5,qq6]) rfl ?_;have hm9:=hm9.out;subst hm9;refine⟨⟨3,⟨#[]⟩,0,(xs.length:Int),false,[],xs++ys⟩,none,0,A9,c9,a6,c8,rfl,HF.out.2.1,.asg xs.length rfl (fun _=>Tx.bare (by decide)) OK2.out rfl (by simp),trivial,⟨by omega,hA6,fun _ _=>by omega,fun h0=> ?_⟩,HF.out.1⟩
      obtain⟨r1,r2⟩:=MY.out.good h0;obtain⟨r3,r4,_⟩:=Q4.out r1;obtain⟨r5,r6⟩:=G.out (G3.out r3);refine⟨r5,?_⟩;simp only[wt_mk,wts_append,List.length_nil];omega
     case pos=>
      have hltI:(i:Int)<(xs.length:Int):=by omega
      have h0I:(0:Int)<=(i:Int):=by omega
      have qi:IntKind.i64.wrap ((i:Int)+1)=((i+1:Nat):Int):=by rw[IntWalk.i64_in _ (by omega)];omega
      obtain⟨ad,Bn,dn,Bk,dk,rfl,x0,x1,x2,x3,x4,x5,x6,m1,m2,m3,m4⟩:=at_nd (Kd.R_reads' H.out.kr).2.2 (i:Int) (by omega) (by omega)
      clear m1 m2 m3 m4;have ei:((i:Nat):Int).toNat=i:=by omega
      rw[ei] at x0 x1 x2 x3 x4 x5 x6;generalize rdNd xs (i:Int)=y at x0 x1 x2 x3 x4 x5 x6;have V6:=aM (Vb.new wr #[.int .i64 y.k,.string y.s,.float .f64 y.x,.int .i64 y.n,.bool y.b,(.slice Bn y.names.length dn),(.slice Bk y.kids.length dk)]);replace H:=aM (H.out.alloc (.cells #[.int .i64 y.k,.string y.s,.float .f64 y.x,.int .i64 y.n,.bool y.b,(.slice Bn y.names.length dn),(.slice Bk y.kids.length dk)] 27));go_upto_region 14 with fail;generalize wr.alloc _=w8 at H V6|-;generalize wr.heap.size=n6 at V6|-;clear x0 x1 x2 x3 x4 x5 x6;have y0:=bC V6.out 0
      go_cut [65] from 58 to 65 (fun v wc=>∃b:Bool,v = .bool b/\Aside0 (On E w wc n0 n2 a4 c4 3 0 xs (.slice (some ad) xs.length c6)))
      case first=>
       obtain⟨b1,hb1⟩:∃b:Bool,(y.k != 27)=b:=⟨_,rfl⟩;obtain⟨b2,hb2⟩:∃b:Bool,(y.k != 28)=b:=⟨_,rfl⟩
       cases b1 with
       |false=>
        go_wp2_with fail;go_meet
        case rel=>exact⟨_,rfl,H⟩
       |true=>
        go_wp2_with fail;go_meet
        case rel=>exact⟨_,rfl,H⟩
      clear H V6 y0;obtain⟨b65,rfl,H⟩:=hcut
      cases b65 with
      |true=>
       go_wp2_with fail;refine(tell_any HE.out H.out.p.s H.out.p.B 1).mono ?_;rintro e w9 ⟨rfl,h2⟩;replace H:=aM (H.out.step h2);clear h2;go_wp2_with fail;go_roundg (xs.length-(i+1))
       case measure=>omega
       case rel=>exact⟨i+1,E.n-1,_,by first|rfl|simp[qi],rfl,by omega,by omega,by omega,⟨tell_g (by decide)⟩,H⟩
      |false=>
       go_wp2_with fail;go_roundg (xs.length-(i+1))
       case measure=>omega
       case rel=>exact⟨i+1,a4,c4,by first|rfl|simp[qi],rfl,by omega,g1,g2,G3,H⟩
   |true=>
    obtain⟨rfl,p3⟩:=p1 rfl;clear p1 p2;have y6:=bC H.out.v3 6;have fy6:=bF H.out.v3 6;have HF:=aM ((HIH.out (a3+1) (by omega) p3).prefixed _ _ H.out.drew.p.s H.out.drew.p.B);replace H:=aM H.out.drew;have HSZ:=aM (blk_lt H.out.v3);have HVV:=aM H.out.kr.kr.lt;go_upto_region 10 with fail
    go_region_law (first|(refine KN.push_stepd _ (by rfl) (.tmp 45) (.tmp 48) (by rfl) (by rfl) H2.out.kr (by rfl) (by rfl) TY.out (by have:=HSZ.out;omega) HVV.out HSZ.out (by rfl) (by have:=blk_lt H2.out.v3;omega) (blk_lt H2.out.v3) (by omega) HP.out HE.out HB0.out (by have:=HN0.out;omega) H2.out.p ?_;intro A9 c9 w9 k9 p9 n9 v9;have N9:=n9 _ _ (by omega) H2.out.v2;have U9:=v9 _ H2.out.v3;have H9:=aM (On.kids p9 N9 U9 k9 HE.out HP.out HB0.out (by have:=HN0.out;omega) (by omega));have e9:=bC U9 6;have fe9:=bF U9 6;clear k9 p9 n9 v9 U9 N9)|(go_simp;go_at_call 127;refine HF.out.mono ?_;rintro e w8 ⟨y,Yn,yn,Yk,yk,a4,c4,rfl,ty,oy,_,my,hp⟩;have TY:=aM ty;have OY:=aM oy;have MY:=aM my;have H2:=aM (H.out.step hp);have r6:=bC H2.out.v3 6;have r6a:=fun(ob:Obj)=>bC (H2.out.alloc ob).v3 6;clear ty oy my hp))
    all_goals
     have hA4:=MY.out.lt;have hle4:=MY.out.le;have OK2:=aM (show ∀z∈xs++[y],Ok (c4=0) .e z from fun z hz=>by
      rcases List.mem_append.1 hz with hz|hz
      ·exact(OK.out z hz).mono (fun h0=>(MY.out.good h0).1)
      ·simp at hz
       subst hz;exact OY.out)
     have G4:=aM (show c4=0->c=0/\wts (xs++[y])+1<=3*(a4-a) from fun h0=>by
      obtain⟨r1,r2⟩:=MY.out.good h0;obtain⟨r3,r4⟩:=G.out r1;refine⟨r3,?_⟩;rw[wts_append];simp only[wts]
      omega)
     have hl2:(xs++[y]).length=xs.length+1:=by simp
     go_wp2
     go_roundg (E.n-a4)
     case measure=>omega
     case rel=>exact⟨a4,c4,A9,c9,xs++[y],rfl,hA4,by omega,by omega,OK2,G4,by rw[hl2];exact H9⟩
end
end Go.Proofs.YtoimaaonloibfaaGreatDoor.Pa
