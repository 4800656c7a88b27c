/- FnTokensSpaced (part 11): joined texts of this seat: Pz, Qa, Qb, Pw, Qc, Qe, Ve. -/
import Derived.Test.YtoimaaonloibfaaGreatDoorG10
import Derived.Test.YtoimaaonloibfaaGreatDoorG05
import Derived.Test.YtoimaaonloibfaaGreatDoorG09
set_option linter.unusedVariables false
set_option linter.unusedSimpArgs false
set_option linter.constructorNameAsVariable false
set_option linter.unnecessarySimpa false
namespace Go.Proofs.YtoimaaonloibfaaGreatDoor.Pa
open Go.RowKit W1 W2 PF Wf Lx
attribute [local go_sem] run_store_float fld49_0 fld49_1 fld49_3
section
variable {E:Env} {w wr w1:World} {a a' b b2 n0 n1 q:Nat} {c c' k n:Int} {s:ByteArray} {x:Nat} {fl:Bool} {ns:List ByteArray} {ks ks2 ys:List Nd} {u v vn vk uk:Value}
theorem KR.cat_ok(h:KR wr b2 v ys)(hu:∀k,u.ownBlock=some k->k<b2):nodeK.R 27 wr b2 (fun j=>some j≠u.ownBlock) v ys:=
 Kd.R_mono (Kd.R_bound h) (fun i hi e=>by have:=hu _ e.symm;have:=hi.2.1;omega)
theorem Ou.put6(hk:KR w1 b uk ks2)(hp:Pt E w w1 a c)(hv2:Vb w1 n0 #[.int .i64 0,.string ⟨#[]⟩,.float .f64 0,.int .i64 0,.bool false,.slice none 0 0,.slice none 0 0])(hv3:Vb w1 n1 #[.int .i64 k,.string s,.float .f64 x,.int .i64 n,.bool fl,vn,vk])(hnr:NR w1 b vn ns)
  (h0:Ps E w a' c') (hE:E.Fine) (hB:E.w0.heap.size<=w.heap.size) (hwn:w.heap.size<=n1) (hn1:n1<b) (hne:n0≠n1):
  Ou E w (w1.setCell ⟨n1,6,none⟩ uk) n0 n1 b a c k s x n fl ns ks2 vn uk:=by
 have hf:∀j,j≠n1->(w1.setCell ⟨n1,6,none⟩ uk).heap[j]? = w1.heap[j]? :=fun j hj=>Below.heap_setCell w1 ⟨n1,6,none⟩ _ j hj
 exact⟨hp.put hE h0 hB hwn 6 _,blk_far hv2 (p:=⟨n1,6,none⟩) hne _,blk_set hv3 6 _,hnr.far hf hn1,hk.far hf hn1⟩
def Prs(g:Prop)(ks:List Nd):Prop:=ks.length%2=0/\∀i y,ks[i]? = some y->Ok g (if i%2=0 then .e else .b) y
theorem Prs.nil(g:Prop):Prs g []:=⟨rfl,fun i y h=>by simp at h⟩
theorem Prs.mono{g g':Prop}(h:Prs g ks)(hg:g'->g):Prs g' ks:=⟨h.1,fun i y hi=>(h.2 i y hi).mono hg⟩
theorem Prs.push{g:Prop}{x z:Nd}(h:Prs g ks)(hx:Ok g .e x)(hz:Ok g .b z):Prs g (ks++[x,z]):=by
 refine⟨by have:=h.1;simp;omega,fun i y hi=> ?_⟩;have he:=h.1;rcases Nat.lt_or_ge i ks.length with hl|hl
 ·rw[List.getElem?_append_left hl] at hi
  exact h.2 i y hi
 ·rw[List.getElem?_append_right hl] at hi
  obtain⟨j,rfl⟩:∃j,i=ks.length+j:=⟨i-ks.length,by omega⟩;rw[Nat.add_sub_cancel_left] at hi
  match j,hi with
  |0,hi=>
   simp at hi;subst hi;rw[if_pos (by omega)];exact hx
  |1,hi=>
   simp at hi;subst hi;rw[if_neg (by omega)];exact hz
  |j+2,hi=>simp at hi
theorem Prs.fin{g:Prop}(h:Prs g ks):∀i y,ks[i]? = some y->Ok g (if i%2=0/\i+1<ks.length then .e else .b) y:=by
 intro i y hi;have h1:=h.1;have h2:=h.2 i y hi;have hl:i<ks.length:=(List.getElem?_eq_some_iff.1 hi).1
 by_cases hm:i%2=0
 ·rw[if_pos hm] at h2
  rw[if_pos ⟨hm,by omega⟩];exact h2
 ·rw[if_neg hm] at h2
  rw[if_neg (by omega)];exact h2
theorem Prs.fin1{g:Prop}{z:Nd}(h:Prs g ks)(hz:Ok g .b z):∀i y,(ks++[z])[i]? = some y->Ok g (if i%2=0/\i+1<(ks++[z]).length then .e else .b) y:=by
 intro i y hi;have h1:=h.1;have hlen:(ks++[z]).length=ks.length+1:=by simp
 rw[hlen];rcases Nat.lt_or_ge i ks.length with hl|hl
 ·rw[List.getElem?_append_left hl] at hi
  have h2:=h.2 i y hi
  by_cases hm:i%2=0
  ·rw[if_pos hm] at h2
   rw[if_pos ⟨hm,by omega⟩];exact h2
  ·rw[if_neg hm] at h2
   rw[if_neg (by omega)];exact h2
 ·rw[List.getElem?_append_right hl] at hi
  obtain⟨j,rfl⟩:∃j,i=ks.length+j:=⟨i-ks.length,by omega⟩;rw[Nat.add_sub_cancel_left] at hi
  match j,hi with
  |0,hi=>
   simp at hi;subst hi;rw[if_neg (by omega)];exact hz
  |j+1,hi=>simp at hi
end
section
variable {E:Env} {a:Nat}
set_option maxRecDepth 10000 in
set_option maxHeartbeats 16000000 in
theorem branch_any(hE:E.Fine)(IH:∀b,a<b->b<E.n->All E b)(ha:a<E.n)(hX:NC E 94 #[.pointer (some ⟨E.g,0,none⟩),.int .i64 0] a .e 1 0 (fun _=>True))(hBlk:∀b,a<b\/b=E.n-1->b<E.n->NC E 20 #[.pointer (some ⟨E.g,0,none⟩)] b .b 0 1 (fun _=>True)):NC E 96 #[.pointer (some ⟨E.g,0,none⟩)] a .s 0 0 (fun _=>True):=by
 intro w c h hB;have HE:=aM hE;have HXX:=aM (show ∀b,a<=b->b<E.n->NC E 94 #[.pointer (some ⟨E.g,0,none⟩),.int .i64 0] b .e 1 0 (fun _=>True) from fun b h1 h2=>by
  rcases Nat.lt_or_ge a b with h3|h3
  ·exact(IH b h3 h2).expression 0 (by decide)
  ·have:b=a:=by omega
   subst this;exact hX)
 have HBLK:=aM hBlk;have hpos:=hE.pos;have hlen:=hE.len;have HP:=aM h;have HB0:=aM hB.size;obtain⟨n0,hn0⟩:∃n0,w.heap.size=n0:=⟨_,rfl⟩;have e1:(w.alloc (.cells #[.int .i64 0,.string ⟨#[]⟩,.float .f64 0,.int .i64 0,.bool false,.slice none 0 0,.slice none 0 0] 27)).heap.size=n0+1:=by simp[hn0]
 have H:=aM (show Ou E w ((w.alloc (.cells #[.int .i64 0,.string ⟨#[]⟩,.float .f64 0,.int .i64 0,.bool false,.slice none 0 0,.slice none 0 0] 27)).alloc (.cells #[.int .i64 8,.string ⟨#[]⟩,.float .f64 0,.int .i64 0,.bool false,.slice none 0 0,.slice none 0 0] 27)) n0 (n0+1) (n0+2) a c 8 ⟨#[]⟩ 0 0 false [] [] (.slice none 0 0) (.slice none 0 0) from⟨((Pt.start h hB).alloc _).alloc _,by have:=(Vb.new w #[.int .i64 0,.string ⟨#[]⟩,.float .f64 0,.int .i64 0,.bool false,.slice none 0 0,.slice none 0 0]).alloc (.cells #[.int .i64 8,.string ⟨#[]⟩,.float .f64 0,.int .i64 0,.bool false,.slice none 0 0,.slice none 0 0] 27);rwa[hn0] at this,by have:=Vb.new (w.alloc (.cells #[.int .i64 0,.string ⟨#[]⟩,.float .f64 0,.int .i64 0,.bool false,.slice none 0 0,.slice none 0 0] 27)) #[.int .i64 8,.string ⟨#[]⟩,.float .f64 0,.int .i64 0,.bool false,.slice none 0 0,.slice none 0 0];rwa[e1] at this,NR.nil _ _,KR.nil _ _⟩);have HN0:=aM hn0;clear hE IH h hB e1 hX hBlk;go_enter Tryz.func96,Tryz.ntmps96
 go_wp2_with fail;generalize ((w.alloc (.cells #[.int .i64 0,.string ⟨#[]⟩,.float .f64 0,.int .i64 0,.bool false,.slice none 0 0,.slice none 0 0] 27)).alloc (.cells #[.int .i64 8,.string ⟨#[]⟩,.float .f64 0,.int .i64 0,.bool false,.slice none 0 0,.slice none 0 0] 27))=wz at H|-;clear hn0;go_loopg [] (E.n-a) (fun k wr=>∃(a':Nat) (c':Int) (A6:Option Addr) (c6:Nat) (ks:List Nd),k=E.n-a'/\a'<E.n/\a<=a'/\ks.length<=2*a'/\Aside0 (Prs (c'=0) ks)/\Aside0 (c'=0->c=0/\wts ks<=3*(a'-a))/\Aside0 (Ou E w wr n0 (n0+1) (n0+2) a' c' 8 ⟨#[]⟩ 0 0 false [] ks (.slice none 0 0) (.slice A6 ks.length c6)))
 case atStart=>exact⟨a,c,none,0,[],rfl,ha,Nat.le_refl _,by simp,⟨Prs.nil _⟩,⟨fun h0=>⟨h0,by simp[wts]⟩⟩,H⟩
 case round=>
  clear H;obtain⟨a1,c1,A6,c6,ks,hk,h1,h2,hl,OK,G,H⟩:=hrel;have HVV:=aM H.out.kr.lt;have HS0:=aM (blk_lt H.out.v3);go_wp2_with fail;refine(HXX.out a1 h2 h1 _ _ H.out.p.s H.out.p.B).mono ?_;rintro e w3 ⟨x,An,cn,Ak,ck,a2,c2,rfl,tx,ox,_,mx,hp⟩;replace H:=aM (H.out.step hp);have OX:=aM ox;have MX:=aM mx;obtain⟨n4,hn4⟩:∃n,w3.heap.size=n:=⟨_,rfl⟩;have HV4:=aM (show Vb (w3.alloc (.cells #[.int .i64 x.k,.string x.s,.float .f64 x.x,.int .i64 x.n,.bool x.b,(.slice An x.names.length cn),(.slice Ak x.kids.length ck)] 27)) n4 #[.int .i64 x.k,.string x.s,.float .f64 x.x,.int .i64 x.n,.bool x.b,(.slice An x.names.length cn),(.slice Ak x.kids.length ck)] by have:=Vb.new w3 #[.int .i64 x.k,.string x.s,.float .f64 x.x,.int .i64 x.n,.bool x.b,(.slice An x.names.length cn),(.slice Ak x.kids.length ck)];rwa[hn4] at this);have TX:=aM (tx.alloc (.cells #[.int .i64 x.k,.string x.s,.float .f64 x.x,.int .i64 x.n,.bool x.b,(.slice An x.names.length cn),(.slice Ak x.kids.length ck)] 27));replace H:=aM (H.out.alloc (.cells #[.int .i64 x.k,.string x.s,.float .f64 x.x,.int .i64 x.n,.bool x.b,(.slice An x.names.length cn),(.slice Ak x.kids.length ck)] 27));have hA:=mx.lt;have hs1:wr.heap.size<=n4:=by rw[<-hn4];exact hp.size
  clear tx ox mx hp;go_wp2_with fail;generalize w3.alloc _=w4 at H HV4 TX|-;clear hn4;refine(word_any HE.out H.out.p.s H.out.p.B hA _).mono ?_;rintro e w5 ⟨a3,c3,rfl,q1,hA3,q3,q4,hp⟩;replace HV4:=aM (HV4.out.keep H.out.p.s hp);replace TX:=aM (TX.out.keep H.out.p.s hp);replace H:=aM (H.out.step hp);have hle:=MX.out.le;have hor:a<a3\/a3=E.n-1:=by
   rcases Nat.lt_or_ge (a1+1) E.n with h|h
   ·exact .inl (by have:=MX.out.pr rfl h;omega)
   ·exact .inr (by omega)
  have G3:=aM (show c3=0->c1=0/\c=0/\wts ks+x.wt+4<=3*(a3-a) from fun h0=>by
   obtain⟨r1,r2,_⟩:=q4 h0;obtain⟨s1,s2⟩:=MX.out.good r1;obtain⟨s3,s4⟩:=G.out s1;exact⟨s1,s3,by omega⟩)
  replace OX:=aM (OX.out.mono (fun h0:c3=0=>(q4 h0).1));replace OK:=aM (OK.out.mono (fun h0:c3=0=>(G3.out h0).1));clear hp q4 MX G q3;obtain⟨y0,y1,y2,y3,y4,y5,y6⟩:=bC7 HV4.out;have y6':=bC H.out.v3 6;have fy6':=bF H.out.v3 6;replace H:=aM H.out.drew;replace HV4:=aM HV4.out.drew;replace TX:=aM TX.out.drew;have HF:=aM (HBLK.out a3 hor hA3 _ _ H.out.p.s H.out.p.B);go_upto_region 4 with fail
  go_cut [] from 10 to 17 (fun wc=>∃(z:Nd) (A9:Option Addr) (c9:Nat) (a4:Nat) (c4:Int),Aside0 (Ok (c4=0) .b z)/\Aside0 (Mv E a3 c3 a4 c4 (z.wt+0) 1)/\Aside0 (Ou E w wc n0 (n0+1) (n0+2) a4 c4 8 ⟨#[]⟩ 0 0 false [] (ks++[x,z]) (.slice none 0 0) (.slice A9 (ks.length+2) c9)))
  case first=>
   go_region_law (first|(refine KR.cat_stepd (by rfl) (.tmp 11) (.tmp 15) (by rfl) (by rfl) H3.out.kr (by rfl) HYY.out (by have:=HS0.out;omega) (by have:=blk_lt H3.out.v3;omega) (by omega) HP.out HE.out HB0.out (by have:=HN0.out;omega) H3.out.p ?_;intro A9 c9 w9 k9 p9 v9 g9;have U9:=v9 _ _ (by omega) H3.out.v2;have V9:=v9 _ _ (by omega) H3.out.v3;have H9:=aM (Ou.put6 k9 p9 U9 V9 (NR.nil _ _) HP.out HE.out HB0.out (by have:=HN0.out;omega) (by omega) (by omega));have e9:=bC V9 6;have fe9:=bF V9 6;clear k9 p9 v9 g9 U9 V9)|(go_simp;go_at_call 20;refine HF.out.mono ?_;rintro e w8 ⟨z,Zn,zn,Zk,zk,a4,c4,rfl,tz,oz,_,mz,hp⟩;have OZ:=aM oz;have MZ:=aM mz;have H2:=aM (H.out.step hp);have H3:=aM (H2.out.alloc (.cells #[.int .i64 x.k,.string x.s,.float .f64 x.x,.int .i64 x.n,.bool x.b,(.slice An x.names.length cn),(.slice Ak x.kids.length ck),.int .i64 z.k,.string z.s,.float .f64 z.x,.int .i64 z.n,.bool z.b,(.slice Zn z.names.length zn),(.slice Zk z.kids.length zk)] 27));have U4:=aM (HV4.out.keep H.out.p.s hp);have r0:=bC U4.out 0;have r1:=bC U4.out 1;have r2:=bC U4.out 2;have r3:=bC U4.out 3;have r4:=bC U4.out 4;have r5:=bC U4.out 5;have r6:=bC U4.out 6;have r6':=bC H2.out.v3 6;have r6a:=bC H3.out.v3 6;have HYY:=aM (KR.cat_ok (KR.lit2 (TX.out.keep H.out.p.s hp) (tz.lower (by have:=blk_lt HV4.out;omega)) (by have:=blk_lt U4.out;omega)) HVV.out);clear oz mz tz hp))
   all_goals
    go_wp2
    go_meet
    case rel=>exact⟨z,A9,c9,a4,c4,OZ,MZ,H9⟩
  clear H HF HV4 TX y0 y1 y2 y3 y4 y5 y6 y6' fy6' HVV HS0;obtain⟨z,A9,c9,a4,c4,OZ,MZ,H⟩:=hcut;have h4:=MZ.out.lt;have hle4:=MZ.out.le;have PR:=aM (show a+1<E.n->a<a4 from fun h=>by omega);clear hor;have hl2:(ks++[x,z]).length=ks.length+2:=by simp
  rw[<-hl2] at H;replace OK:=aM ((OK.out.mono (fun h0:c4=0=>(MZ.out.good h0).1)).push (OX.out.mono (fun h0:c4=0=>(MZ.out.good h0).1)) OZ.out);have G:=aM (show c4=0->c=0/\wts (ks++[x,z])+3<=3*(a4-a) from fun h0=>by
   obtain⟨r1,r2⟩:=MZ.out.good h0;obtain⟨_,r3,r4⟩:=G3.out r1;refine⟨r3,?_⟩;rw[wts_append];simp only[wts]
   omega)
  clear OX OZ MZ G3;have hl4:(ks++[x,z]).length<=2*a4+2:=by omega
  clear hl2;generalize ks++[x,z]=ks at OK G H hl4;clear hl;go_wp2_with fail;refine(hasWord_any HE.out H.out.p.s H.out.p.B h4 _).mono ?_;rintro e w7 ⟨b1,a5,rfl,_,p1,p2,hp⟩;replace H:=aM (H.out.step hp);clear hp
  cases b1 with
  |false=>
   obtain rfl:=(p2 rfl).symm;clear p1 p2;go_wp2_with fail;refine(hasWord_any HE.out H.out.p.s H.out.p.B h4 _).mono ?_;rintro e w8 ⟨b2,a5,rfl,_,p1,p2,hp⟩;replace H:=aM (H.out.step hp);clear hp
   go_upto_if 22 with fail
   go_cut [] from 22 to 29 (fun wc=>∃(ks2:List Nd) (a':Nat) (c':Int) (A6:Option Addr) (c6:Nat),a4<=a'/\a'<E.n/\Aside0 (c'=0->c4=0/\wts ks2<=wts ks+3*(a'-a4))/\Aside0 (∀i y,ks2[i]? = some y->Ok (c'=0) (if i%2=0/\i+1<ks2.length then .e else .b) y)/\Aside0 (Ou E w wc n0 (n0+1) (n0+2) a' c' 8 ⟨#[]⟩ 0 0 false [] ks2 (.slice none 0 0) (.slice A6 ks2.length c6)))
   case first=>
    cases b2 with
    |false=>
     obtain rfl:=(p2 rfl).symm;clear p1 p2;go_wp2_with fail;go_meet
     case rel=>exact⟨ks,a4,c4,A9,c9,Nat.le_refl _,h4,⟨fun h=>⟨h,by omega⟩⟩,⟨OK.out.fin⟩,H⟩
    |true=>
     obtain⟨rfl,p3⟩:=p1 rfl;clear p1 p2;have y6:=bC H.out.v3 6;have fy6:=bF H.out.v3 6;have HF:=aM (HBLK.out (a4+1) (.inl (by omega)) p3 _ _ H.out.drew.p.s H.out.drew.p.B);replace H:=aM H.out.drew;have HSZ:=aM (blk_lt H.out.v3);have HVV:=aM H.out.kr.lt;go_upto_region 7 with fail
     go_region_law (first|(refine Ou.push_stepd _ (by rfl) (.tmp 24) (.tmp 27) (by rfl) (by rfl) H2.out (by rfl) (by rfl) TY.out (by have:=HSZ.out;omega) HVV.out (by rfl) (by have:=blk_lt H2.out.v3;omega) (by omega) HP.out HE.out HB0.out (by have:=HN0.out;omega) (by omega) (by omega) ?_;intro A9 c9 w9 k9 p9 n9 v9 u9;have H9:=aM (Ou.stored k9 p9 v9 u9 n9 HP.out HE.out HB0.out (by have:=HN0.out;omega) (by omega) (by omega));have e9:=bC u9 6;have fe9:=bF u9 6;clear k9 p9 n9 v9 u9)|(go_simp;go_at_call 20;refine HF.out.mono ?_;rintro e w8 ⟨y,Yn,yn,Yk,yk,a6,c8,rfl,ty,oy,_,my,hp⟩;have TY:=aM ty;have OY:=aM oy;have MY:=aM my;have H2:=aM (H.out.step hp);have r6:=bC H2.out.v3 6;have r6a:=fun(ob:Obj)=>bC (H2.out.alloc ob).v3 6;clear ty oy my hp))
     all_goals
      have hl2:(ks++[y]).length=ks.length+1:=by simp
      have G9:=aM (show c8=0->c4=0/\wts (ks++[y])<=wts ks+3*(a6-a4) from fun h0=>by
       obtain⟨r1,r2⟩:=MY.out.good h0;have:=MY.out.le;refine⟨r1,?_⟩;rw[wts_append];simp only[wts]
       omega)
      go_wp2
      go_meet
      case rel=>exact⟨ks++[y],a6,c8,A9,c9,by have:=MY.out.le;omega,MY.out.lt,G9,⟨(OK.out.mono (fun h0=>(MY.out.good h0).1)).fin1 OY.out⟩,by rw[hl2];exact H9⟩
   clear H p1 p2;obtain⟨ks2,a6,c8,A9,c9,f1,f2,F3,OK2,H⟩:=hcut;obtain⟨m9,hm9⟩:∃m,m=ks2.length:=⟨_,rfl⟩;rw[<-hm9] at H;replace hm9:=aM hm9;go_wp2_with fail;refine(word_any HE.out H.out.p.s H.out.p.B f2 _).mono ?_;rintro e w9 ⟨a7,c7,rfl,r1,r2,r3,r4,hp⟩;replace H:=aM (H.out.step hp);have R4:=aM r4;clear hp r3 r4;obtain⟨y0,y1,y2,y3,y4,y5,y6⟩:=bC7 H.out.v3;obtain⟨z0,z1,z2,z3,z4,z5,z6⟩:=bC7 H.out.v2;obtain⟨fz0,fz1,fz2,fz3,fz4,fz5,fz6⟩:=bF7 H.out.v2;go_wp2_with fail;have HF:=aM (H.out.fin HE.out HP.out HB0.out HN0.out (by omega));generalize (((((((w9.setCell ⟨n0,0,none⟩ (.int .i64 8)).setCell ⟨n0,1,none⟩ (.string ⟨#[]⟩)).setCell ⟨n0,2,none⟩ (.float .f64 0)).setCell ⟨n0,3,none⟩ (.int .i64 0)).setCell ⟨n0,4,none⟩ (.bool false)).setCell ⟨n0,5,none⟩ (.slice none 0 0)).setCell ⟨n0,6,none⟩ (.slice A9 m9 c9))=WF at HF|-;obtain⟨qq0,qq1,qq2,qq3,qq4,qq5,qq6⟩:=bC7 HF.out.2.2;refine bodyPost_ret (v:= .agg #[.int .i64 8,.string ⟨#[]⟩,.float .f64 0,.int .i64 0,.bool false,.slice none 0 0,.slice A9 m9 c9]) (by simp[results,Tryz.results96,go_sem,qq0,qq1,qq2,qq3,qq4,qq5,qq6]) rfl ?_;have hm9:=hm9.out;subst hm9;refine⟨⟨8,⟨#[]⟩,0,0,false,[],ks2⟩,none,0,A9,c9,a7,c7,rfl,HF.out.2.1,.iff rfl (fun _=>Tx.bare (by decide)) (fun i y hi=>(OK2.out i y hi).mono (fun h0=>(R4.out h0).1)),trivial,⟨by omega,r2,fun _ h=>by have:=PR.out h;omega,fun h0=> ?_⟩,HF.out.1⟩
   obtain⟨r5,r6,_⟩:=R4.out h0;obtain⟨s1,s2⟩:=F3.out r5;obtain⟨s3,s4⟩:=G.out s1;refine⟨s3,?_⟩;simp only[wt_mk,List.length_nil];omega
  |true=>
   obtain⟨rfl,p3⟩:=p1 rfl;clear p1 p2;go_wp2_with fail;go_roundg (E.n-(a4+1))
   case measure=>omega
   case rel=>exact⟨a4+1,c4,A9,c9,ks,rfl,p3,by omega,by omega,OK,⟨fun h0=>⟨(G.out h0).1,by have:=(G.out h0).2;omega⟩⟩,H⟩
end
section
variable {E:Env} {w wr w1:World} {a a' b b2 n0 n1 q:Nat} {c c':Int} {ns us:List ByteArray} {v:Value}
variable {ops:Array Oper} {rest:List Oper} {o:Oper} {act:Act} {Q:Exit->Act->World->Prop} {K:Act->World->Prop}
theorem NR.cat_stepd(hw:Region.wanted o (yielded ops act.tmps)=true)(t p:Operand)(ho:o.op = .call {callee:= .builtin .append,args:= #[t,p],argTypes:= #[24,24]})
  (hs:act.eval t=v) (h:NR wr b v ns) {A:Option Addr} {m cp:Nat} (hp:act.eval p = .slice A m cp) (hy:NR wr b2 (.slice A m cp) us)
  (hb0:b<=wr.heap.size) (hl:ns.length+m<=100000)
  (h0:Ps E w a' c') (hE:E.Fine) (hB:E.w0.heap.size<=w.heap.size) (hwb:w.heap.size<=b) (hP:Pt E w wr a c)
  (hK:∀A1 c1 w1,NR w1 b (.slice A1 (ns.length+us.length) c1) (ns++us)->Pt E w w1 a c->(∀q cs,Vb wr q cs->Vb w1 q cs)->K (act.put o.dst (.slice A1 (ns.length+us.length) c1)) w1):
  if Region.wanted o (yielded ops act.tmps)=true then Oper.wp Tryz.prog o act wr K Q else K (act.put o.dst undef) wr:=by
 obtain⟨A',cp',he,hlc,hr⟩:=OwnRow.reads hy.2
 injection he with e1 e2 e3
 subst e1;refine Kd.R_append_rows_step (P:=Tryz.prog) Kd.string (Rr:=Kd.string.M wr b2 (fun j=>True/\some j≠(Value.slice A m cp).ownBlock)) (w0:=wr) b hw t p 24 9 (.string ⟨#[]⟩) 16 ho Tryz.underlying24 info9 rfl (by decide) (by decide) v ns us A m cp (fun _=>True) (fun _=>False) hs hp h
  ?_ (fun _ _ hk=>hk) (fun j hj=>hj.elim) (fun j hj=>trivial) (bR _ _) hb0 (by omega) ?_
 ·rw[e2]
  exact hr
 ·intro v1 w1 hR _ hg _
  obtain⟨A1,c1,rfl⟩:=Kd.R_slice hR;rw[List.length_append] at hR|-;have hr:∀k,v.ownBlock=some k->b<=k:=fun k hk=>Kd.R_base h k hk
  exact hK A1 c1 w1 hR (hP.grown h0 hE hB hg (fun k hk=>Nat.le_trans hwb (hr k hk))) (fun q cs hV=>blk_grown hV hg (Kd.R_ne h hV (by decide)))
end
section
variable {E:Env} {a:Nat}
set_option maxRecDepth 10000 in
set_option maxHeartbeats 16000000 in
theorem counting_any(hE:E.Fine)(IH:∀b,a<b->b<E.n->All E b)(ha:a<E.n)(hL:LC E 92 a)(hLp:NC E 95 #[.pointer (some ⟨E.g,0,none⟩)] (E.n-1) .b 0 1 (fun _=>True)):NC E 97 #[.pointer (some ⟨E.g,0,none⟩)] a .s 0 0 (fun _=>True):=by
 intro w c h hB;have HE:=aM hE;have HLL:=aM (show ∀b,a<=b->b<E.n->LC E 92 b from fun b h1 h2=>by
  rcases Nat.lt_or_ge a b with h3|h3
  ·exact(IH b h3 h2).list
  ·have:b=a:=by omega
   subst this;exact hL)
 have HLP:=aM (show ∀b,a<b\/b=E.n-1->b<E.n->NC E 95 #[.pointer (some ⟨E.g,0,none⟩)] b .b 0 1 (fun _=>True) from fun b h1 h2=>by
  rcases h1 with h1|rfl
  ·exact(IH b h1 h2).loop
  ·exact hLp)
 have hpos:=hE.pos;have hlen:=hE.len;have HP:=aM h;have HB0:=aM hB.size;obtain⟨n0,hn0⟩:∃n0,w.heap.size=n0:=⟨_,rfl⟩;have HN0:=aM hn0;have H:=aM ((Pt.start h hB).alloc (.cells #[.int .i64 0,.string ⟨#[]⟩,.float .f64 0,.int .i64 0,.bool false,.slice none 0 0,.slice none 0 0] 27));have HV2:=aM (show Vb (w.alloc (.cells #[.int .i64 0,.string ⟨#[]⟩,.float .f64 0,.int .i64 0,.bool false,.slice none 0 0,.slice none 0 0] 27)) n0 #[.int .i64 0,.string ⟨#[]⟩,.float .f64 0,.int .i64 0,.bool false,.slice none 0 0,.slice none 0 0] by have:=Vb.new w #[.int .i64 0,.string ⟨#[]⟩,.float .f64 0,.int .i64 0,.bool false,.slice none 0 0,.slice none 0 0];rwa[hn0] at this);clear hE IH h hB hL hLp;go_enter Tryz.func97,Tryz.ntmps97
 go_wp2_with fail;generalize w.alloc _=wz at H HV2|-;clear hn0;refine(name_any HE.out H.out.s H.out.B ha).mono ?_;rintro e w2 ⟨s,a1,c1,rfl,hs,q1,hA,q3,q4,hp⟩;replace HV2:=aM (HV2.out.keep H.out.s hp);replace H:=aM (H.out.step hp);have Q4:=aM q4;have PR:=aM q3;clear hp q4 q3;have NN:=aM (NR.lit1 w2 (n0+1) (blk_lt HV2.out) s);replace HV2:=aM (HV2.out.alloc (.cells #[.string s] 9));replace H:=aM (H.out.alloc (.cells #[.string s] 9));have hn1':=blk_lt HV2.out;obtain⟨n1,hn1⟩:∃n,(w2.alloc (.cells #[.string s] 9)).heap.size=n:=⟨_,rfl⟩;rw[hn1] at hn1';have HO:=aM (show Ow E w ((w2.alloc (.cells #[.string s] 9)).alloc (.cells #[.int .i64 9,.string ⟨#[]⟩,.float .f64 0,.int .i64 0,.bool false,.slice (some ⟨w2.heap.size,0,none⟩) 1 1,.slice none 0 0] 27)) n0 n1 a1 c1 9 0 [s] [] (.slice (some ⟨w2.heap.size,0,none⟩) [s].length 1) (.slice none 0 0) from⟨H.out.alloc _,HV2.out.alloc _,by have:=Vb.new (w2.alloc (.cells #[.string s] 9)) #[.int .i64 9,.string ⟨#[]⟩,.float .f64 0,.int .i64 0,.bool false,.slice (some ⟨w2.heap.size,0,none⟩) 1 1,.slice none 0 0];rwa[hn1] at this,NN.out.alloc _,KR.nil _ _⟩);clear H HV2 NN;go_wp2_with fail;generalize ((w2.alloc (.cells #[.string s] 9)).alloc (.cells #[.int .i64 9,.string ⟨#[]⟩,.float .f64 0,.int .i64 0,.bool false,.slice (some ⟨w2.heap.size,0,none⟩) 1 1,.slice none 0 0] 27))=w3 at HO|-;clear hn1;have hor:a<a1\/a1=E.n-1:=by
  rcases Nat.lt_or_ge (a+1) E.n with h|h
  ·exact .inl (PR.out h)
  ·exact .inr (by omega)
 have NS:=aM (show c1=0->∀nm∈[s],NameT nm/\nm.size<=2000 from fun h0 nm hm=>by
  have e:=List.mem_singleton.1 hm;rw[e];exact⟨(Q4.out h0).2.2.2,hs⟩)
 have hne:[s]≠[]:=by simp
 obtain⟨An,hAn⟩:∃A:Option Addr,some ⟨w2.heap.size,0,none⟩=A:=⟨_,rfl⟩;rw[hAn] at HO;clear hAn;have HL1:=aM (show [s].length=1 from rfl);generalize [s]=ns at HO NS hne HL1;refine(hasSign_any HE.out HO.out.p.s HO.out.p.B hA _).mono ?_;rintro e w4 ⟨b2,a2,rfl,hb2,p1,p2,hp⟩;replace HO:=aM (HO.out.step hp);clear hp hb2
 go_upto_if 9 with fail
 go_cut [] from 9 to 38 (fun wc=>∃(kd:Int) (ns:List ByteArray) (xs:List Nd) (a':Nat) (c':Int) (An:Option Addr) (cn:Nat) (A:Option Addr) (cp:Nat),(kd=9/\ns≠[]\/kd=10)/\a1<=a'/\a'<E.n/\xs.length<=3000/\Aside0 (∀x∈xs,Ok (c'=0) .e x)/\Aside0 (c'=0->c1=0/\wts xs+ns.length<=3*(a'-a1)+1/\∀nm∈ns,NameT nm/\nm.size<=2000)/\Aside0 (Ow E w wc n0 n1 a' c' kd 0 ns xs (.slice An ns.length cn) (.slice A xs.length cp)))
 case first=>
  cases b2 with
  |true=>
   obtain⟨rfl,hlt⟩:=p1 rfl;clear p1 p2;have HSZ2:=aM (blk_lt HO.out.v3);go_wp2_with fail;refine(HLL.out (a1+1) (by omega) hlt _ _ HO.out.p.s HO.out.p.B).mono ?_;rintro e w6 ⟨xs,A,cp,a2,c2,rfl,kx,ox,lx,mx,hp⟩;have KX:=aM (kx.lower (b':=n1+1) HSZ2.out);replace HO:=aM (HO.out.step hp);have OX:=aM ox;have MX:=aM mx;clear kx ox mx hp;have y6:=bC HO.out.v3 6;have fy6:=bF HO.out.v3 6;have HO2:=aM (Ow.kids HO.out.p HO.out.v2 HO.out.v3 HO.out.nr KX.out HE.out HP.out HB0.out (by have:=HN0.out;omega) (by omega));go_upto_region 4 with fail;generalize w6.setCell ⟨n1,6,none⟩ (.slice A xs.length cp)=w7 at HO2|-;clear HO y6 fy6 KX
   go_cut [22] from 13 to 22 (fun v wc=>∃b:Bool,v = .bool b/\Aside0 (Ow E w wc n0 n1 a2 c2 9 0 ns xs (.slice An ns.length 1) (.slice A xs.length cp)))
   case first=>
    have y6:=bC HO2.out.v3 6;obtain⟨b1,hb1⟩:∃b:Bool,((xs.length:Int) != 2)=b:=⟨_,rfl⟩;obtain⟨b3,hb3⟩:∃b:Bool,((xs.length:Int) != 3)=b:=⟨_,rfl⟩
    cases b1 with
    |false=>
     go_wp2_with fail;go_meet
     case rel=>exact⟨_,rfl,HO2⟩
    |true=>
     go_wp2_with fail;go_meet
     case rel=>exact⟨_,rfl,HO2⟩
   clear HO2;obtain⟨b22,rfl,H⟩:=hcut;have G2:=aM (show c2=0->c1=0/\wts xs+ns.length<=3*(a2-a1)+1/\∀nm∈ns,NameT nm/\nm.size<=2000 from fun h0=>by
    obtain⟨r1,r2⟩:=MX.out.good h0;have:=MX.out.le;exact⟨r1,by have:=HL1.out;omega,NS.out r1⟩)
   cases b22 with
   |false=>
    go_wp2_with fail;go_meet
    case rel=>exact⟨9,ns,xs,a2,c2,An,1,A,cp,.inl ⟨rfl,hne⟩,by have:=MX.out.le;omega,MX.out.lt,lx,OX,G2,H⟩
   |true=>
    go_wp2_with fail;refine(tell_any HE.out H.out.p.s H.out.p.B 1).mono ?_;rintro e w8 ⟨rfl,h2⟩;replace H:=aM (H.out.step h2);clear h2;go_wp2_with fail;go_meet
    case rel=>exact⟨9,ns,xs,E.n-1,_,An,1,A,cp,.inl ⟨rfl,hne⟩,by omega,by omega,lx,⟨fun x hx=>(OX.out x hx).mono (tell_g (by decide))⟩,⟨tell_g (by decide)⟩,H⟩
  |false=>
   obtain rfl:=(p2 rfl).symm;clear p1 p2;have y0:=bC HO.out.v3 0;have fy0:=bF HO.out.v3 0;have HO2:=aM (HO.out.kind HE.out HP.out HB0.out (by have:=HN0.out;omega) (by omega) 10);go_upto_region 7 with fail;generalize w4.setCell ⟨n1,0,none⟩ (.int .i64 10)=w5 at HO2|-;clear HO y0 fy0;have HO:=HO2;clear HO2;go_wp2_with fail;refine(hasSign_any HE.out HO.out.p.s HO.out.p.B hA _).mono ?_;rintro e w6 ⟨b3,a3,rfl,_,p1,p2,hp⟩;replace HO:=aM (HO.out.step hp);clear hp
   go_upto_if 27 with fail
   go_cut [] from 27 to 33 (fun wc=>∃(ns:List ByteArray) (a':Nat) (c':Int) (An:Option Addr) (cn:Nat),a1<=a'/\a'<E.n/\Aside0 (c'=0->c1=0/\ns.length<=3*(a'-a1)+1/\∀nm∈ns,NameT nm/\nm.size<=2000)/\Aside0 (Ow E w wc n0 n1 a' c' 10 0 ns [] (.slice An ns.length cn) (.slice none 0 0)))
   case first=>
    cases b3 with
    |false=>
     obtain rfl:=(p2 rfl).symm;clear p1 p2;go_wp2_with fail;go_meet
     case rel=>exact⟨ns,a1,c1,An,1,Nat.le_refl _,hA,⟨fun h0=>⟨h0,by have:=HL1.out;omega,NS.out h0⟩⟩,HO⟩
    |true=>
     obtain⟨rfl,hlt⟩:=p1 rfl;clear p1 p2;have y5:=bC HO.out.v3 5;have fy5:=bF HO.out.v3 5;replace HO:=aM HO.out.drew;have HF:=aM (names_any HE.out HO.out.p.s HO.out.p.B hlt);go_upto_region 8 with fail
     go_region_law (first|(refine NR.cat_stepd (by rfl) (.tmp 29) (.tmp 31) (by rfl) (by rfl) H2.out.nr (by rfl) NU.out (by have:=blk_lt H2.out.v3;omega) (by have:=HL1.out;omega) HP.out HE.out HB0.out (by have:=HN0.out;omega) H2.out.p ?_;intro A9 c9 w9 k9 p9 v9;have U9:=v9 _ _ H2.out.v2;have V9:=v9 _ _ H2.out.v3;have H9:=aM (Ow.named p9 U9 V9 k9 (KR.nil _ _) HE.out HP.out HB0.out (by have:=HN0.out;omega) (by omega));have e9:=bC V9 5;have fe9:=bF V9 5;clear k9 p9 v9 U9 V9)|(go_simp;go_at_call 124;refine HF.out.mono ?_;rintro e w8 ⟨us,vu,a4,c4,rfl,nu,hue,hul,hum,mu,hp⟩;(obtain⟨Au,cu,rfl⟩:=nu.sl);have NU:=aM nu;have UM:=aM hum;have MU:=aM mu;have H2:=aM (HO.out.step hp);have r5:=bC H2.out.v3 5;clear nu hum mu hp))
     all_goals
      have hl9:(ns++us).length=ns.length+us.length:=by simp
      have G9:=aM (show c4=0->c1=0/\(ns++us).length<=3*(a4-a1)+1/\∀nm∈ns++us,NameT nm/\nm.size<=2000 from fun h0=>by
       obtain⟨r1,r2⟩:=MU.out.good h0;have:=MU.out.le;have:=HL1.out;refine⟨r1,by omega,fun nm hm=> ?_⟩;rcases List.mem_append.1 hm with hm|hm
       ·exact NS.out r1 nm hm
       ·exact UM.out h0 nm hm)
      go_wp2
      go_meet
      case rel=>exact⟨ns++us,a4,c4,A9,c9,by have:=MU.out.le;omega,MU.out.lt,G9,by rw[hl9];exact H9⟩
   clear HO p1 p2 NS hne HL1;obtain⟨ns,a4,c4,An,cn,f1,f2,F3,HO⟩:=hcut;go_wp2_with fail;refine(word_any HE.out HO.out.p.s HO.out.p.B f2 _).mono ?_;rintro e w8 ⟨a5,c5,rfl,r1,r2,r3,r4,hp⟩;replace HO:=aM (HO.out.step hp);have R4:=aM r4;clear hp r3 r4;have HSZ2:=aM (blk_lt HO.out.v3);go_wp2_with fail;refine(HLL.out a5 (by omega) r2 _ _ HO.out.p.s HO.out.p.B).mono ?_;rintro e w9 ⟨xs,A,cp,a6,c6,rfl,kx,ox,lx,mx,hp⟩;have KX:=aM (kx.lower (b':=n1+1) HSZ2.out);replace HO:=aM (HO.out.step hp);have OX:=aM ox;have MX:=aM mx;clear kx ox mx hp;have y6:=bC HO.out.v3 6;have fy6:=bF HO.out.v3 6;go_wp2_with fail;go_meet
   case rel=>exact⟨10,ns,xs,a6,c6,An,cn,A,cp,.inr rfl,by have:=MX.out.le;omega,MX.out.lt,lx,OX,⟨fun h0=>by(obtain⟨s1,s2⟩:=MX.out.good h0);(obtain⟨t1,t2,_⟩:=R4.out s1);(obtain⟨u1,u2,u3⟩:=F3.out t1);have:=MX.out.le;exact⟨u1,by omega,u3⟩⟩,⟨Ow.kids HO.out.p HO.out.v2 HO.out.v3 HO.out.nr KX.out HE.out HP.out HB0.out (by have:=HN0.out;omega) (by omega)⟩⟩
 clear HO p1 p2 NS hne HL1;obtain⟨kd,ns,xs,a2,c2,An,cn,A,cp,hkd,q5,q6,lx,OX,G,H⟩:=hcut;have y6:=bC H.out.v3 6;have y3:=bC H.out.v3 3;have fy3:=bF H.out.v3 3;go_upto_region 12 with fail;have H2:=aM (H.out.count HE.out HP.out HB0.out (by have:=HN0.out;omega) (by omega) (xs.length:Int));generalize wc.setCell ⟨n1,3,none⟩ (.int .i64 (xs.length:Int))=w6 at H2|-;clear H y6 y3 fy3;have H:=H2;clear H2;go_wp2_with fail;refine(word_any HE.out H.out.p.s H.out.p.B q6 _).mono ?_;rintro e w7 ⟨a5,c5,rfl,r1,r2,r3,r4,hp⟩;replace H:=aM (H.out.step hp);have R4:=aM r4;clear hp r4 r3;have hor5:a<a5\/a5=E.n-1:=by omega
 have y6:=bC H.out.v3 6;have fy6:=bF H.out.v3 6;have HF:=aM (HLP.out a5 hor5 r2 _ _ H.out.drew.p.s H.out.drew.p.B);replace H:=aM H.out.drew;have HSZ:=aM (blk_lt H.out.v3);have HVV:=aM H.out.kr.lt;go_upto_region 13 with fail
 go_cut [] from 45 to 51 (fun wc=>∃(y:Nd) (A9:Option Addr) (c9:Nat) (a4:Nat) (c4:Int),Aside0 (Ok (c4=0) .b y)/\Aside0 (Mv E a5 c5 a4 c4 (y.wt+0) 1)/\Aside0 (Ow E w wc n0 n1 a4 c4 kd (xs.length:Int) ns (xs++[y]) (.slice An ns.length cn) (.slice A9 (xs.length+1) c9)))
 case first=>
  go_region_law (first|(refine KR.push_stepd _ (by rfl) (.tmp 46) (.tmp 49) (by rfl) (by rfl) H2.out.kr (by rfl) (by rfl) TY.out (by have:=HSZ.out;omega) HVV.out (by rfl) (by have:=blk_lt H2.out.v3;omega) (by omega) HP.out HE.out HB0.out (by have:=HN0.out;omega) H2.out.p ?_;intro A9 c9 w9 k9 p9 v9 g9;have N9:=H2.out.nr.grown H2.out.kr g9;have U9:=v9 _ _ (by omega) H2.out.v2;have V9:=v9 _ _ (by omega) H2.out.v3;have H9:=aM (Ow.kids p9 U9 V9 N9 k9 HE.out HP.out HB0.out (by have:=HN0.out;omega) (by omega));have e9:=bC V9 6;have fe9:=bF V9 6;clear k9 p9 v9 g9 U9 V9 N9)|(go_simp;go_at_call 95;refine HF.out.mono ?_;rintro e w8 ⟨y,Yn,yn,Yk,yk,a4,c4,rfl,ty,oy,_,my,hp⟩;have TY:=aM ty;have OY:=aM oy;have MY:=aM my;have H2:=aM (H.out.step hp);have r6:=bC H2.out.v3 6;have r6a:=fun(ob:Obj)=>bC (H2.out.alloc ob).v3 6;clear ty oy my hp))
  all_goals
   go_wp2
   go_meet
   case rel=>exact⟨y,A9,c9,a4,c4,OY,MY,H9⟩
 clear H HF y6 fy6 HSZ HVV;obtain⟨y,A9,c9,a4,c4,OY,MY,H⟩:=hcut;have hA4:=MY.out.lt;have hle4:=MY.out.le;go_wp2_with fail;refine(word_any HE.out H.out.p.s H.out.p.B hA4 _).mono ?_;rintro e w9 ⟨a7,c7,rfl,s1,s2,s3,s4,hp⟩;replace H:=aM (H.out.step hp);have S4:=aM s4;clear hp s3 s4;obtain⟨m9,hm9⟩:∃m,m=(xs++[y]).length:=⟨_,rfl⟩;have hl9:xs.length+1=m9:=by rw[hm9];simp
 rw[hl9] at H;replace hm9:=aM hm9;clear hl9;obtain⟨nx,hnx⟩:∃nx:Int,nx=(xs.length:Int):=⟨_,rfl⟩;rw[<-hnx] at H;replace hnx:=aM hnx;obtain⟨y0,y1,y2,y3,y4,y5,y6⟩:=bC7 H.out.v3;obtain⟨z0,z1,z2,z3,z4,z5,z6⟩:=bC7 H.out.v2;obtain⟨fz0,fz1,fz2,fz3,fz4,fz5,fz6⟩:=bF7 H.out.v2;go_wp2_with fail;have HF:=aM (H.out.fin HE.out HP.out HB0.out HN0.out (by omega));generalize (((((((w9.setCell ⟨n0,0,none⟩ (.int .i64 kd)).setCell ⟨n0,1,none⟩ (.string ⟨#[]⟩)).setCell ⟨n0,2,none⟩ (.float .f64 0)).setCell ⟨n0,3,none⟩ (.int .i64 nx)).setCell ⟨n0,4,none⟩ (.bool false)).setCell ⟨n0,5,none⟩ (.slice An ns.length cn)).setCell ⟨n0,6,none⟩ (.slice A9 m9 c9))=WF at HF|-;obtain⟨qq0,qq1,qq2,qq3,qq4,qq5,qq6⟩:=bC7 HF.out.2.2;refine bodyPost_ret (v:= .agg #[.int .i64 kd,.string ⟨#[]⟩,.float .f64 0,.int .i64 nx,.bool false,.slice An ns.length cn,.slice A9 m9 c9]) (by simp[results,Tryz.results97,go_sem,qq0,qq1,qq2,qq3,qq4,qq5,qq6]) rfl ?_;have hm9:=hm9.out;have hnx:=hnx.out;subst hm9;subst hnx
 have OXX:∀x∈xs,Ok (c7=0) .e x:=fun x hx=>(OX.out x hx).mono (fun h0=>(R4.out (MY.out.good (S4.out h0).1).1).1)
 have TXX:c7=0->Tx ⟨kd,⟨#[]⟩,0,(xs.length:Int),false,ns,xs++[y]⟩:=fun h0=>Tx.none (Nat.zero_le _) (by show kd≠23/\kd≠27/\kd≠30/\kd≠31/\kd≠32;omega) (G.out (R4.out (MY.out.good (S4.out h0).1).1).1).2.2
 refine⟨⟨kd,⟨#[]⟩,0,(xs.length:Int),false,ns,xs++[y]⟩,An,cn,A9,c9,a7,c7,rfl,HF.out.2.1,?_,trivial,⟨by omega,s2,fun _ h=>by omega,fun h0=> ?_⟩,HF.out.1⟩
 ·rcases hkd with⟨rfl,hne⟩|rfl
  ·exact .forn rfl TXX hne rfl rfl OXX (OY.out.mono (fun h0=>(S4.out h0).1))
  ·exact .fori rfl TXX rfl rfl OXX (OY.out.mono (fun h0=>(S4.out h0).1))
 ·obtain⟨t1,t2,_⟩:=S4.out h0
  obtain⟨t3,t4⟩:=MY.out.good t1;obtain⟨t5,t6,_⟩:=R4.out t3;obtain⟨t7,t8,_⟩:=G.out t5;obtain⟨u1,u2,_⟩:=Q4.out t7;refine⟨u1,?_⟩;simp only[wt_mk,wts_append,wts];omega
end
structure Nm(E:Env)(w wz wr:World)(n0 n1 a:Nat)(c:Int)(a':Nat)(c':Int)(q cp:Nat)(ns:List ByteArray):Prop where
 x:∃(x:Nd) (An:Option Addr) (cn:Nat) (Ak:Option Addr) (ck:Nat),Ok (c'=0) .e x/\(c'=0->c=0/\x.wt+1<=3*(a'-a))/\Ou E w wr n0 n1 (n1+1) a' c' x.k x.s x.x x.n x.b x.names x.kids (.slice An x.names.length cn) (.slice Ak x.kids.length ck)/\TrN wr (n1+1) q x (.slice An x.names.length cn) (.slice Ak x.kids.length ck)
 n:NR wr (n0+1) (.slice (some ⟨q,0,none⟩) ns.length cp) ns
 z:Pt E wz wr a' c'
section
variable {E:Env} {w wz wr w1:World} {a a' a0 a2 b b2 n0 n1 q cp:Nat} {c c' c0 c2:Int} {ns:List ByteArray} {v vn vk:Value} {cs:Array Value} {x:Nd}
theorem NR.off7(h:NR wr b v ns)(hv:Vb wr q cs)(hf:∀k,k≠q->w1.heap[k]? = wr.heap[k]?):NR w1 b v ns:=
 Kd.R_mono (Kd.R_step (Kd.R_types h hv (by decide)) (fun k hk _=>hf k hk.2)) (fun _ _=>trivial)
theorem TrN.tr(h:TrN wr b q x vn vk):Tr wr b x vn vk:=nodeK.M_mono (fun _ _=>trivial) h
theorem TrN.far(h:TrN wr b q x vn vk)(hf:∀k,k≠n1->w1.heap[k]? = wr.heap[k]?)(hn:n1<b):TrN w1 b q x vn vk:=
 nodeK.M_mono (fun _ h=>h.1) (Kd.M_step (nodeK.M_bound h) (fun k hk _=>hf k (by have:=hk.2.1;omega)))
theorem TrN.drew(h:TrN wr b q x vn vk):TrN wr.drew b q x vn vk:=h.below (below_drew (bR _ _))
theorem TrN.leaf(wr:World)(b q:Nat)(hn:x.names=[])(hk:x.kids=[]):TrN wr b q x (.slice none 0 0) (.slice none 0 0):=node_mkM (by rw[hn];exact Kd.R_nil _ _ _ _ _) (by rw[hk];exact Kd.R_nil _ _ _ _ _)
set_option maxRecDepth 10000 in
theorem index_anyN(h:TrN w b q x vn vk)(hq:q<w.heap.size)(hb:b<=w.heap.size)(s:ByteArray):Calls Tryz.prog 125 #[.agg #[.int .i64 x.k,.string x.s,.float .f64 x.x,.int .i64 x.n,.bool x.b,vn,vk],.string s] w fun e w'=>∃uk,e = .returned (.agg #[.int .i64 28,.string ⟨#[]⟩,.float .f64 0,.int .i64 0,.bool false,.slice none 0 0,uk])/\TrN w' b q (ndIx x s) (.slice none 0 0) uk/\Below w.heap.size w w':=by
 have HT:=aM h;have HB:=aM hb;obtain⟨⟨An,cn,rfl⟩,⟨Ak,ck,rfl⟩⟩:=And.intro h.tr.rows.1.sl h.tr.rows.2.sl;clear h hb;go_enter Tryz.func125,Tryz.ntmps125
 go_wp2_with fail;have e2:((w.alloc (.cells #[.int .i64 x.k,.string x.s,.float .f64 x.x,.int .i64 x.n,.bool x.b,.slice An x.names.length cn,.slice Ak x.kids.length ck] 27)).alloc (.cells #[.int .i64 28,.string ⟨#[]⟩,.float .f64 0,.int .i64 0,.bool false,.slice none 0 0,.slice (some ⟨w.heap.size+1+1,0,none⟩) 2 2] 27)).heap.size=w.heap.size+1+1:=by simp
 have e1:(w.alloc (.cells #[.int .i64 x.k,.string x.s,.float .f64 x.x,.int .i64 x.n,.bool x.b,.slice An x.names.length cn,.slice Ak x.kids.length ck] 27)).heap.size=w.heap.size+1:=by simp
 have hk:=KN.lit2 ((HT.out.alloc (.cells #[.int .i64 x.k,.string x.s,.float .f64 x.x,.int .i64 x.n,.bool x.b,.slice An x.names.length cn,.slice Ak x.kids.length ck] 27)).alloc (.cells #[.int .i64 28,.string ⟨#[]⟩,.float .f64 0,.int .i64 0,.bool false,.slice none 0 0,.slice (some ⟨w.heap.size+1+1,0,none⟩) 2 2] 27)) (TrN.leaf (x:=ndS s) _ b q rfl rfl) (by rw[e2];have:=HB.out;omega) (by rw[e2];omega);have hv:=blk_new (w.alloc (.cells #[.int .i64 x.k,.string x.s,.float .f64 x.x,.int .i64 x.n,.bool x.b,.slice An x.names.length cn,.slice Ak x.kids.length ck] 27)) (.cells #[.int .i64 28,.string ⟨#[]⟩,.float .f64 0,.int .i64 0,.bool false,.slice none 0 0,.slice (some ⟨w.heap.size+1+1,0,none⟩) 2 2] 27);rw[e2] at hk;rw[e1] at hv;have hv2:=blk_alloc hv (.cells #[.int .i64 x.k,.string x.s,.float .f64 x.x,.int .i64 x.n,.bool x.b,.slice An x.names.length cn,.slice Ak x.kids.length ck,.int .i64 24,.string s,.float .f64 0,.int .i64 0,.bool false,.slice none 0 0,.slice none 0 0] 27);obtain⟨q0,q1,q2,q3,q4,q5,q6⟩:=bC7 hv2;refine bodyPost_ret (v:= .agg #[.int .i64 28,.string ⟨#[]⟩,.float .f64 0,.int .i64 0,.bool false,.slice none 0 0,.slice (some ⟨w.heap.size+1+1,0,none⟩) 2 2]) (by simp[results,Tryz.results125,go_sem,q0,q1,q2,q3,q4,q5,q6]) rfl ?_;exact⟨_,rfl,node_mkM (Kd.R_nil _ _ _ _ _) hk,bA (bA (bA (bR _ _) _) _) _⟩
theorem Nm.p(h:Nm E w wz wr n0 n1 a c a' c' q cp ns):Pt E w wr a' c':=by
 obtain⟨x,An,cn,Ak,ck,h1,h3,h4,h5⟩:=h.x;exact h4.p
theorem Nm.step(h:Nm E w wz wr n0 n1 a c a' c' q cp ns)(h2:Pt E wr w1 a2 c2)(hc:c2=0->c'=0)(hle:a'<=a2):Nm E w wz w1 n0 n1 a c a2 c2 q cp ns:=by
 obtain⟨x,An,cn,Ak,ck,h1,h3,h4,h5⟩:=h.x;exact⟨⟨x,An,cn,Ak,ck,h1.mono hc,fun h0=>⟨(h3 (hc h0)).1,by have:=(h3 (hc h0)).2;omega⟩,h4.step h2,h5.keep h4.p.s h2⟩,h.n.keep h4.p.s h2,h.z.step h2⟩
theorem Nm.index{x:Nd}{s:ByteArray}{A9:Option Addr}{c9:Nat}(p:Pt E w wr a' c')(v2:Vb wr n0 #[.int .i64 0,.string ⟨#[]⟩,.float .f64 0,.int .i64 0,.bool false,.slice none 0 0,.slice none 0 0])(v3:Vb wr n1 cs)(hcs:cs.size=7)(ti:TrN wr (n1+1) q (ndIx x s) (.slice none 0 0) (.slice A9 2 c9))
  (ok:Ok (c'=0) .e (ndIx x s)) (g:c'=0->c=0/\(ndIx x s).wt+1<=3*(a'-a)) (hn:NR wr (n0+1) (.slice (some ⟨q,0,none⟩) ns.length cp) ns) (hz:Pt E wz wr a' c') (hE:E.Fine) (h0:Ps E w a0 c0) (hB:E.w0.heap.size<=w.heap.size) (hwn:w.heap.size<=n1) (hne:n0≠n1) (hz0:Ps E wz a2 c2) (hzB:E.w0.heap.size<=wz.heap.size) (hwz:wz.heap.size<=n1):
  Nm E w wz (((((((wr.setCell ⟨n1,0,none⟩ (.int .i64 28)).setCell ⟨n1,1,none⟩ (.string ⟨#[]⟩)).setCell ⟨n1,2,none⟩ (.float .f64 0)).setCell ⟨n1,3,none⟩ (.int .i64 0)).setCell ⟨n1,4,none⟩ (.bool false)).setCell ⟨n1,5,none⟩ (.slice none 0 0)).setCell ⟨n1,6,none⟩ (.slice A9 2 c9)) n0 n1 a c a' c' q cp ns:=by
 obtain⟨h1,h2,h3⟩:=hz.put7 hE hz0 hzB hwz v3 hcs (.int .i64 28) (.string ⟨#[]⟩) (.float .f64 0) (.int .i64 0) (.bool false) (.slice none 0 0) (.slice A9 2 c9);exact⟨⟨ndIx x s,none,0,A9,c9,ok,g,Ou.assign p v2 v3 hcs (NR.nil _ _) ti.tr.rows.2 hE h0 hB hwn (by omega) hne 28 ⟨#[]⟩ 0 0 false,ti.far h3 (by omega)⟩,hn.off7 v3 h3,h1⟩
theorem Nm.late{N:Nat}(h:Nm E w wz wr n0 n1 a c a' c' q cp ns)(hN:wr.heap.size=N)(hb:n0+1<=N)(s:ByteArray):Nm E w wz (wr.alloc (.cells #[.string s] 9)) n0 n1 a c a' c' N 1 [s]:=by
 subst hN;obtain⟨x,An,cn,Ak,ck,h1,h3,h4,h5⟩:=h.x;exact⟨⟨x,An,cn,Ak,ck,h1,h3,h4.alloc _,(h5.tr.n_new (Nat.le_refl _)).alloc _⟩,NR.lit1 wr (n0+1) hb s,h.z.alloc _⟩
theorem self_name:NameT ⟨#[115,101,108,102]⟩:=⟨⟨115,[101,108,102],by decide,by decide,by decide⟩,by decide,by decide⟩
theorem Pt.over{r:Option Nat}(h:Pt E w wr a c)(hk:KeepBut wr w1 E.g r)(hz:Pt E wz w1 a' c')(hr:∀k,r=some k->w.heap.size<=k):Pt E w w1 a' c':=by
 refine⟨hz.s,hz.k.b,KeepBut.trans h.k.k hk ?_⟩
 cases r with
 |none=>exact .inl rfl
 |some k=>exact .inr ⟨k,rfl,hr k rfl⟩
theorem Vb.over(h:Vb wr q cs)(hs:Ps E wr a c)(hk:KeepBut wr w1 E.g (Value.ownBlock v))(hn:NR wr b v ns):Vb w1 q cs:=by
 obtain⟨cs,hg⟩:=hs.typed;exact hk.blk h (blk_ne h hg (by decide)) (Kd.R_ne hn h (by decide))
theorem TrN.over{A:Addr}(h:TrN wr b q x vn vk)(hs:Ps E wr a c)(hk:KeepBut wr w1 E.g (some q)):Tr w1 b x vn vk:=by
 obtain⟨cs,hg⟩:=hs.typed;exact nodeK.M_mono (fun _ _=>trivial) (Kd.M_step (Kd.M_types h hg (by decide)) (fun k hk2 hlt=>hk.2 k hlt hk2.2 (by intro e;injection e with e;exact hk2.1 e)))
end
section
variable {E:Env} {a:Nat}
set_option maxRecDepth 10000 in
set_option maxHeartbeats 16000000 in
theorem named_any(hE:E.Fine)(ha:a<E.n)(hBody:∀b,a<=b->b<E.n->BC E b):NC E 98 #[.pointer (some ⟨E.g,0,none⟩)] a .s 0 0 (fun _=>True):=by
 intro w c h hB;have HE:=aM hE;have HBD:=aM hBody;have hpos:=hE.pos;have hlen:=hE.len;have HP:=aM h;have HB0:=aM hB.size;obtain⟨n0,hn0⟩:∃n0,w.heap.size=n0:=⟨_,rfl⟩;have HN0:=aM hn0;have H:=aM ((Pt.start h hB).alloc (.cells #[.int .i64 0,.string ⟨#[]⟩,.float .f64 0,.int .i64 0,.bool false,.slice none 0 0,.slice none 0 0] 27));have HPZ:=aM (h.alloc (.cells #[.int .i64 0,.string ⟨#[]⟩,.float .f64 0,.int .i64 0,.bool false,.slice none 0 0,.slice none 0 0] 27));have HSZ:=aM (show(w.alloc (.cells #[.int .i64 0,.string ⟨#[]⟩,.float .f64 0,.int .i64 0,.bool false,.slice none 0 0,.slice none 0 0] 27)).heap.size=n0+1 by simp[hn0]);have HV2:=aM (show Vb (w.alloc (.cells #[.int .i64 0,.string ⟨#[]⟩,.float .f64 0,.int .i64 0,.bool false,.slice none 0 0,.slice none 0 0] 27)) n0 #[.int .i64 0,.string ⟨#[]⟩,.float .f64 0,.int .i64 0,.bool false,.slice none 0 0,.slice none 0 0] by have:=Vb.new w #[.int .i64 0,.string ⟨#[]⟩,.float .f64 0,.int .i64 0,.bool false,.slice none 0 0,.slice none 0 0];rwa[hn0] at this);have HBZ:=aM (show E.w0.heap.size<=(w.alloc (.cells #[.int .i64 0,.string ⟨#[]⟩,.float .f64 0,.int .i64 0,.bool false,.slice none 0 0,.slice none 0 0] 27)).heap.size by have:=hB.size;simp;omega);clear hE h hB hBody;go_enter Tryz.func98,Tryz.ntmps98
 go_wp2_with fail;generalize w.alloc _=wz at H HV2 HPZ HSZ HBZ|-;clear hn0;have HZ:=aM (Pt.start HPZ.out H.out.B);refine(name_any HE.out H.out.s H.out.B ha).mono ?_;rintro e w2 ⟨s,a1,c1,rfl,hs,q1,hA,q3,q4,hp⟩;replace HV2:=aM (HV2.out.keep H.out.s hp);replace HZ:=aM (HZ.out.step hp);replace H:=aM (H.out.step hp);have Q4:=aM q4;have PR:=aM q3;clear hp q4 q3;obtain⟨n1,hn1⟩:∃n,(w2.alloc (.cells #[] 9)).heap.size=n:=⟨_,rfl⟩;have hn01:n0<n1:=by rw[<-hn1];have:=blk_lt HV2.out;simp;omega
 have HM:=aM (show Nm E w wz ((w2.alloc (.cells #[] 9)).alloc (.cells #[.int .i64 27,.string s,.float .f64 0,.int .i64 0,.bool false,.slice none 0 0,.slice none 0 0] 27)) n0 n1 a c a1 c1 w2.heap.size 0 [] from⟨⟨ndN s,none,0,none,0,.atom (.inr (.inr (.inr (.inr (.inr (.inr rfl)))))) (fun h0=>⟨hs,fun h=>absurd h (by simp[ndN]),fun _=>(Q4.out h0).2.2.2,fun h=>absurd h (by simp[ndN]),fun nm h=>by simp[ndN] at h⟩),fun h0=>⟨(Q4.out h0).1,by have:=(Q4.out h0).2.1;simp[wt_mk,ndN,wts];omega⟩,⟨(H.out.alloc _).alloc _,(HV2.out.alloc _).alloc _,by have:=Vb.new (w2.alloc (.cells #[] 9)) #[.int .i64 27,.string s,.float .f64 0,.int .i64 0,.bool false,.slice none 0 0,.slice none 0 0];rwa[hn1] at this,NR.nil _ _,KR.nil _ _⟩,TrN.leaf _ _ _ rfl rfl⟩,(NR.lit0 w2 (n0+1) (blk_lt HV2.out)).alloc _,(HZ.out.alloc _).alloc _⟩);clear H HV2 HZ;go_wp2_with fail;generalize ((w2.alloc (.cells #[] 9)).alloc (.cells #[.int .i64 27,.string s,.float .f64 0,.int .i64 0,.bool false,.slice none 0 0,.slice none 0 0] 27))=w3 at HM|-;clear hn1;go_loopg [] (E.n-a1) (fun k wr=>∃(a':Nat) (c':Int),k=E.n-a'/\a<=a'/\a'<E.n/\Aside0 (a+1<E.n->a<a')/\Aside0 (Nm E w wz wr n0 n1 a c a' c' w2.heap.size 0 []))
 case atStart=>exact⟨a1,c1,rfl,q1,hA,PR,HM⟩
 case round=>
  clear HM q1 hA PR Q4;obtain⟨a1,c1,hk,q1,hA,PR,HM⟩:=hrel;go_wp2_with fail;refine(hasSign_any HE.out HM.out.p.s HM.out.p.B hA _).mono ?_;rintro e w4 ⟨b1,a2,rfl,_,p1,p2,hp⟩
  cases b1 with
  |true=>
   obtain⟨rfl,hlt⟩:=p1 rfl;clear p1 p2;replace HM:=aM (HM.out.step hp (fun h=>h) (by omega));clear hp;obtain⟨x,An,cn,Ak,ck,ox,gx,ho,tx⟩:=HM.out.x;have OX:=aM ox;have GX:=aM gx;have HO:=aM ho;have TX0:=aM tx.drew;clear ox gx ho tx;obtain⟨y0,y1,y2,y3,y4,y5,y6⟩:=bC7 HO.out.v3;have H0:=aM HO.out.drew;have HZ0:=aM HM.out.z.drew;have NN0:=aM HM.out.n.drew;clear HM;have HN:=aM (name_any HE.out H0.out.p.s H0.out.p.B hlt);go_upto_region 3 with fail
   go_region_law (first|(go_simp;go_at_call 123;refine HN.out.mono ?_;rintro e w8 ⟨s,a4,c4,rfl,hs,q1,q2,q3,q4,hp⟩;have H2:=aM (H0.out.step hp);have HZ2:=aM (HZ0.out.step hp);have NN2:=aM (NN0.out.keep H0.out.p.s hp);have TX2:=aM (TX0.out.keep H0.out.p.s hp);have r0:=bC H2.out.v3 0;have r1:=bC H2.out.v3 1;have r2:=bC H2.out.v3 2;have r3:=bC H2.out.v3 3;have r4:=bC H2.out.v3 4;have r5:=bC H2.out.v3 5;have r6:=bC H2.out.v3 6;have Q4:=aM q4;clear hp q4)|(go_simp;go_at_call 125;refine(index_anyN TX2.out (Kd.R_lt NN2.out _ rfl) (blk_lt H2.out.v3) s).mono ?_;rintro e w9 ⟨uk,rfl,ti,hb⟩;(obtain⟨A9,c9,rfl⟩:∃A cp,uk = .slice A 2 cp:=ti.tr.rows.2.sl);have H3:=H2.out.below hb;have HM9:=aM (Nm.index (a:=a) (c:=c) (x:=x) (s:=s) H3.p H3.v2 H3.v3 rfl ti (.ix rfl (fun _=>Tx.bare (by decide)) rfl (OX.out.mono (fun h0=>(Q4.out h0).1)) (Ok.str hs)) (fun h0=>⟨(GX.out (Q4.out h0).1).1,by have:=(GX.out (Q4.out h0).1).2;have:=(Q4.out h0).2.1;simp[wt_mk,ndIx,ndS,wts];omega⟩) (NN2.out.below hb) (HZ2.out.below hb) HE.out HP.out HB0.out (by have:=HN0.out;omega) (by omega) HPZ.out HBZ.out (by have:=HSZ.out;omega));have r0:=bC H3.v3 0;have r1:=bC H3.v3 1;have r2:=bC H3.v3 2;have r3:=bC H3.v3 3;have r4:=bC H3.v3 4;have r5:=bC H3.v3 5;have r6:=bC H3.v3 6;have f0:=bF H3.v3 0;have f1:=bF H3.v3 1;have f2:=bF H3.v3 2;have f3:=bF H3.v3 3;have f4:=bF H3.v3 4;have f5:=bF H3.v3 5;have f6:=bF H3.v3 6;clear ti hb H3))
   all_goals
    go_wp2
    go_roundg (E.n-a4)
    case measure=>omega
    case rel=>exact⟨a4,c4,rfl,by omega,q2,⟨fun _=>by omega⟩,HM9⟩
  |false=>
   obtain rfl:=(p2 rfl).symm;replace HM:=aM (HM.out.step hp (fun h=>h) (Nat.le_refl _));clear p1 p2 hp;go_wp2_with fail;refine(hasSign_any HE.out HM.out.p.s HM.out.p.B hA _).mono ?_;rintro e w5 ⟨b2,a3,rfl,_,p1,p2,hp⟩
   go_upto_if 16 with fail
   go_cut [4] from 17 to 21 (fun v wc=>∃(ns:List ByteArray) (q cp a':Nat) (c':Int),v = .slice (some ⟨q,0,none⟩) ns.length cp/\a1<=a'/\a'<E.n/\ns.length<=1/\Aside0 (∀nm∈ns,NameT nm/\nm.size<=2000)/\Aside0 (Nm E w wz wc n0 n1 a c a' c' q cp ns))
   case first=>
    cases b2 with
    |false=>
     obtain rfl:=(p2 rfl).symm;replace HM:=aM (HM.out.step hp (fun h=>h) (Nat.le_refl _));clear p1 p2 hp;go_wp2_with fail;go_meet
     case rel=>exact⟨[],w2.heap.size,0,a1,c1,rfl,Nat.le_refl _,hA,by simp,⟨fun nm h=>by simp at h⟩,HM⟩
    |true=>
     obtain⟨rfl,hlt⟩:=p1 rfl;replace HM:=aM (HM.out.step hp (fun h=>h) (by omega));clear p1 p2 hp;obtain⟨x,An,cn,Ak,ck,ox,gx,ho,tx⟩:=HM.out.x;have OX:=aM ox;have GX:=aM gx;have HO:=aM ho;have TX0:=aM tx.drew;have TX0s:=aM ((tx.tr.drew.n_new (q:=w5.heap.size) (Nat.le_refl _)).alloc (.cells #[.string ⟨#[115,101,108,102]⟩] 9));have NNo:=aM HM.out.n.drew;clear ox gx ho tx;obtain⟨y0,y1,y2,y3,y4,y5,y6⟩:=bC7 HO.out.v3;have HOs:=aM (HO.out.alloc (.cells #[.string ⟨#[115,101,108,102]⟩] 9));obtain⟨ya0,ya1,ya2,ya3,ya4,ya5,ya6⟩:=bC7 HOs.out.v3;have H0:=aM HO.out.drew;have HZ0:=aM HM.out.z.drew;have H0s:=aM (H0.out.alloc (.cells #[.string ⟨#[115,101,108,102]⟩] 9));have HZ0s:=aM (HZ0.out.alloc (.cells #[.string ⟨#[115,101,108,102]⟩] 9));have NN0:=aM (NR.lit1 w5.drew (n0+1) (by have:=blk_lt H0.out.v3;omega) ⟨#[115,101,108,102]⟩);clear HM;have HN1:=aM (name_any HE.out H0.out.p.s H0.out.p.B hlt);have HN2:=aM (name_any HE.out H0s.out.p.s H0s.out.p.B hlt);go_upto_region 5 with fail
     go_region_law (first|(go_simp;go_at_call 123;refine HN1.out.mono ?_;rintro e w8 ⟨s,a4,c4,rfl,hs,q1,q2,q3,q4,hp⟩;have H2:=aM (H0.out.step hp);have HZ2:=aM (HZ0.out.step hp);have NNo2:=aM (NNo.out.keep H0.out.p.s hp);have TX2:=aM (TX0.out.keep H0.out.p.s hp);have TX2s:=aM ((TX2.out.tr.n_new (Nat.le_refl _)).alloc (.cells #[.string ⟨#[115,101,108,102]⟩] 9));have r0:=bC H2.out.v3 0;have r1:=bC H2.out.v3 1;have r2:=bC H2.out.v3 2;have r3:=bC H2.out.v3 3;have r4:=bC H2.out.v3 4;have r5:=bC H2.out.v3 5;have r6:=bC H2.out.v3 6;have H2s:=aM (H2.out.alloc (.cells #[.string ⟨#[115,101,108,102]⟩] 9));have ra0:=bC H2s.out.v3 0;have ra1:=bC H2s.out.v3 1;have ra2:=bC H2s.out.v3 2;have ra3:=bC H2s.out.v3 3;have ra4:=bC H2s.out.v3 4;have ra5:=bC H2s.out.v3 5;have ra6:=bC H2s.out.v3 6;have HZ2s:=aM (HZ2.out.alloc (.cells #[.string ⟨#[115,101,108,102]⟩] 9));have NN2:=aM (NR.lit1 w8 (n0+1) (by have:=blk_lt H2.out.v3;omega) ⟨#[115,101,108,102]⟩);have Q4:=aM q4;clear hp q4)|(go_simp;go_at_call 123;refine HN2.out.mono ?_;rintro e w8 ⟨s,a4,c4,rfl,hs,q1,q2,q3,q4,hp⟩;have H2t:=aM (H0s.out.step hp);have HZ2t:=aM (HZ0s.out.step hp);have r0:=bC H2t.out.v3 0;have r1:=bC H2t.out.v3 1;have r2:=bC H2t.out.v3 2;have r3:=bC H2t.out.v3 3;have r4:=bC H2t.out.v3 4;have r5:=bC H2t.out.v3 5;have r6:=bC H2t.out.v3 6;have NN2t:=aM (NN0.out.keep H0s.out.p.s hp);have TX2t:=aM (TX0s.out.keep H0s.out.p.s hp);have Q4:=aM q4;clear hp q4)|(go_simp;go_at_call 125;refine(index_anyN TX2.out (Kd.R_lt NNo2.out _ rfl) (blk_lt H2.out.v3) s).mono ?_;rintro e w9 ⟨uk,rfl,ti,hb⟩;(obtain⟨A9,c9,rfl⟩:∃A cp,uk = .slice A 2 cp:=ti.tr.rows.2.sl);have H3:=H2.out.below hb;have L9:=blk_lt H3.v3;have H3s:=H3.alloc (.cells #[.string ⟨#[115,101,108,102]⟩] 9);have HM9a:=aM (Nm.index (a:=a) (c:=c) (x:=x) (s:=s) H3s.p H3s.v2 H3s.v3 rfl ((ti.tr.n_new (Nat.le_refl _)).alloc (.cells #[.string ⟨#[115,101,108,102]⟩] 9)) (.ix rfl (fun _=>Tx.bare (by decide)) rfl (OX.out.mono (fun h0=>(Q4.out h0).1)) (Ok.str hs)) (fun h0=>⟨(GX.out (Q4.out h0).1).1,by have:=(GX.out (Q4.out h0).1).2;have:=(Q4.out h0).2.1;simp[wt_mk,ndIx,ndS,wts];omega⟩) (NR.lit1 w9 (n0+1) (by have:=blk_lt H3.v3;omega) ⟨#[115,101,108,102]⟩) ((HZ2.out.below hb).alloc (.cells #[.string ⟨#[115,101,108,102]⟩] 9)) HE.out HP.out HB0.out (by have:=HN0.out;omega) (by omega) HPZ.out HBZ.out (by have:=HSZ.out;omega));have HM9b:=aM (Nm.index (a:=a) (c:=c) (x:=x) (s:=s) H3.p H3.v2 H3.v3 rfl ti (.ix rfl (fun _=>Tx.bare (by decide)) rfl (OX.out.mono (fun h0=>(Q4.out h0).1)) (Ok.str hs)) (fun h0=>⟨(GX.out (Q4.out h0).1).1,by have:=(GX.out (Q4.out h0).1).2;have:=(Q4.out h0).2.1;simp[wt_mk,ndIx,ndS,wts];omega⟩) (NNo2.out.below hb) (HZ2.out.below hb) HE.out HP.out HB0.out (by have:=HN0.out;omega) (by omega) HPZ.out HBZ.out (by have:=HSZ.out;omega));have r0:=bC H3.v3 0;have r1:=bC H3.v3 1;have r2:=bC H3.v3 2;have r3:=bC H3.v3 3;have r4:=bC H3.v3 4;have r5:=bC H3.v3 5;have r6:=bC H3.v3 6;have f0:=bF H3.v3 0;have f1:=bF H3.v3 1;have f2:=bF H3.v3 2;have f3:=bF H3.v3 3;have f4:=bF H3.v3 4;have f5:=bF H3.v3 5;have f6:=bF H3.v3 6;have ra0:=bC H3s.v3 0;have ra1:=bC H3s.v3 1;have ra2:=bC H3s.v3 2;have ra3:=bC H3s.v3 3;have ra4:=bC H3s.v3 4;have ra5:=bC H3s.v3 5;have ra6:=bC H3s.v3 6;have fa0:=bF H3s.v3 0;have fa1:=bF H3s.v3 1;have fa2:=bF H3s.v3 2;have fa3:=bF H3s.v3 3;have fa4:=bF H3s.v3 4;have fa5:=bF H3s.v3 5;have fa6:=bF H3s.v3 6;clear ti hb H3 H3s)|(go_simp;go_at_call 125;refine(index_anyN TX2s.out (by simp) (blk_lt H2s.out.v3) s).mono ?_;rintro e w9 ⟨uk,rfl,ti,hb⟩;(obtain⟨A9,c9,rfl⟩:∃A cp,uk = .slice A 2 cp:=ti.tr.rows.2.sl);have H3:=H2s.out.below hb;have HM9c:=aM (Nm.index (a:=a) (c:=c) (x:=x) (s:=s) H3.p H3.v2 H3.v3 rfl ti (.ix rfl (fun _=>Tx.bare (by decide)) rfl (OX.out.mono (fun h0=>(Q4.out h0).1)) (Ok.str hs)) (fun h0=>⟨(GX.out (Q4.out h0).1).1,by have:=(GX.out (Q4.out h0).1).2;have:=(Q4.out h0).2.1;simp[wt_mk,ndIx,ndS,wts];omega⟩) (NN2.out.below hb) (HZ2s.out.below hb) HE.out HP.out HB0.out (by have:=HN0.out;omega) (by omega) HPZ.out HBZ.out (by have:=HSZ.out;omega));have r0:=bC H3.v3 0;have r1:=bC H3.v3 1;have r2:=bC H3.v3 2;have r3:=bC H3.v3 3;have r4:=bC H3.v3 4;have r5:=bC H3.v3 5;have r6:=bC H3.v3 6;have f0:=bF H3.v3 0;have f1:=bF H3.v3 1;have f2:=bF H3.v3 2;have f3:=bF H3.v3 3;have f4:=bF H3.v3 4;have f5:=bF H3.v3 5;have f6:=bF H3.v3 6;clear ti hb H3)|(go_simp;go_at_call 125;refine(index_anyN TX2t.out (Kd.R_lt NN2t.out _ rfl) (blk_lt H2t.out.v3) s).mono ?_;rintro e w9 ⟨uk,rfl,ti,hb⟩;(obtain⟨A9,c9,rfl⟩:∃A cp,uk = .slice A 2 cp:=ti.tr.rows.2.sl);have H3:=H2t.out.below hb;have HM9d:=aM (Nm.index (a:=a) (c:=c) (x:=x) (s:=s) H3.p H3.v2 H3.v3 rfl ti (.ix rfl (fun _=>Tx.bare (by decide)) rfl (OX.out.mono (fun h0=>(Q4.out h0).1)) (Ok.str hs)) (fun h0=>⟨(GX.out (Q4.out h0).1).1,by have:=(GX.out (Q4.out h0).1).2;have:=(Q4.out h0).2.1;simp[wt_mk,ndIx,ndS,wts];omega⟩) (NN2t.out.below hb) (HZ2t.out.below hb) HE.out HP.out HB0.out (by have:=HN0.out;omega) (by omega) HPZ.out HBZ.out (by have:=HSZ.out;omega));have r0:=bC H3.v3 0;have r1:=bC H3.v3 1;have r2:=bC H3.v3 2;have r3:=bC H3.v3 3;have r4:=bC H3.v3 4;have r5:=bC H3.v3 5;have r6:=bC H3.v3 6;have f0:=bF H3.v3 0;have f1:=bF H3.v3 1;have f2:=bF H3.v3 2;have f3:=bF H3.v3 3;have f4:=bF H3.v3 4;have f5:=bF H3.v3 5;have f6:=bF H3.v3 6;clear ti hb H3))
     all_goals
      have HSF:=aM (show ∀nm∈[⟨#[115,101,108,102]⟩],NameT nm/\nm.size<=2000 from fun nm hm=>by rw[List.mem_singleton.1 hm];exact⟨self_name,by decide⟩)
      go_wp2
      go_meet
      case rel=>first|(refine⟨[⟨#[115,101,108,102]⟩],w9.heap.size,1,a4,c4,rfl,by omega,q2,by simp,HSF,?_⟩;first|with_reducible exact HM9a|with_reducible exact⟨HM9b.out.late (by simp) (by omega) _⟩)|(refine⟨[⟨#[115,101,108,102]⟩],w8.heap.size,1,a4,c4,rfl,by omega,q2,by simp,HSF,?_⟩;with_reducible exact HM9c)|(refine⟨[⟨#[115,101,108,102]⟩],w5.heap.size,1,a4,c4,rfl,by omega,q2,by simp,HSF,?_⟩;with_reducible exact HM9d)
   clear HM p1 p2;obtain⟨ns,q,cp,a2,c2,rfl,g1,g2,hl,HNM,HM⟩:=hcut;obtain⟨x,An,cn,Ak,ck,ox,gx,ho,tx⟩:=HM.out.x;have OX:=aM ox;have GX:=aM gx;have HO:=aM ho;have TX0:=aM tx.drew;clear ox gx ho tx;obtain⟨y0,y1,y2,y3,y4,y5,y6⟩:=bC7 HO.out.v3;have H0:=aM HO.out.drew;have NN0:=aM HM.out.n.drew;have HF:=aM (HBD.out a2 (by omega) g2 wz wc.drew c2 (some ⟨q,0,none⟩) cp ns HM.out.z.drew HBZ.out HPZ.out (by rw[HSZ.out];exact NN0.out) HNM.out hl);clear HM;have hown:(Value.slice (some ⟨q,0,none⟩) ns.length cp).ownBlock=some q:=rfl;rw[hown] at HF;go_upto_region 6 with fail
   go_region_law (go_simp;go_at_call 126;refine HF.out.mono ?_;rintro e w8 ⟨z,Zn,zn,Zk,zk,a4,c4,rfl,tz,oz,k26,mz,hp,hk⟩;have H2:=aM (H0.out.p.over hk hp (fun k e=>by injection e with e;have:=Kd.R_base NN0.out q rfl;have:=HN0.out;omega));have U2:=aM (H0.out.v2.over H0.out.p.s hk NN0.out);have U3:=aM (H0.out.v3.over H0.out.p.s hk NN0.out);have TX2:=aM ((TX0.out.over (A:=⟨0,0,none⟩) H0.out.p.s hk).lower (b':=n0+1) (by omega));have r0:=bC U3.out 0;have r1:=bC U3.out 1;have r2:=bC U3.out 2;have r3:=bC U3.out 3;have r4:=bC U3.out 4;have r5:=bC U3.out 5;have r6:=bC U3.out 6;have OZ:=aM oz;have MZ:=aM mz;have H3:=aM (H2.out.alloc (.cells #[.int .i64 x.k,.string x.s,.float .f64 x.x,.int .i64 x.n,.bool x.b,(.slice An x.names.length cn),(.slice Ak x.kids.length ck),.int .i64 z.k,.string z.s,.float .f64 z.x,.int .i64 z.n,.bool z.b,(.slice Zn z.names.length zn),(.slice Zk z.kids.length zk)] 27));have U4:=aM (U2.out.alloc (.cells #[.int .i64 x.k,.string x.s,.float .f64 x.x,.int .i64 x.n,.bool x.b,(.slice An x.names.length cn),(.slice Ak x.kids.length ck),.int .i64 z.k,.string z.s,.float .f64 z.x,.int .i64 z.n,.bool z.b,(.slice Zn z.names.length zn),(.slice Zk z.kids.length zk)] 27));have KY:=aM (KR.lit2 TX2.out (tz.lower (b':=n0+1) (by rw[HSZ.out];omega)) (by have:=blk_lt U2.out;omega));have rr0:=bC U4.out 0;have rr1:=bC U4.out 1;have rr2:=bC U4.out 2;have rr3:=bC U4.out 3;have rr4:=bC U4.out 4;have rr5:=bC U4.out 5;have rr6:=bC U4.out 6;have fr0:=bF U4.out 0;have fr1:=bF U4.out 1;have fr2:=bF U4.out 2;have fr3:=bF U4.out 3;have fr4:=bF U4.out 4;have fr5:=bF U4.out 5;have fr6:=bF U4.out 6;clear hp hk oz mz tz k26)
   all_goals
    go_wp2
    have HF:=aM (Tr.res (x:=⟨3,⟨#[]⟩,0,1,false,[],[x,z]⟩) H3.out U4.out rfl (Tr.mk (NR.nil _ _) KY.out) HE.out HP.out HB0.out HN0.out (by omega));generalize ((((((((w8.alloc (.cells #[.int .i64 x.k,.string x.s,.float .f64 x.x,.int .i64 x.n,.bool x.b,(.slice An x.names.length cn),(.slice Ak x.kids.length ck),.int .i64 z.k,.string z.s,.float .f64 z.x,.int .i64 z.n,.bool z.b,(.slice Zn z.names.length zn),(.slice Zk z.kids.length zk)] 27)).setCell ⟨n0,0,none⟩ (.int .i64 3)).setCell ⟨n0,1,none⟩ (.string ⟨#[]⟩)).setCell ⟨n0,2,none⟩ (.float .f64 0)).setCell ⟨n0,3,none⟩ (.int .i64 1)).setCell ⟨n0,4,none⟩ (.bool false)).setCell ⟨n0,5,none⟩ (.slice none 0 0)).setCell ⟨n0,6,none⟩ (.slice (some ⟨w8.heap.size,0,none⟩) 2 2))=WF at HF|-;obtain⟨qq0,qq1,qq2,qq3,qq4,qq5,qq6⟩:=bC7 HF.out.2.2;refine bodyPost_ret (v:= .agg #[.int .i64 3,.string ⟨#[]⟩,.float .f64 0,.int .i64 1,.bool false,.slice none 0 0,.slice (some ⟨w8.heap.size,0,none⟩) 2 2]) (by simp[results,Tryz.results98,go_sem,qq0,qq1,qq2,qq3,qq4,qq5,qq6]) rfl ?_;refine⟨⟨3,⟨#[]⟩,0,1,false,[],[x,z]⟩,none,0,_,2,a4,c4,rfl,HF.out.2.1,.asg 1 rfl (fun _=>Tx.bare (by decide)) (fun y hy=> ?_) rfl (by simp),trivial,⟨by have:=MZ.out.le;omega,MZ.out.lt,fun _ h=>by have:=PR.out h;have:=MZ.out.le;omega,fun h0=>⟨(GX.out (MZ.out.good h0).1).1,by have:=(GX.out (MZ.out.good h0).1).2;have:=(MZ.out.good h0).2;have:=MZ.out.le;simp[wt_mk,wts];omega⟩⟩,HF.out.1⟩;rcases List.mem_cons.1 hy with rfl|hy
    ·exact OX.out.mono (fun h0=>(MZ.out.good h0).1)
    ·rw[List.mem_singleton.1 hy]
     exact OZ.out
end
section
variable {E:Env} {a:Nat}
set_option maxRecDepth 10000 in
set_option maxHeartbeats 3000000 in
theorem statement_any(hE:E.Fine)(IH:∀b,a<b->b<E.n->All E b)(ha:a<E.n)(hPl:NC E 100 #[.pointer (some ⟨E.g,0,none⟩)] a .s 0 0 (fun _=>True)):NC E 58 #[.pointer (some ⟨E.g,0,none⟩)] a .s 0 0 (fun _=>True):=by
 intro w c h hB;have HE:=aM hE;have HIH:=aM IH;have HPL:=aM hPl;have hpos:=hE.pos;have hlen:=hE.len;have HP:=aM h;have HB0:=aM hB.size;obtain⟨n0,hn0⟩:∃n0,w.heap.size=n0:=⟨_,rfl⟩;have HN0:=aM hn0;have H:=aM ((Pt.start h hB).alloc (.cells #[.int .i64 0,.string ⟨#[]⟩,.float .f64 0,.int .i64 0,.bool false,.slice none 0 0,.slice none 0 0] 27));have HV2:=aM (show Vb (w.alloc (.cells #[.int .i64 0,.string ⟨#[]⟩,.float .f64 0,.int .i64 0,.bool false,.slice none 0 0,.slice none 0 0] 27)) n0 #[.int .i64 0,.string ⟨#[]⟩,.float .f64 0,.int .i64 0,.bool false,.slice none 0 0,.slice none 0 0] by have:=Vb.new w #[.int .i64 0,.string ⟨#[]⟩,.float .f64 0,.int .i64 0,.bool false,.slice none 0 0,.slice none 0 0];rwa[hn0] at this);clear hE IH h hB hPl;go_enter Tryz.func58,Tryz.ntmps58
 go_wp2_with fail;generalize w.alloc _=wz at H HV2|-;clear hn0;refine(hasWord_any HE.out H.out.s H.out.B ha _).mono ?_;rintro e w1 ⟨b1,a1,rfl,_,p1,p2,hp⟩;replace HV2:=aM (HV2.out.keep H.out.s hp);replace H:=aM (H.out.step hp);clear hp;have HSZ:=aM (blk_lt HV2.out)
 cases b1 with
 |true=>
  obtain⟨rfl,hlt⟩:=p1 rfl;clear p1 p2;go_wp2_with fail;refine((HIH.out (a+1) (by omega) hlt).block _ _ H.out.s H.out.B).mono ?_;rintro e w3 ⟨x,An,cn,Ak,ck,a2,c2,rfl,tx,ox,_,mx,hp⟩;replace HV2:=aM (HV2.out.keep H.out.s hp);replace H:=aM (H.out.step hp);have KX:=aM (KR.lit1 (tx.lower (b':=n0+1) HSZ.out) (blk_lt HV2.out));have OX:=aM ox;have MX:=aM mx;have hA:=mx.lt;clear tx ox mx hp;replace HV2:=aM (HV2.out.alloc (.cells #[.int .i64 x.k,.string x.s,.float .f64 x.x,.int .i64 x.n,.bool x.b,(.slice An x.names.length cn),(.slice Ak x.kids.length ck)] 27));replace H:=aM (H.out.alloc (.cells #[.int .i64 x.k,.string x.s,.float .f64 x.x,.int .i64 x.n,.bool x.b,(.slice An x.names.length cn),(.slice Ak x.kids.length ck)] 27));have HV3:=aM (Vb.new (w3.alloc (.cells #[.int .i64 x.k,.string x.s,.float .f64 x.x,.int .i64 x.n,.bool x.b,(.slice An x.names.length cn),(.slice Ak x.kids.length ck)] 27)) #[.int .i64 5,.string ⟨#[]⟩,.float .f64 0,.int .i64 0,.bool false,.slice none 0 0,.slice (some ⟨w3.heap.size,0,none⟩) 1 1]);have e3:(w3.alloc (.cells #[.int .i64 x.k,.string x.s,.float .f64 x.x,.int .i64 x.n,.bool x.b,(.slice An x.names.length cn),(.slice Ak x.kids.length ck)] 27)).heap.size=w3.heap.size+1:=by simp
  rw[e3] at HV3;replace HV2:=aM (HV2.out.alloc (.cells #[.int .i64 5,.string ⟨#[]⟩,.float .f64 0,.int .i64 0,.bool false,.slice none 0 0,.slice (some ⟨w3.heap.size,0,none⟩) 1 1] 27));replace KX:=aM (KX.out.alloc (.cells #[.int .i64 5,.string ⟨#[]⟩,.float .f64 0,.int .i64 0,.bool false,.slice none 0 0,.slice (some ⟨w3.heap.size,0,none⟩) 1 1] 27));replace H:=aM (H.out.alloc (.cells #[.int .i64 5,.string ⟨#[]⟩,.float .f64 0,.int .i64 0,.bool false,.slice none 0 0,.slice (some ⟨w3.heap.size,0,none⟩) 1 1] 27));go_wp2_with fail;refine(word_any HE.out H.out.s H.out.B hA _).mono ?_;rintro e w4 ⟨a3,c3,rfl,q1,q2,q3,q4,hp⟩;replace HV2:=aM (HV2.out.keep H.out.s hp);replace HV3:=aM (HV3.out.keep H.out.s hp);replace KX:=aM (KX.out.keep H.out.s hp);replace H:=aM (H.out.step hp);have Q4:=aM q4;clear hp q4;obtain⟨y0,y1,y2,y3,y4,y5,y6⟩:=bC7 HV3.out;obtain⟨z0,z1,z2,z3,z4,z5,z6⟩:=bC7 HV2.out;obtain⟨fz0,fz1,fz2,fz3,fz4,fz5,fz6⟩:=bF7 HV2.out;go_wp2_with fail;have HF:=aM (Tr.res (x:=⟨5,⟨#[]⟩,0,0,false,[],[x]⟩) H.out HV2.out rfl (Tr.mk (NR.nil _ _) KX.out) HE.out HP.out HB0.out HN0.out (by omega));generalize (((((((w4.setCell ⟨n0,0,none⟩ (.int .i64 5)).setCell ⟨n0,1,none⟩ (.string ⟨#[]⟩)).setCell ⟨n0,2,none⟩ (.float .f64 0)).setCell ⟨n0,3,none⟩ (.int .i64 0)).setCell ⟨n0,4,none⟩ (.bool false)).setCell ⟨n0,5,none⟩ (.slice none 0 0)).setCell ⟨n0,6,none⟩ (.slice (some ⟨w3.heap.size,0,none⟩) 1 1))=WF at HF|-;obtain⟨qq0,qq1,qq2,qq3,qq4,qq5,qq6⟩:=bC7 HF.out.2.2;refine bodyPost_ret (v:= .agg #[.int .i64 5,.string ⟨#[]⟩,.float .f64 0,.int .i64 0,.bool false,.slice none 0 0,.slice (some ⟨w3.heap.size,0,none⟩) 1 1]) (by simp[results,Tryz.results58,go_sem,qq0,qq1,qq2,qq3,qq4,qq5,qq6]) rfl ?_;exact⟨⟨5,⟨#[]⟩,0,0,false,[],[x]⟩,none,0,_,1,a3,c3,rfl,HF.out.2.1,.doo rfl (fun _=>Tx.bare (by decide)) rfl (OX.out.mono (fun h0=>(Q4.out h0).1)),trivial,⟨by have:=MX.out.le;omega,q2,fun _ _=>by have:=MX.out.le;omega,fun h0=>⟨(MX.out.good (Q4.out h0).1).1,by have:=(MX.out.good (Q4.out h0).1).2;have:=(Q4.out h0).2.1;have:=MX.out.le;simp[wt_mk,wts];omega⟩⟩,HF.out.1⟩
 |false=>
  obtain rfl:=(p2 rfl).symm;clear p1 p2 HSZ;go_wp2_with fail;refine(hasWord_any HE.out H.out.s H.out.B ha _).mono ?_;rintro e w1 ⟨b1,a1,rfl,_,p1,p2,hp⟩;replace HV2:=aM (HV2.out.keep H.out.s hp);replace H:=aM (H.out.step hp);clear hp;have HSZ:=aM (blk_lt HV2.out)
  cases b1 with
  |true=>
   obtain⟨rfl,hlt⟩:=p1 rfl;clear p1 p2;go_wp2_with fail;refine((HIH.out (a+1) (by omega) hlt).expression 0 (by decide) _ _ H.out.s H.out.B).mono ?_;rintro e w3 ⟨x,An,cn,Ak,ck,a2,c2,rfl,tx,ox,_,mx,hp⟩;replace HV2:=aM (HV2.out.keep H.out.s hp);replace H:=aM (H.out.step hp);have TX:=aM ((tx.lower (b':=n0+1) HSZ.out).alloc (.cells #[.int .i64 x.k,.string x.s,.float .f64 x.x,.int .i64 x.n,.bool x.b,(.slice An x.names.length cn),(.slice Ak x.kids.length ck)] 27));have OX:=aM ox;have MX:=aM mx;have hA:=mx.lt;obtain⟨n3,hn3⟩:∃n,w3.heap.size=n:=⟨_,rfl⟩;have HN3:=aM (show n0<n3 by rw[<-hn3];exact blk_lt HV2.out);have HV3:=aM (show Vb (w3.alloc (.cells #[.int .i64 x.k,.string x.s,.float .f64 x.x,.int .i64 x.n,.bool x.b,(.slice An x.names.length cn),(.slice Ak x.kids.length ck)] 27)) n3 #[.int .i64 x.k,.string x.s,.float .f64 x.x,.int .i64 x.n,.bool x.b,(.slice An x.names.length cn),(.slice Ak x.kids.length ck)] by have:=Vb.new w3 #[.int .i64 x.k,.string x.s,.float .f64 x.x,.int .i64 x.n,.bool x.b,(.slice An x.names.length cn),(.slice Ak x.kids.length ck)];rwa[hn3] at this);replace HV2:=aM (HV2.out.alloc (.cells #[.int .i64 x.k,.string x.s,.float .f64 x.x,.int .i64 x.n,.bool x.b,(.slice An x.names.length cn),(.slice Ak x.kids.length ck)] 27));replace H:=aM (H.out.alloc (.cells #[.int .i64 x.k,.string x.s,.float .f64 x.x,.int .i64 x.n,.bool x.b,(.slice An x.names.length cn),(.slice Ak x.kids.length ck)] 27));clear tx ox mx hp;go_wp2_with fail;generalize w3.alloc _=w4 at H HV2 HV3 TX|-;clear hn3;refine(word_any HE.out H.out.s H.out.B hA _).mono ?_;rintro e w5 ⟨a3,c3,rfl,q1,hA,q3,q4,hp⟩;replace HV2:=aM (HV2.out.keep H.out.s hp);replace HV3:=aM (HV3.out.keep H.out.s hp);replace TX:=aM (TX.out.keep H.out.s hp);replace H:=aM (H.out.step hp);have hle:=MX.out.le;have G:=aM (show c3=0->c=0/\x.wt+4<=3*(a3-a) from fun h0=>⟨(MX.out.good (q4 h0).1).1,by have:=(MX.out.good (q4 h0).1).2;have:=(q4 h0).2.1;omega⟩);replace OX:=aM (OX.out.mono (fun h0:c3=0=>(q4 h0).1));clear hp q4 MX;obtain⟨y0,y1,y2,y3,y4,y5,y6⟩:=bC7 HV3.out;have HV3z:=aM (HV3.out.alloc (.cells #[.int .i64 0,.string ⟨#[]⟩,.float .f64 0,.int .i64 0,.bool false,.slice none 0 0,.slice none 0 0] 27));obtain⟨ya0,ya1,ya2,ya3,ya4,ya5,ya6⟩:=bC7 HV3z.out;replace H:=aM H.out.drew;replace HV2:=aM HV2.out.drew;replace HV3:=aM HV3.out.drew;replace TX:=aM TX.out.drew;have HN:=aM ((HIH.out a3 (by omega) hA).loop);replace HSZ:=aM (blk_lt HV3.out);go_upto_region 8 with fail;have HZ:=aM (H.out.alloc (.cells #[.int .i64 0,.string ⟨#[]⟩,.float .f64 0,.int .i64 0,.bool false,.slice none 0 0,.slice none 0 0] 27));have hnc:c3=0->c3=0:=fun h=>h
   go_cut [5] from 24 to 28 (fun v wc=>∃(n5:Nat) (z:Nd) (A:Option Addr) (cp a4:Nat) (c4:Int),v = .pointer (some ⟨n5,0,none⟩)/\n0<n5/\Aside0 (Ok (c4=0) .b z)/\Aside0 (Mv E a3 c3 a4 c4 (z.wt+0) 1)/\Aside0 (On E w wc n0 n5 a4 c4 6 0 [x,z] (.slice A 2 cp)))
   case first=>
    go_region_law (first|(go_simp;go_at_call 95;refine(HN.out _ _ H.out.s H.out.B).mono ?_;rintro e w8 ⟨z,Zn,zn,Zk,zk,a4,c4,rfl,tz,oz,_,mz,hp⟩;have U2:=HV2.out.keep H.out.s hp;have U3:=aM (HV3.out.keep H.out.s hp);have HWA:=aM (On.laid (H.out.step hp) U2 (TX.out.keep H.out.s hp) tz (by have:=HSZ.out;have:=HN3.out;omega) 6);have HWB:=aM (On.laid2 (H.out.step hp) U2 (TX.out.keep H.out.s hp) tz (by have:=HSZ.out;have:=HN3.out;omega) 6);have L8:=blk_lt U2;have OZ:=aM oz;have MZ:=aM mz;clear oz mz tz U2;have r0:=bC U3.out 0;have r1:=bC U3.out 1;have r2:=bC U3.out 2;have r3:=bC U3.out 3;have r4:=bC U3.out 4;have r5:=bC U3.out 5;have r6:=bC U3.out 6;have U3z:=aM (U3.out.alloc (.cells #[.int .i64 0,.string ⟨#[]⟩,.float .f64 0,.int .i64 0,.bool false,.slice none 0 0,.slice none 0 0] 27));have rz0:=bC U3z.out 0;have rz1:=bC U3z.out 1;have rz2:=bC U3z.out 2;have rz3:=bC U3z.out 3;have rz4:=bC U3z.out 4;have rz5:=bC U3z.out 5;have rz6:=bC U3z.out 6;clear hp)|(go_simp;go_at_call 95;refine(HN.out _ _ HZ.out.s HZ.out.B).mono ?_;rintro e w8 ⟨z,Zn,zn,Zk,zk,a4,c4,rfl,tz,oz,_,mz,hp⟩;have U2:=(HV2.out.alloc (.cells #[.int .i64 0,.string ⟨#[]⟩,.float .f64 0,.int .i64 0,.bool false,.slice none 0 0,.slice none 0 0] 27)).keep HZ.out.s hp;have U3:=aM ((HV3.out.alloc (.cells #[.int .i64 0,.string ⟨#[]⟩,.float .f64 0,.int .i64 0,.bool false,.slice none 0 0,.slice none 0 0] 27)).keep HZ.out.s hp);have r0:=bC U3.out 0;have r1:=bC U3.out 1;have r2:=bC U3.out 2;have r3:=bC U3.out 3;have r4:=bC U3.out 4;have r5:=bC U3.out 5;have r6:=bC U3.out 6;have L5:n0<w5.heap.size:=(by have h1:n3<w5.heap.size:=HSZ.out;have:=HN3.out;omega);have V5a:=(Vb.new w5.drew #[.int .i64 0,.string ⟨#[]⟩,.float .f64 0,.int .i64 0,.bool false,.slice none 0 0,.slice none 0 0]).keep HZ.out.s hp;have HWC:=aM (On.laid3 (q:=w5.heap.size) (HZ.out.step hp) U2 V5a (((TX.out.n_new (q:=w5.heap.size) (Nat.le_refl _)).alloc (.cells #[.int .i64 0,.string ⟨#[]⟩,.float .f64 0,.int .i64 0,.bool false,.slice none 0 0,.slice none 0 0] 27)).keep HZ.out.s hp) tz (by simp) L5 HE.out HP.out HB0.out (by have:=HN0.out;omega) 6);have OZ:=aM oz;have MZ:=aM mz;clear oz mz tz U2;have V5:=aM (V5a.alloc (.cells #[.int .i64 x.k,.string x.s,.float .f64 x.x,.int .i64 x.n,.bool x.b,(.slice An x.names.length cn),(.slice Ak x.kids.length ck),.int .i64 z.k,.string z.s,.float .f64 z.x,.int .i64 z.n,.bool z.b,(.slice Zn z.names.length zn),(.slice Zk z.kids.length zk)] 27));have hsz5:w5.drew.heap.size=w5.heap.size:=rfl;rw[hsz5] at V5;have rr0:=bC V5.out 0;have rr1:=bC V5.out 1;have rr2:=bC V5.out 2;have rr3:=bC V5.out 3;have rr4:=bC V5.out 4;have rr5:=bC V5.out 5;have rr6:=bC V5.out 6;have fr0:=bF V5.out 0;have fr1:=bF V5.out 1;have fr2:=bF V5.out 2;have fr3:=bF V5.out 3;have fr4:=bF V5.out 4;have fr5:=bF V5.out 5;have fr6:=bF V5.out 6;clear hp V5a))
    all_goals
     go_wp2
     go_meet
     case rel=>first|exact⟨_,z,_,_,a4,c4,rfl,by omega,OZ,MZ,HWA⟩|exact⟨_,z,_,_,a4,c4,rfl,by omega,OZ,MZ,HWB⟩|exact⟨_,z,_,_,a4,c4,rfl,L5,OZ,MZ,HWC⟩
   clear H HZ HN HV2 HV3 HV3z TX y0 y1 y2 y3 y4 y5 y6 ya0 ya1 ya2 ya3 ya4 ya5 ya6;obtain⟨n5,z,A,cp,a4,c4,rfl,hn5,OZ,MZ,H⟩:=hcut;have hA4:=MZ.out.lt;go_wp2_with fail;refine(word_any HE.out H.out.p.s H.out.p.B hA4 _).mono ?_;rintro e w9 ⟨a5,c5,rfl,r1,r2,r3,r4,hp⟩;replace H:=aM (H.out.step hp);have R4:=aM r4;clear hp r3 r4;obtain⟨y0,y1,y2,y3,y4,y5,y6⟩:=bC7 H.out.v3;obtain⟨z0,z1,z2,z3,z4,z5,z6⟩:=bC7 H.out.v2;obtain⟨fz0,fz1,fz2,fz3,fz4,fz5,fz6⟩:=bF7 H.out.v2;go_wp2_with fail;have HF:=aM (H.out.fin HE.out HP.out HB0.out HN0.out);generalize (((((((w9.setCell ⟨n0,0,none⟩ (.int .i64 6)).setCell ⟨n0,1,none⟩ (.string ⟨#[]⟩)).setCell ⟨n0,2,none⟩ (.float .f64 0)).setCell ⟨n0,3,none⟩ (.int .i64 0)).setCell ⟨n0,4,none⟩ (.bool false)).setCell ⟨n0,5,none⟩ (.slice none 0 0)).setCell ⟨n0,6,none⟩ (.slice A 2 cp))=WF at HF|-;obtain⟨qq0,qq1,qq2,qq3,qq4,qq5,qq6⟩:=bC7 HF.out.2.2;refine bodyPost_ret (v:= .agg #[.int .i64 6,.string ⟨#[]⟩,.float .f64 0,.int .i64 0,.bool false,.slice none 0 0,.slice A 2 cp]) (by simp[results,Tryz.results58,go_sem,qq0,qq1,qq2,qq3,qq4,qq5,qq6]) rfl ?_;exact⟨⟨6,⟨#[]⟩,0,0,false,[],[x,z]⟩,none,0,A,cp,a5,c5,rfl,HF.out.2.1,.whil rfl (fun _=>Tx.bare (by decide)) rfl (OX.out.mono (fun h0=>(MZ.out.good (R4.out h0).1).1)) (OZ.out.mono (fun h0=>(R4.out h0).1)),trivial,⟨by have:=MZ.out.le;omega,r2,fun _ _=>by have:=MZ.out.le;omega,fun h0=>⟨(G.out (MZ.out.good (R4.out h0).1).1).1,by have:=(G.out (MZ.out.good (R4.out h0).1).1).2;have:=(MZ.out.good (R4.out h0).1).2;have:=MZ.out.le;have:=(R4.out h0).2.1;simp[wt_mk,wts];omega⟩⟩,HF.out.1⟩
  |false=>
   obtain rfl:=(p2 rfl).symm;clear p1 p2 HSZ;go_wp2_with fail;refine(hasWord_any HE.out H.out.s H.out.B ha _).mono ?_;rintro e w1 ⟨b1,a1,rfl,_,p1,p2,hp⟩;replace HV2:=aM (HV2.out.keep H.out.s hp);replace H:=aM (H.out.step hp);clear hp;have HSZ:=aM (blk_lt HV2.out)
   cases b1 with
   |true=>
    obtain⟨rfl,hlt⟩:=p1 rfl;clear p1 p2;go_wp2_with fail;refine((HIH.out (a+1) (by omega) hlt).loop _ _ H.out.s H.out.B).mono ?_;rintro e w3 ⟨x,An,cn,Ak,ck,a2,c2,rfl,tx,ox,_,mx,hp⟩;replace HV2:=aM (HV2.out.keep H.out.s hp);replace H:=aM (H.out.step hp);have TX:=aM ((tx.lower (b':=n0+1) HSZ.out).alloc (.cells #[.int .i64 x.k,.string x.s,.float .f64 x.x,.int .i64 x.n,.bool x.b,(.slice An x.names.length cn),(.slice Ak x.kids.length ck)] 27));have OX:=aM ox;have MX:=aM mx;have hA:=mx.lt;obtain⟨n3,hn3⟩:∃n,w3.heap.size=n:=⟨_,rfl⟩;have HN3:=aM (show n0<n3 by rw[<-hn3];exact blk_lt HV2.out);have HV3:=aM (show Vb (w3.alloc (.cells #[.int .i64 x.k,.string x.s,.float .f64 x.x,.int .i64 x.n,.bool x.b,(.slice An x.names.length cn),(.slice Ak x.kids.length ck)] 27)) n3 #[.int .i64 x.k,.string x.s,.float .f64 x.x,.int .i64 x.n,.bool x.b,(.slice An x.names.length cn),(.slice Ak x.kids.length ck)] by have:=Vb.new w3 #[.int .i64 x.k,.string x.s,.float .f64 x.x,.int .i64 x.n,.bool x.b,(.slice An x.names.length cn),(.slice Ak x.kids.length ck)];rwa[hn3] at this);replace HV2:=aM (HV2.out.alloc (.cells #[.int .i64 x.k,.string x.s,.float .f64 x.x,.int .i64 x.n,.bool x.b,(.slice An x.names.length cn),(.slice Ak x.kids.length ck)] 27));replace H:=aM (H.out.alloc (.cells #[.int .i64 x.k,.string x.s,.float .f64 x.x,.int .i64 x.n,.bool x.b,(.slice An x.names.length cn),(.slice Ak x.kids.length ck)] 27));clear tx ox mx hp;go_wp2_with fail;generalize w3.alloc _=w4 at H HV2 HV3 TX|-;clear hn3;refine(word_any HE.out H.out.s H.out.B hA _).mono ?_;rintro e w5 ⟨a3,c3,rfl,q1,hA,q3,q4,hp⟩;replace HV2:=aM (HV2.out.keep H.out.s hp);replace HV3:=aM (HV3.out.keep H.out.s hp);replace TX:=aM (TX.out.keep H.out.s hp);replace H:=aM (H.out.step hp);have hle:=MX.out.le;have G:=aM (show c3=0->c=0/\x.wt+2<=3*(a3-a) from fun h0=>⟨(MX.out.good (q4 h0).1).1,by have:=(MX.out.good (q4 h0).1).2;have:=(q4 h0).2.1;omega⟩);replace OX:=aM (OX.out.mono (fun h0:c3=0=>(q4 h0).1));clear hp q4 MX;obtain⟨y0,y1,y2,y3,y4,y5,y6⟩:=bC7 HV3.out;replace H:=aM H.out.drew;replace HV2:=aM HV2.out.drew;replace HV3:=aM HV3.out.drew;replace TX:=aM TX.out.drew;have HN:=aM ((HIH.out a3 (by omega) hA).expression 0 (by decide) _ _ H.out.s H.out.B);replace HSZ:=aM (blk_lt HV3.out);go_upto_region 14 with fail
    go_region_law (go_simp;go_at_call 94;refine HN.out.mono ?_;rintro e w8 ⟨z,Zn,zn,Zk,zk,a4,c4,rfl,tz,oz,_,mz,hp⟩;have H2:=aM (H.out.step hp);have U2:=aM (HV2.out.keep H.out.s hp);have U3:=aM (HV3.out.keep H.out.s hp);have TX2:=aM (TX.out.keep H.out.s hp);have r0:=bC U3.out 0;have r1:=bC U3.out 1;have r2:=bC U3.out 2;have r3:=bC U3.out 3;have r4:=bC U3.out 4;have r5:=bC U3.out 5;have r6:=bC U3.out 6;have OZ:=aM oz;have MZ:=aM mz;have H3:=aM (H2.out.alloc (.cells #[.int .i64 x.k,.string x.s,.float .f64 x.x,.int .i64 x.n,.bool x.b,(.slice An x.names.length cn),(.slice Ak x.kids.length ck),.int .i64 z.k,.string z.s,.float .f64 z.x,.int .i64 z.n,.bool z.b,(.slice Zn z.names.length zn),(.slice Zk z.kids.length zk)] 27));have U4:=aM (U2.out.alloc (.cells #[.int .i64 x.k,.string x.s,.float .f64 x.x,.int .i64 x.n,.bool x.b,(.slice An x.names.length cn),(.slice Ak x.kids.length ck),.int .i64 z.k,.string z.s,.float .f64 z.x,.int .i64 z.n,.bool z.b,(.slice Zn z.names.length zn),(.slice Zk z.kids.length zk)] 27));have KY:=aM (KR.lit2 TX2.out (tz.lower (b':=n0+1) (by have:=HSZ.out;have:=HN3.out;omega)) (by have:=blk_lt U2.out;omega));have rr0:=bC U4.out 0;have rr1:=bC U4.out 1;have rr2:=bC U4.out 2;have rr3:=bC U4.out 3;have rr4:=bC U4.out 4;have rr5:=bC U4.out 5;have rr6:=bC U4.out 6;have fr0:=bF U4.out 0;have fr1:=bF U4.out 1;have fr2:=bF U4.out 2;have fr3:=bF U4.out 3;have fr4:=bF U4.out 4;have fr5:=bF U4.out 5;have fr6:=bF U4.out 6;clear hp oz mz tz)
    all_goals
     go_wp2
     have HF:=aM (Tr.res (x:=⟨7,⟨#[]⟩,0,0,false,[],[x,z]⟩) H3.out U4.out rfl (Tr.mk (NR.nil _ _) KY.out) HE.out HP.out HB0.out HN0.out (by omega));generalize ((((((((w8.alloc (.cells #[.int .i64 x.k,.string x.s,.float .f64 x.x,.int .i64 x.n,.bool x.b,(.slice An x.names.length cn),(.slice Ak x.kids.length ck),.int .i64 z.k,.string z.s,.float .f64 z.x,.int .i64 z.n,.bool z.b,(.slice Zn z.names.length zn),(.slice Zk z.kids.length zk)] 27)).setCell ⟨n0,0,none⟩ (.int .i64 7)).setCell ⟨n0,1,none⟩ (.string ⟨#[]⟩)).setCell ⟨n0,2,none⟩ (.float .f64 0)).setCell ⟨n0,3,none⟩ (.int .i64 0)).setCell ⟨n0,4,none⟩ (.bool false)).setCell ⟨n0,5,none⟩ (.slice none 0 0)).setCell ⟨n0,6,none⟩ (.slice (some ⟨w8.heap.size,0,none⟩) 2 2))=WF at HF|-;obtain⟨qq0,qq1,qq2,qq3,qq4,qq5,qq6⟩:=bC7 HF.out.2.2;refine bodyPost_ret (v:= .agg #[.int .i64 7,.string ⟨#[]⟩,.float .f64 0,.int .i64 0,.bool false,.slice none 0 0,.slice (some ⟨w8.heap.size,0,none⟩) 2 2]) (by simp[results,Tryz.results58,go_sem,qq0,qq1,qq2,qq3,qq4,qq5,qq6]) rfl ?_;exact⟨⟨7,⟨#[]⟩,0,0,false,[],[x,z]⟩,none,0,_,2,a4,c4,rfl,HF.out.2.1,.rep rfl (fun _=>Tx.bare (by decide)) rfl (OX.out.mono (fun h0=>(MZ.out.good h0).1)) OZ.out,trivial,⟨by have:=MZ.out.le;omega,MZ.out.lt,fun _ _=>by have:=MZ.out.le;omega,fun h0=>⟨(G.out (MZ.out.good h0).1).1,by have:=(G.out (MZ.out.good h0).1).2;have:=(MZ.out.good h0).2;have:=MZ.out.le;simp[wt_mk,wts];omega⟩⟩,HF.out.1⟩
   |false=>
    obtain rfl:=(p2 rfl).symm;clear p1 p2 HSZ;go_wp2_with fail;refine(hasWord_any HE.out H.out.s H.out.B ha _).mono ?_;rintro e w1 ⟨b1,a1,rfl,_,p1,p2,hp⟩;replace HV2:=aM (HV2.out.keep H.out.s hp);replace H:=aM (H.out.step hp);clear hp;have HSZ:=aM (blk_lt HV2.out)
    cases b1 with
    |true=>
     obtain⟨rfl,hlt⟩:=p1 rfl;clear p1 p2;go_wp2_with fail;refine((HIH.out (a+1) (by omega) hlt).branch _ _ H.out.s H.out.B).mono ?_;rintro e w3 ⟨x,An,cn,Ak,ck,a2,c2,rfl,tx,ox,_,mx,hp⟩;replace HV2:=aM (HV2.out.keep H.out.s hp);replace H:=aM (H.out.step hp);have TX:=aM (tx.lower (b':=n0+1) HSZ.out);have OX:=aM ox;have MX:=aM mx;clear tx ox mx hp;obtain⟨z0,z1,z2,z3,z4,z5,z6⟩:=bC7 HV2.out;obtain⟨fz0,fz1,fz2,fz3,fz4,fz5,fz6⟩:=bF7 HV2.out;go_wp2_with fail;have HF:=aM (Tr.res H.out HV2.out rfl TX.out HE.out HP.out HB0.out HN0.out (by omega));generalize (((((((w3.setCell ⟨n0,0,none⟩ (.int .i64 x.k)).setCell ⟨n0,1,none⟩ (.string x.s)).setCell ⟨n0,2,none⟩ (.float .f64 x.x)).setCell ⟨n0,3,none⟩ (.int .i64 x.n)).setCell ⟨n0,4,none⟩ (.bool x.b)).setCell ⟨n0,5,none⟩ (.slice An x.names.length cn)).setCell ⟨n0,6,none⟩ (.slice Ak x.kids.length ck))=WF at HF|-;obtain⟨qq0,qq1,qq2,qq3,qq4,qq5,qq6⟩:=bC7 HF.out.2.2;refine bodyPost_ret (v:= .agg #[.int .i64 x.k,.string x.s,.float .f64 x.x,.int .i64 x.n,.bool x.b,.slice An x.names.length cn,.slice Ak x.kids.length ck]) (by simp[results,Tryz.results58,go_sem,qq0,qq1,qq2,qq3,qq4,qq5,qq6]) rfl ?_;exact⟨x,An,cn,Ak,ck,a2,c2,rfl,HF.out.2.1,OX.out,trivial,⟨by have:=MX.out.le;omega,MX.out.lt,(fun _ _=>by have:=MX.out.le;omega),fun h0=>⟨(MX.out.good h0).1,by have:=(MX.out.good h0).2;omega⟩⟩,HF.out.1⟩
    |false=>
     obtain rfl:=(p2 rfl).symm;clear p1 p2 HSZ;go_wp2_with fail;refine(hasWord_any HE.out H.out.s H.out.B ha _).mono ?_;rintro e w1 ⟨b1,a1,rfl,_,p1,p2,hp⟩;replace HV2:=aM (HV2.out.keep H.out.s hp);replace H:=aM (H.out.step hp);clear hp;have HSZ:=aM (blk_lt HV2.out)
     cases b1 with
     |true=>
      obtain⟨rfl,hlt⟩:=p1 rfl;clear p1 p2;go_wp2_with fail;refine((HIH.out (a+1) (by omega) hlt).counting _ _ H.out.s H.out.B).mono ?_;rintro e w3 ⟨x,An,cn,Ak,ck,a2,c2,rfl,tx,ox,_,mx,hp⟩;replace HV2:=aM (HV2.out.keep H.out.s hp);replace H:=aM (H.out.step hp);have TX:=aM (tx.lower (b':=n0+1) HSZ.out);have OX:=aM ox;have MX:=aM mx;clear tx ox mx hp;obtain⟨z0,z1,z2,z3,z4,z5,z6⟩:=bC7 HV2.out;obtain⟨fz0,fz1,fz2,fz3,fz4,fz5,fz6⟩:=bF7 HV2.out;go_wp2_with fail;have HF:=aM (Tr.res H.out HV2.out rfl TX.out HE.out HP.out HB0.out HN0.out (by omega));generalize (((((((w3.setCell ⟨n0,0,none⟩ (.int .i64 x.k)).setCell ⟨n0,1,none⟩ (.string x.s)).setCell ⟨n0,2,none⟩ (.float .f64 x.x)).setCell ⟨n0,3,none⟩ (.int .i64 x.n)).setCell ⟨n0,4,none⟩ (.bool x.b)).setCell ⟨n0,5,none⟩ (.slice An x.names.length cn)).setCell ⟨n0,6,none⟩ (.slice Ak x.kids.length ck))=WF at HF|-;obtain⟨qq0,qq1,qq2,qq3,qq4,qq5,qq6⟩:=bC7 HF.out.2.2;refine bodyPost_ret (v:= .agg #[.int .i64 x.k,.string x.s,.float .f64 x.x,.int .i64 x.n,.bool x.b,.slice An x.names.length cn,.slice Ak x.kids.length ck]) (by simp[results,Tryz.results58,go_sem,qq0,qq1,qq2,qq3,qq4,qq5,qq6]) rfl ?_;exact⟨x,An,cn,Ak,ck,a2,c2,rfl,HF.out.2.1,OX.out,trivial,⟨by have:=MX.out.le;omega,MX.out.lt,(fun _ _=>by have:=MX.out.le;omega),fun h0=>⟨(MX.out.good h0).1,by have:=(MX.out.good h0).2;omega⟩⟩,HF.out.1⟩
     |false=>
      obtain rfl:=(p2 rfl).symm;clear p1 p2 HSZ;go_wp2_with fail;refine(hasWord_any HE.out H.out.s H.out.B ha _).mono ?_;rintro e w1 ⟨b1,a1,rfl,_,p1,p2,hp⟩;replace HV2:=aM (HV2.out.keep H.out.s hp);replace H:=aM (H.out.step hp);clear hp;have HSZ:=aM (blk_lt HV2.out)
      cases b1 with
      |true=>
       obtain⟨rfl,hlt⟩:=p1 rfl;clear p1 p2;go_wp2_with fail;refine((HIH.out (a+1) (by omega) hlt).named _ _ H.out.s H.out.B).mono ?_;rintro e w3 ⟨x,An,cn,Ak,ck,a2,c2,rfl,tx,ox,_,mx,hp⟩;replace HV2:=aM (HV2.out.keep H.out.s hp);replace H:=aM (H.out.step hp);have TX:=aM (tx.lower (b':=n0+1) HSZ.out);have OX:=aM ox;have MX:=aM mx;clear tx ox mx hp;obtain⟨z0,z1,z2,z3,z4,z5,z6⟩:=bC7 HV2.out;obtain⟨fz0,fz1,fz2,fz3,fz4,fz5,fz6⟩:=bF7 HV2.out;go_wp2_with fail;have HF:=aM (Tr.res H.out HV2.out rfl TX.out HE.out HP.out HB0.out HN0.out (by omega));generalize (((((((w3.setCell ⟨n0,0,none⟩ (.int .i64 x.k)).setCell ⟨n0,1,none⟩ (.string x.s)).setCell ⟨n0,2,none⟩ (.float .f64 x.x)).setCell ⟨n0,3,none⟩ (.int .i64 x.n)).setCell ⟨n0,4,none⟩ (.bool x.b)).setCell ⟨n0,5,none⟩ (.slice An x.names.length cn)).setCell ⟨n0,6,none⟩ (.slice Ak x.kids.length ck))=WF at HF|-;obtain⟨qq0,qq1,qq2,qq3,qq4,qq5,qq6⟩:=bC7 HF.out.2.2;refine bodyPost_ret (v:= .agg #[.int .i64 x.k,.string x.s,.float .f64 x.x,.int .i64 x.n,.bool x.b,.slice An x.names.length cn,.slice Ak x.kids.length ck]) (by simp[results,Tryz.results58,go_sem,qq0,qq1,qq2,qq3,qq4,qq5,qq6]) rfl ?_;exact⟨x,An,cn,Ak,ck,a2,c2,rfl,HF.out.2.1,OX.out,trivial,⟨by have:=MX.out.le;omega,MX.out.lt,(fun _ _=>by have:=MX.out.le;omega),fun h0=>⟨(MX.out.good h0).1,by have:=(MX.out.good h0).2;omega⟩⟩,HF.out.1⟩
      |false=>
       obtain rfl:=(p2 rfl).symm;clear p1 p2 HSZ;go_wp2_with fail;refine(hasWord_any HE.out H.out.s H.out.B ha _).mono ?_;rintro e w1 ⟨b1,a1,rfl,_,p1,p2,hp⟩;replace HV2:=aM (HV2.out.keep H.out.s hp);replace H:=aM (H.out.step hp);clear hp;have HSZ:=aM (blk_lt HV2.out)
       cases b1 with
       |true=>
        obtain⟨rfl,hlt⟩:=p1 rfl;clear p1 p2;go_wp2_with fail;refine((HIH.out (a+1) (by omega) hlt).local_ _ _ H.out.s H.out.B).mono ?_;rintro e w3 ⟨x,An,cn,Ak,ck,a2,c2,rfl,tx,ox,_,mx,hp⟩;replace HV2:=aM (HV2.out.keep H.out.s hp);replace H:=aM (H.out.step hp);have TX:=aM (tx.lower (b':=n0+1) HSZ.out);have OX:=aM ox;have MX:=aM mx;clear tx ox mx hp;obtain⟨z0,z1,z2,z3,z4,z5,z6⟩:=bC7 HV2.out;obtain⟨fz0,fz1,fz2,fz3,fz4,fz5,fz6⟩:=bF7 HV2.out;go_wp2_with fail;have HF:=aM (Tr.res H.out HV2.out rfl TX.out HE.out HP.out HB0.out HN0.out (by omega));generalize (((((((w3.setCell ⟨n0,0,none⟩ (.int .i64 x.k)).setCell ⟨n0,1,none⟩ (.string x.s)).setCell ⟨n0,2,none⟩ (.float .f64 x.x)).setCell ⟨n0,3,none⟩ (.int .i64 x.n)).setCell ⟨n0,4,none⟩ (.bool x.b)).setCell ⟨n0,5,none⟩ (.slice An x.names.length cn)).setCell ⟨n0,6,none⟩ (.slice Ak x.kids.length ck))=WF at HF|-;obtain⟨qq0,qq1,qq2,qq3,qq4,qq5,qq6⟩:=bC7 HF.out.2.2;refine bodyPost_ret (v:= .agg #[.int .i64 x.k,.string x.s,.float .f64 x.x,.int .i64 x.n,.bool x.b,.slice An x.names.length cn,.slice Ak x.kids.length ck]) (by simp[results,Tryz.results58,go_sem,qq0,qq1,qq2,qq3,qq4,qq5,qq6]) rfl ?_;exact⟨x,An,cn,Ak,ck,a2,c2,rfl,HF.out.2.1,OX.out,trivial,⟨by have:=MX.out.le;omega,MX.out.lt,(fun _ _=>by have:=MX.out.le;omega),fun h0=>⟨(MX.out.good h0).1,by have:=(MX.out.good h0).2;omega⟩⟩,HF.out.1⟩
       |false=>
        obtain rfl:=(p2 rfl).symm;clear p1 p2 HSZ;go_wp2_with fail;have HSZ:=aM (blk_lt HV2.out);refine(HPL.out _ _ H.out.s H.out.B).mono ?_;rintro e w3 ⟨x,An,cn,Ak,ck,a2,c2,rfl,tx,ox,_,mx,hp⟩;replace HV2:=aM (HV2.out.keep H.out.s hp);replace H:=aM (H.out.step hp);have TX:=aM (tx.lower (b':=n0+1) HSZ.out);have OX:=aM ox;have MX:=aM mx;clear tx ox mx hp;obtain⟨z0,z1,z2,z3,z4,z5,z6⟩:=bC7 HV2.out;obtain⟨fz0,fz1,fz2,fz3,fz4,fz5,fz6⟩:=bF7 HV2.out;go_wp2_with fail;have HF:=aM (Tr.res H.out HV2.out rfl TX.out HE.out HP.out HB0.out HN0.out (by omega));generalize (((((((w3.setCell ⟨n0,0,none⟩ (.int .i64 x.k)).setCell ⟨n0,1,none⟩ (.string x.s)).setCell ⟨n0,2,none⟩ (.float .f64 x.x)).setCell ⟨n0,3,none⟩ (.int .i64 x.n)).setCell ⟨n0,4,none⟩ (.bool x.b)).setCell ⟨n0,5,none⟩ (.slice An x.names.length cn)).setCell ⟨n0,6,none⟩ (.slice Ak x.kids.length ck))=WF at HF|-;obtain⟨qq0,qq1,qq2,qq3,qq4,qq5,qq6⟩:=bC7 HF.out.2.2;refine bodyPost_ret (v:= .agg #[.int .i64 x.k,.string x.s,.float .f64 x.x,.int .i64 x.n,.bool x.b,.slice An x.names.length cn,.slice Ak x.kids.length ck]) (by simp[results,Tryz.results58,go_sem,qq0,qq1,qq2,qq3,qq4,qq5,qq6]) rfl ?_;exact⟨x,An,cn,Ak,ck,a2,c2,rfl,HF.out.2.1,OX.out,trivial,⟨by have:=MX.out.le;omega,MX.out.lt,(MX.out.pr),fun h0=>⟨(MX.out.good h0).1,by have:=(MX.out.good h0).2;omega⟩⟩,HF.out.1⟩
end
end Go.Proofs.YtoimaaonloibfaaGreatDoor.Pa
namespace Go.Proofs.YtoimaaonloibfaaGreatDoor.Pa
open Go.RowKit W1 W2 PF Wf Lx
theorem all_any{E:Env}(hE:E.Fine):∀(m a:Nat),E.n-a=m->a<E.n->All E a:=by
 intro m
 induction m using Nat.strongRecOn with
 |ind m ih=>
  intro a hm ha;have IH:∀b,a<b->b<E.n->All E b:=fun b h1 h2=>ih (E.n-b) (by omega) b rfl h2
  have hpos:=hE.pos;have bE:=block_any hE (a:=E.n-1) (by omega) (fun b h1 h2=>absurd h2 (by omega));have lpE:=loop_any hE (a:=E.n-1) (by omega) bE;have hT:=table_any hE IH ha;have hPre:=prefixed_any hE IH ha;have hS:=simple_any hE IH ha hT hPre;have hX:=fun l hl=>expression_any hE IH ha hS l hl
  have hL:=list_any hE IH ha (hX 0 (by decide));have hBd:=body_any hE IH ha bE;have hBlk:∀b,a<b\/b=E.n-1->b<E.n->NC E 20 #[.pointer (some ⟨E.g,0,none⟩)] b .b 0 1 (fun _=>True):=fun b h1 h2=>by
   rcases h1 with h1|rfl
   ·exact(IH b h1 h2).block
   ·exact bE
  have hSt:=statement_any hE IH ha (plain_any hE IH ha hPre);have hLa:=last_any hE IH ha;have hBlock:=block_any hE ha (fun b h1 h2=>by
   rcases Nat.lt_or_ge a b with h3|h3
   ·exact⟨(IH b h3 (by omega)).statement,(IH b h3 (by omega)).last⟩
   ·have:b=a:=by omega
    subst this;exact⟨hSt,hLa⟩)
  exact{
   block:=hBlock
   loop:=loop_any hE ha hBlock
   last:=hLa
   list:=hL
   statement:=hSt
   branch:=branch_any hE IH ha (hX 0 (by decide)) hBlk
   counting:=counting_any hE IH ha hL lpE
   named:=named_any hE ha (fun b h1 h2=>by
    rcases Nat.lt_or_ge a b with h3|h3
    ·exact(IH b h3 h2).body
    ·have:b=a:=by omega
     subst this;exact hBd)
   local_:=local_any hE IH ha
   plain:=plain_any hE IH ha hPre
   expression:=hX
   field:=field_any hE IH ha (hX 0 (by decide))
   table:=hT
   arguments:=fun h1=>arguments_any hE IH ha hT h1
   prefixed:=hPre
   body:=hBd}
end Go.Proofs.YtoimaaonloibfaaGreatDoor.Pa
namespace Go.Proofs.YtoimaaonloibfaaGreatDoor.Pa
open Go.RowKit W1 W2 PF Wf Lx
attribute [local go_sem] run_store_float fld49_0 fld49_1 fld49_3
def mkEnv(w1:World)(toks:List Tk)(tb cp:Nat)(TB:Obj):Env:=⟨w1,w1.heap.size,tb,TB,⟨tb,0,none⟩,cp,toks⟩
theorem rdTk_last(ts:List Tk)(x:Tk)(i:Nat):(i<ts.length->rdTk (ts++[x]) (i:Int)∈ts)/\(i=ts.length->rdTk (ts++[x]) (i:Int)=x)/\(ts.length<i->rdTk (ts++[x]) (i:Int)=zTk):=by
 have ei:((i:Nat):Int).toNat=i:=by omega
 unfold rdTk;rw[ei,List.getD_eq_getElem?_getD];refine⟨fun h=> ?_,fun h=> ?_,fun h=> ?_⟩
 ·rw[List.getElem?_append_left h,List.getElem?_eq_getElem h]
  exact List.getElem_mem h
 ·subst h
  simp
 ·rw[List.getElem?_eq_none (by simp;omega)]
  rfl
theorem env_fine{w1:World}{base:Nat}{v:Value}{ts:List Tk}{x:Tk}(hx6:x.k=6)(hxs:x.s.size<=2000)(hl:ts.length<=2000)(hok:TksOk 0 ts)(hR:tokK.R 49 w1 base (fun _=>True) v (ts++[x])):
  ∃(tb cp:Nat) (TB:Obj),v = .slice (some ⟨tb,0,none⟩) (ts.length+1) cp/\tb<w1.heap.size/\w1.heap[tb]? = some TB/\(mkEnv w1 (ts++[x]) tb cp TB).Fine:=by
 obtain⟨g,cap,rfl,hb,hlt,cells,hg⟩:=Kd.R_form hR (by simp);have hlen:(ts++[x]).length=ts.length+1:=by simp
 have hn:∀TB,(mkEnv w1 (ts++[x]) g cap TB).n=ts.length+1:=fun TB=>hlen
 refine⟨g,cap,.cells cells 49 (0,0),by rw[hlen],hlt,hg,⟨?_,?_,?_,?_,?_,?_,?_,?_,?_,?_⟩⟩
 ·show g≠w1.heap.size
  omega
 ·exact Nat.le_refl _
 ·rw[hn]
  have:=(Kd.R_reads' hR).2.1;show ts.length+1<=cap
  omega
 ·intro w hw
  have hR':tokK.R 49 w1 base (fun k=>k=g) (.slice (some ⟨g,0,none⟩) (ts++[x]).length cap) (ts++[x]):=⟨fun k hk=>by simpa[Value.ownBlock,eq_comm] using hk,hR.2.imp_ (fun _ _ hp=>hp)⟩;exact(Kd.R_reads' (Kd.R_move hR' (w1:=w) (fun k hk=>by subst hk;exact(show w.heap[k]? = _ from hw).trans hg.symm))).2.2
 ·rw[hn]
  omega
 ·rw[hn]
  omega
 ·rw[hn]
  show(rdTk (ts++[x]) ((ts.length+1-1:Nat):Int)).k=6
  rw[(rdTk_last ts x (ts.length+1-1)).2.1 (by omega)];exact hx6
 ·intro i hi
  rw[hn] at hi;exact(hok.1 _ ((rdTk_last ts x i).1 (by omega))).1
 ·intro i
  show(rdTk (ts++[x]) (i:Int)).s.size<=2000
  rcases Nat.lt_trichotomy i ts.length with h|h|h
  ·exact(hok.1 _ ((rdTk_last ts x i).1 h)).2
  ·rw[(rdTk_last ts x i).2.1 h]
   exact hxs
  ·rw[(rdTk_last ts x i).2.2 h]
   exact Nat.zero_le _
 ·intro i hi
  rw[hn] at hi;exact hok.2 rfl _ ((rdTk_last ts x i).1 (by omega))
def ParR(w:World)(e:Ending)(w':World):Prop:=
 ∃(x:Nd) (An:Option Addr) (cn:Nat) (Ak:Option Addr) (ck:Nat) (c:Int),e = .returned (.tuple #[.agg #[.int .i64 x.k,.string x.s,.float .f64 x.x,.int .i64 x.n,.bool x.b,(.slice An x.names.length cn),(.slice Ak x.kids.length ck)],.int .i64 c])/\Below w.heap.size w w'/\(c=0->Tr w' w.heap.size x (.slice An x.names.length cn) (.slice Ak x.kids.length ck)/\Ok True .b x/\x.wt<=6010)
theorem set7_far(wr:World)(q:Nat)(u0 u1 u2 u3 u4 u5 u6:Value)(k:Nat)(hk:k≠q):(((((((wr.setCell ⟨q,0,none⟩ u0).setCell ⟨q,1,none⟩ u1).setCell ⟨q,2,none⟩ u2).setCell ⟨q,3,none⟩ u3).setCell ⟨q,4,none⟩ u4).setCell ⟨q,5,none⟩ u5).setCell ⟨q,6,none⟩ u6).heap[k]? = wr.heap[k]? :=
 (Below.heap_setCell _ ⟨q,6,none⟩ u6 k hk).trans ((Below.heap_setCell _ ⟨q,5,none⟩ u5 k hk).trans ((Below.heap_setCell _ ⟨q,4,none⟩ u4 k hk).trans ((Below.heap_setCell _ ⟨q,3,none⟩ u3 k hk).trans ((Below.heap_setCell _ ⟨q,2,none⟩ u2 k hk).trans ((Below.heap_setCell _ ⟨q,1,none⟩ u1 k hk).trans (Below.heap_setCell _ ⟨q,0,none⟩ u0 k hk))))))
section
variable {w:World}
set_option maxRecDepth 10000 in
set_option maxHeartbeats 4000000 in
theorem chunk_any(t:ByteArray)(w:World):Calls Tryz.prog 11 #[.string t,.bool true] w fun e w'=>ParR w e w':=by
 have HV2:=aM (Vb.new w #[.int .i64 0,.string ⟨#[]⟩,.float .f64 0,.int .i64 0,.bool false,.slice none 0 0,.slice none 0 0]);have HB:=aM (bA (bR w.heap.size w) (.cells #[.int .i64 0,.string ⟨#[]⟩,.float .f64 0,.int .i64 0,.bool false,.slice none 0 0,.slice none 0 0] 27));go_enter Tryz.func11,Tryz.ntmps11
 go_wp2_with fail;generalize w.alloc _=wz at HV2 HB|-;refine(lexTokens_any t wz).mono ?_;rintro e w1 ⟨v,c,rfl,hb,hc⟩;replace HB:=aM (HB.out.trans (hb.mono HB.out.size));replace HV2:=aM (HV2.out.below hb);clear hb
 by_cases h0:c=0
 case neg=>
  have h0c:(c != 0)=true:=bne_iff_ne.2 h0;clear hc;obtain⟨z0,z1,z2,z3,z4,z5,z6⟩:=bC7 HV2.out;obtain⟨fz0,fz1,fz2,fz3,fz4,fz5,fz6⟩:=bF7 HV2.out;go_wp2_with fail;have HF:=aM (set7 HV2.out rfl HB.out (Nat.le_refl _) (.int .i64 0) (.string ⟨#[]⟩) (.float .f64 0) (.int .i64 0) (.bool false) (.slice none 0 0) (.slice none 0 0));generalize (((((((w1.setCell ⟨w.heap.size,0,none⟩ (.int .i64 0)).setCell ⟨w.heap.size,1,none⟩ (.string ⟨#[]⟩)).setCell ⟨w.heap.size,2,none⟩ (.float .f64 0)).setCell ⟨w.heap.size,3,none⟩ (.int .i64 0)).setCell ⟨w.heap.size,4,none⟩ (.bool false)).setCell ⟨w.heap.size,5,none⟩ (.slice none 0 0)).setCell ⟨w.heap.size,6,none⟩ (.slice none 0 0))=WF at HF|-;obtain⟨qq0,qq1,qq2,qq3,qq4,qq5,qq6⟩:=bC7 HF.out.2;refine bodyPost_ret (v:= .tuple #[.agg #[.int .i64 0,.string ⟨#[]⟩,.float .f64 0,.int .i64 0,.bool false,.slice none 0 0,.slice none 0 0],.int .i64 c]) (by simp[results,Tryz.results11,go_sem,qq0,qq1,qq2,qq3,qq4,qq5,qq6]) rfl ?_;exact⟨zNd,none,0,none,0,c,rfl,HF.out.1,fun h=>absurd h h0⟩
 subst h0;obtain⟨hn,ts,tx,hx6,hxs,hl,hok,hR⟩:=hc rfl;obtain⟨tb,cp,TB,rfl,htb,hTB,hE⟩:=env_fine hx6 hxs hl hok hR;have HTB:=aM hTB;clear hc hR hok hx6 hxs hn hTB;have hps:Ps (mkEnv w1 (ts++[tx]) tb cp TB) (w1.alloc (.cells #[.slice (some ⟨tb,0,none⟩) (ts.length+1) cp,.int .i64 0,.int .i64 0,.bool true,.int .i64 0,.bool true] 71)) 0 0:=⟨true,0,by have:=blk_new w1 (.cells #[.slice (some ⟨tb,0,none⟩) (ts.length+1) cp,.int .i64 0,.int .i64 0,.bool true,.int .i64 0,.bool true] 71);simpa[mkEnv,Env.n] using this,blk_alloc HTB.out (.cells #[.slice (some ⟨tb,0,none⟩) (ts.length+1) cp,.int .i64 0,.int .i64 0,.bool true,.int .i64 0,.bool true] 71)⟩;have hbe:Below (mkEnv w1 (ts++[tx]) tb cp TB).w0.heap.size (mkEnv w1 (ts++[tx]) tb cp TB).w0 (w1.alloc (.cells #[.slice (some ⟨tb,0,none⟩) (ts.length+1) cp,.int .i64 0,.int .i64 0,.bool true,.int .i64 0,.bool true] 71)):=bA (bR _ _) _;have hg0:(mkEnv w1 (ts++[tx]) tb cp TB).w0=w1:=rfl;have hgg:(mkEnv w1 (ts++[tx]) tb cp TB).g=w1.heap.size:=rfl;generalize mkEnv w1 (ts++[tx]) tb cp TB=E at hE hps hbe hg0 hgg;have HE:=aM hE;have hpos:=hE.pos;have hlen:=hE.len;have HPS:=aM hps;have HBL:=aM ((all_any hE _ 0 rfl hpos).block _ 0 hps hbe);have HVA:=aM (HV2.out.alloc (.cells #[.slice (some ⟨tb,0,none⟩) (ts.length+1) cp,.int .i64 0,.int .i64 0,.bool true,.int .i64 0,.bool true] 71));have HS2:=aM (blk_lt HVA.out);have HBE:=aM hbe;rw[<-hg0] at HB;clear HV2 hE hps hbe HTB;go_wp2_with fail;rw[<-hgg];generalize w1.alloc _=w2 at HPS HBL HVA HS2 HBE|-;clear hgg hg0;refine HBL.out.mono ?_;rintro e w3 ⟨x,An,cn,Ak,ck,a2,c2,rfl,tr,ox,_,mx,hp⟩;have HSZ:=aM (show w.heap.size+1<=w2.heap.size from HS2.out);have H0:=Pt.start HPS.out HBE.out;have HV2:=HVA.out.keep HPS.out hp;have OX:=aM ox;have MX:=aM mx;have hA:=mx.lt;obtain⟨n9,hn9⟩:∃n,w3.heap.size=n:=⟨_,rfl⟩;have H:=aM (show Pf1 E w2 (w3.alloc (.cells #[.int .i64 x.k,.string x.s,.float .f64 x.x,.int .i64 x.n,.bool x.b,(.slice An x.names.length cn),(.slice Ak x.kids.length ck)] 27)) w.heap.size n9 a2 c2 x (.slice An x.names.length cn) (.slice Ak x.kids.length ck) from⟨hp.alloc _,HV2.alloc _,by have:=Vb.new w3 #[.int .i64 x.k,.string x.s,.float .f64 x.x,.int .i64 x.n,.bool x.b,(.slice An x.names.length cn),(.slice Ak x.kids.length ck)];rwa[hn9] at this,(tr.lower HSZ.out).alloc _⟩);clear HBL HVA tr ox mx hp H0 HV2;go_wp2_with fail;generalize w3.alloc _=w4 at H|-;clear hn9;refine(now_q HE.out H.out.p.s hA).mono ?_;rintro e w5 ⟨rfl,hb⟩;replace H:=aM (H.out.below hb);clear hb;obtain⟨b1,hb1⟩:∃b,((E.tk a2).k != 6)=b:=⟨_,rfl⟩
 go_upto_if 28 with fail
 go_cut [] from 25 to 30 (fun wc=>∃(a':Nat) (c':Int),a'<E.n/\Aside0 (c'=0->c2=0)/\Aside0 (Pf1 E w2 wc w.heap.size n9 a' c' x (.slice An x.names.length cn) (.slice Ak x.kids.length ck)))
 case first=>
  cases b1 with
  |true=>
   go_wp2_with fail;refine(tell_any HE.out H.out.p.s H.out.p.B 1).mono ?_;rintro e w6 ⟨rfl,h2⟩;replace H:=aM (H.out.step h2);clear h2;go_wp2_with fail;go_meet
   case rel=>exact⟨E.n-1,_,by omega,⟨tell_g (by decide)⟩,H⟩
  |false=>
   go_wp2_with fail;go_meet
   case rel=>exact⟨a2,c2,hA,⟨fun h=>h⟩,H⟩
 clear H hb1;obtain⟨a3,c3,hA3,G3,H⟩:=hcut;obtain⟨va,lo,g1,g2⟩:=H.out.p.s;have g1c:=bC g1 2;have HBX:=aM (HB.out.trans (H.out.p.B.mono HB.out.size))
 by_cases h3:c3=0
 case neg=>
  have h3c:(c3 != 0)=true:=bne_iff_ne.2 h3;have HVX:=aM H.out.v2;obtain⟨z0,z1,z2,z3,z4,z5,z6⟩:=bC7 HVX.out;obtain⟨fz0,fz1,fz2,fz3,fz4,fz5,fz6⟩:=bF7 HVX.out;have g9c:=bC ((set7_far wc.drew w.heap.size (.int .i64 0) (.string ⟨#[]⟩) (.float .f64 0) (.int .i64 0) (.bool false) (.slice none 0 0) (.slice none 0 0) E.g (fun e=>blk_ne HVX.out g1 (by decide) e.symm)).trans g1) 2;have hgn:¬w.heap.size=E.g:=fun e=>blk_ne HVX.out g1 (by decide) e
  clear g1 g2;go_upto_region 9 with fail
  go_region_law (fail)
  all_goals
   go_wp2
   have HF:=aM (set7 HVX.out rfl HBX.out (Nat.le_refl _) (.int .i64 0) (.string ⟨#[]⟩) (.float .f64 0) (.int .i64 0) (.bool false) (.slice none 0 0) (.slice none 0 0));generalize (((((((wc.setCell ⟨w.heap.size,0,none⟩ (.int .i64 0)).setCell ⟨w.heap.size,1,none⟩ (.string ⟨#[]⟩)).setCell ⟨w.heap.size,2,none⟩ (.float .f64 0)).setCell ⟨w.heap.size,3,none⟩ (.int .i64 0)).setCell ⟨w.heap.size,4,none⟩ (.bool false)).setCell ⟨w.heap.size,5,none⟩ (.slice none 0 0)).setCell ⟨w.heap.size,6,none⟩ (.slice none 0 0))=WF at HF|-;obtain⟨qq0,qq1,qq2,qq3,qq4,qq5,qq6⟩:=bC7 (show WF.drew.heap[w.heap.size]? = _ from HF.out.2);refine bodyPost_ret (v:= .tuple #[.agg #[.int .i64 0,.string ⟨#[]⟩,.float .f64 0,.int .i64 0,.bool false,.slice none 0 0,.slice none 0 0],.int .i64 c3]) (by simp[results,Tryz.results11,go_sem,qq0,qq1,qq2,qq3,qq4,qq5,qq6]) rfl ?_;exact⟨zNd,none,0,none,0,c3,rfl,below_drew HF.out.1,fun h=>absurd h h3⟩
 subst h3;have HW:=aM (show x.wt<=6010 by have:=(MX.out.good (G3.out rfl)).2;omega);have OXX:=aM (OX.out.mono (fun _:True=>G3.out rfl));clear g2 MX OX G3;obtain⟨y0,y1,y2,y3,y4,y5,y6⟩:=bC7 H.out.v3;go_upto_region 10 with fail
 go_cut [57] from 41 to 57 (fun v wc=>∃b:Bool,v = .bool b/\Aside0 (Pf1 E w2 wc w.heap.size n9 a3 0 x (.slice An x.names.length cn) (.slice Ak x.kids.length ck)))
 case first=>
  clear g1 g1c HBX;go_wp2_with fail;refine(depth_any x.wt x (Nat.le_refl _) wc An cn Ak ck (nodeK.K_of_M H.out.t)).mono ?_;rintro e w6 ⟨d1,rfl,hb⟩;replace H:=aM (H.out.below hb);clear hb;obtain⟨y0,y1,y2,y3,y4,y5,y6⟩:=bC7 H.out.v3
  by_cases h1:d1>30
  case pos=>
   go_wp2_with fail;go_meet
   case rel=>exact⟨_,rfl,H⟩
  go_wp2_with fail;refine(names_any2 x.wt x (Nat.le_refl _) w6 An cn Ak ck (nodeK.K_of_M H.out.t)).mono ?_;rintro e w7 ⟨d2,rfl,hb⟩;replace H:=aM (H.out.below hb);clear hb;obtain⟨y0,y1,y2,y3,y4,y5,y6⟩:=bC7 H.out.v3
  by_cases h2:d2>50
  case pos=>
   go_wp2_with fail;go_meet
   case rel=>exact⟨_,rfl,H⟩
  go_wp2_with fail;refine(wide_any x.wt x (Nat.le_refl _) w7 An cn Ak ck (nodeK.K_of_M H.out.t)).mono ?_;rintro e w8 ⟨d3,rfl,hb⟩;replace H:=aM (H.out.below hb);clear hb;obtain⟨y0,y1,y2,y3,y4,y5,y6⟩:=bC7 H.out.v3
  cases d3 with
  |true=>
   go_wp2_with fail;go_meet
   case rel=>exact⟨_,rfl,H⟩
  |false=>
   go_wp2_with fail;refine(waiting_any x.wt x (Nat.le_refl _) w8 An cn Ak ck (nodeK.K_of_M H.out.t)).mono ?_;rintro e w9 ⟨d4,rfl,hb⟩;replace H:=aM (H.out.below hb);clear hb
   by_cases h4:d4>100
   case pos=>
    go_wp2_with fail;go_meet
    case rel=>exact⟨_,rfl,H⟩
   go_wp2_with fail;go_meet
   case rel=>exact⟨_,rfl,H⟩
 clear H g1 g1c HBX y0 y1 y2 y3 y4 y5 y6;obtain⟨b57,rfl,H⟩:=hcut;have HBX:=aM (HB.out.trans (H.out.p.B.mono HB.out.size));have HVX:=aM H.out.v2;obtain⟨z0,z1,z2,z3,z4,z5,z6⟩:=bC7 HVX.out;obtain⟨fz0,fz1,fz2,fz3,fz4,fz5,fz6⟩:=bF7 HVX.out
 cases b57 with
 |true=>
  go_wp2_with fail;have HF:=aM (set7 HVX.out rfl HBX.out (Nat.le_refl _) (.int .i64 0) (.string ⟨#[]⟩) (.float .f64 0) (.int .i64 0) (.bool false) (.slice none 0 0) (.slice none 0 0));generalize (((((((wc.setCell ⟨w.heap.size,0,none⟩ (.int .i64 0)).setCell ⟨w.heap.size,1,none⟩ (.string ⟨#[]⟩)).setCell ⟨w.heap.size,2,none⟩ (.float .f64 0)).setCell ⟨w.heap.size,3,none⟩ (.int .i64 0)).setCell ⟨w.heap.size,4,none⟩ (.bool false)).setCell ⟨w.heap.size,5,none⟩ (.slice none 0 0)).setCell ⟨w.heap.size,6,none⟩ (.slice none 0 0))=WF at HF|-;obtain⟨qq0,qq1,qq2,qq3,qq4,qq5,qq6⟩:=bC7 HF.out.2;refine bodyPost_ret (v:= .tuple #[.agg #[.int .i64 0,.string ⟨#[]⟩,.float .f64 0,.int .i64 0,.bool false,.slice none 0 0,.slice none 0 0],.int .i64 2]) (by simp[results,Tryz.results11,go_sem,qq0,qq1,qq2,qq3,qq4,qq5,qq6]) rfl ?_;exact⟨zNd,none,0,none,0,2,rfl,HF.out.1,fun h=>absurd h (by decide)⟩
 |false=>
  obtain⟨y0,y1,y2,y3,y4,y5,y6⟩:=bC7 H.out.v3;go_wp2_with fail;have HF:=aM (And.intro (set7 HVX.out rfl HBX.out (Nat.le_refl _) (.int .i64 x.k) (.string x.s) (.float .f64 x.x) (.int .i64 x.n) (.bool x.b) (.slice An x.names.length cn) (.slice Ak x.kids.length ck)) (H.out.t.far (set7_far wc w.heap.size (.int .i64 x.k) (.string x.s) (.float .f64 x.x) (.int .i64 x.n) (.bool x.b) (.slice An x.names.length cn) (.slice Ak x.kids.length ck)) (by omega)));generalize (((((((wc.setCell ⟨w.heap.size,0,none⟩ (.int .i64 x.k)).setCell ⟨w.heap.size,1,none⟩ (.string x.s)).setCell ⟨w.heap.size,2,none⟩ (.float .f64 x.x)).setCell ⟨w.heap.size,3,none⟩ (.int .i64 x.n)).setCell ⟨w.heap.size,4,none⟩ (.bool x.b)).setCell ⟨w.heap.size,5,none⟩ (.slice An x.names.length cn)).setCell ⟨w.heap.size,6,none⟩ (.slice Ak x.kids.length ck))=WF at HF|-;obtain⟨qq0,qq1,qq2,qq3,qq4,qq5,qq6⟩:=bC7 HF.out.1.2;refine bodyPost_ret (v:= .tuple #[.agg #[.int .i64 x.k,.string x.s,.float .f64 x.x,.int .i64 x.n,.bool x.b,(.slice An x.names.length cn),(.slice Ak x.kids.length ck)],.int .i64 0]) (by simp[results,Tryz.results11,go_sem,qq0,qq1,qq2,qq3,qq4,qq5,qq6]) rfl ?_;exact⟨x,An,cn,Ak,ck,0,rfl,HF.out.1.1,fun _=>⟨HF.out.2.lower (by omega),OXX.out,HW.out⟩⟩
set_option maxRecDepth 10000 in
set_option maxHeartbeats 4000000 in
theorem grammar_any(t:ByteArray)(w:World):Calls Tryz.prog 4 #[.string t] w fun e w'=>ParR w e w':=by
 have HV2:=aM (Vb.new w #[.int .i64 0,.string ⟨#[]⟩,.float .f64 0,.int .i64 0,.bool false,.slice none 0 0,.slice none 0 0]);have HB:=aM (bA (bR w.heap.size w) (.cells #[.int .i64 0,.string ⟨#[]⟩,.float .f64 0,.int .i64 0,.bool false,.slice none 0 0,.slice none 0 0] 27));have HSZ:=aM (show(w.alloc (.cells #[.int .i64 0,.string ⟨#[]⟩,.float .f64 0,.int .i64 0,.bool false,.slice none 0 0,.slice none 0 0] 27)).heap.size=w.heap.size+1 by simp);go_enter Tryz.func4,Tryz.ntmps4
 go_wp2_with fail;generalize w.alloc _=wz at HV2 HB HSZ|-;refine(chunk_any t wz).mono ?_;rintro e wc ⟨x,An,cn,Ak,ck,c,rfl,hb,hc⟩;replace HB:=aM (HB.out.trans (hb.mono HB.out.size));replace HV2:=aM (HV2.out.below hb);have HC:=aM hc;clear hb hc;obtain⟨z0,z1,z2,z3,z4,z5,z6⟩:=bC7 HV2.out;obtain⟨fz0,fz1,fz2,fz3,fz4,fz5,fz6⟩:=bF7 HV2.out;go_wp2_with fail;have HF:=aM (And.intro (set7 HV2.out rfl HB.out (Nat.le_refl _) (.int .i64 x.k) (.string x.s) (.float .f64 x.x) (.int .i64 x.n) (.bool x.b) (.slice An x.names.length cn) (.slice Ak x.kids.length ck)) (fun h0:c=0=>(HC.out h0).1.far (set7_far wc w.heap.size (.int .i64 x.k) (.string x.s) (.float .f64 x.x) (.int .i64 x.n) (.bool x.b) (.slice An x.names.length cn) (.slice Ak x.kids.length ck)) (by have:=HSZ.out;omega)));generalize (((((((wc.setCell ⟨w.heap.size,0,none⟩ (.int .i64 x.k)).setCell ⟨w.heap.size,1,none⟩ (.string x.s)).setCell ⟨w.heap.size,2,none⟩ (.float .f64 x.x)).setCell ⟨w.heap.size,3,none⟩ (.int .i64 x.n)).setCell ⟨w.heap.size,4,none⟩ (.bool x.b)).setCell ⟨w.heap.size,5,none⟩ (.slice An x.names.length cn)).setCell ⟨w.heap.size,6,none⟩ (.slice Ak x.kids.length ck))=WF at HF|-;obtain⟨qq0,qq1,qq2,qq3,qq4,qq5,qq6⟩:=bC7 HF.out.1.2;refine bodyPost_ret (v:= .tuple #[.agg #[.int .i64 x.k,.string x.s,.float .f64 x.x,.int .i64 x.n,.bool x.b,(.slice An x.names.length cn),(.slice Ak x.kids.length ck)],.int .i64 c]) (by simp[results,Tryz.results4,go_sem,qq0,qq1,qq2,qq3,qq4,qq5,qq6]) rfl ?_;exact⟨x,An,cn,Ak,ck,c,rfl,HF.out.1.1,fun h0=>⟨(HF.out.2 h0).lower (by have:=HSZ.out;omega),(HC.out h0).2⟩⟩
end
end Go.Proofs.YtoimaaonloibfaaGreatDoor.Pa
namespace Go.Proofs.YtoimaaonloibfaaGreatDoor.Tk
open Go.RowKit W1 W2 PF Wf
attribute [local go_sem] Go.Proofs.YtoimaaonloibfaaGreatDoor.Lx.run_store_float
def k0(n:Nat):Sk:=⟨n,0,0,0,0,⟨#[]⟩,default⟩
section
variable {w w1 w2:World} {k k1:Sk} {res:ByteArray->Option Int}
theorem Out.up(h:Out w k res)(hb:k.B<=k1.B):Out w k1 res:=by
 obtain⟨bm,h1,h2⟩:=h.m;exact⟨⟨bm,h1,fun w' hw' s=>h2 w' (hw'.mono hb) s⟩,h.t,h.b⟩
theorem Out.at_(h:Out w (k0 w.heap.size) res)(h12:12<w.heap.size)(hb:Below w.heap.size w w1)(k:Sk)(hk:k.B=w1.heap.size):Out w1 k res:=
 (h.on (k:=k0 w.heap.size) hb h12).up (by rw[hk];exact hb.size)
theorem tr_nk{x:Pa.Nd}{b:Nat}{An Ak:Option Addr}{cn ck:Nat}(h:Pa.Tr w b x (.slice An x.names.length cn) (.slice Ak x.kids.length ck)):Pa.NK w x An cn Ak ck:=by
 obtain⟨h1,h2⟩:=h.rows;have r1:=Kd.R_reads' h1;have r2:=Kd.R_reads' h2;exact Pa.node_mkK r1.2.1 r1.2.2 r2.2.1 r2.2.2
set_option maxRecDepth 100000 in
set_option maxHeartbeats 8000000 in
theorem law_q(t:ByteArray)(A:Option Addr)(cg:Nat)(gs:List Int)(pe:Addr)(hg:Kd.C (Kd.int .i64) w A gs.length gs)(hcg:gs.length<=cg)(h12:12<w.heap.size)(hE:w.cell? ⟨2,0,none⟩=some (.iface 181 (.pointer (some pe))))(hO:Out w (k0 w.heap.size) res):
  Calls Tryz.prog 3 #[.string t,.slice A gs.length cg] w fun e w'=>e = .returned (.bool true)/\Below w.heap.size w w':=by
 have HG:=aM hg;have HCG:=aM hcg;have H12:=aM h12;have HE:=aM hE;have HO:=aM hO;have HB0:=aM (bR w.heap.size w);clear hg hcg h12 hE hO;go_enter Tryz.func3,Tryz.ntmps3
 by_cases h1:(2147483647:Int)<(t.size:Int)
 ·go_wp2_with fail
  go_ret;exact⟨rfl,HB0.out⟩
 by_cases h2:(2147483647:Int)<(gs.length:Int)
 ·go_wp2_with fail
  go_ret;exact⟨rfl,HB0.out⟩
 go_wp2_with fail;refine(Pa.grammar_any t w).mono ?_;rintro e w1 ⟨x,An,cn,Ak,ck,c,rfl,hb,hc⟩;have HB1:=aM hb;clear hb
 by_cases h3:c=0
 ·subst h3
  obtain⟨hT,hOk,hwt⟩:=hc rfl;have HT:=aM hT;have HOK:=aM hOk;have HWT:=aM hwt;clear hc hT hOk hwt h1 h2
  by_cases h4:(1000:Int)<(gs.length:Int)
  ·go_wp2_with fail
   go_ret;exact⟨rfl,bA HB1.out _⟩
  go_upto_region 6 with fail;have hwa:Below w.heap.size w (w1.alloc (.cells #[.int .i64 x.k,.string x.s,.float .f64 x.x,.int .i64 x.n,.bool x.b,(.slice An x.names.length cn),(.slice Ak x.kids.length ck)] 27)):=bA HB1.out _;have hvb:=blk_new w1 (.cells #[.int .i64 x.k,.string x.s,.float .f64 x.x,.int .i64 x.n,.bool x.b,(.slice An x.names.length cn),(.slice Ak x.kids.length ck)] 27);have hnk:Pa.NK (w1.alloc (.cells #[.int .i64 x.k,.string x.s,.float .f64 x.x,.int .i64 x.n,.bool x.b,(.slice An x.names.length cn),(.slice Ak x.kids.length ck)] 27)) x An cn Ak ck:=(tr_nk HT.out).below (bA (bR _ _) _);clear HT;generalize w1.alloc _=wa at hwa hvb hnk|-;generalize w1.heap.size=T at hvb|-;have HWA:=aM hwa;have HNK:=aM hnk;have HVB:=aM (fun(wz:World) (hz:Below wa.heap.size wa wz)=>(⟨bC (blk_below hvb hz) 0,bC (blk_below hvb hz) 1,bC (blk_below hvb hz) 2,bC (blk_below hvb hz) 3,bC (blk_below hvb hz) 4,bC (blk_below hvb hz) 5,bC (blk_below hvb hz) 6⟩:wz.cell? ⟨T,0,none⟩=some (.int .i64 x.k)/\wz.cell? ⟨T,1,none⟩=some (.string x.s)/\wz.cell? ⟨T,2,none⟩=some (.float .f64 x.x)/\wz.cell? ⟨T,3,none⟩=some (.int .i64 x.n)/\wz.cell? ⟨T,4,none⟩=some (.bool x.b)/\wz.cell? ⟨T,5,none⟩=some (.slice An x.names.length cn)/\wz.cell? ⟨T,6,none⟩=some (.slice Ak x.kids.length ck)));have HTL:=aM (Pa.toks_tl HOK.out);have HLN:=aM (show(Pa.toks x).length<=60110 by have:=Pa.toks_len HWT.out;omega);have HF:=aM (show gs.length<=100000 by omega);clear hwa hvb hnk HB1
  go_region_held3 (fun wz=>wz.cell? ⟨T,0,none⟩=some (.int .i64 x.k)/\wz.cell? ⟨T,1,none⟩=some (.string x.s)/\wz.cell? ⟨T,2,none⟩=some (.float .f64 x.x)/\wz.cell? ⟨T,3,none⟩=some (.int .i64 x.n)/\wz.cell? ⟨T,4,none⟩=some (.bool x.b)/\wz.cell? ⟨T,5,none⟩=some (.slice An x.names.length cn)/\wz.cell? ⟨T,6,none⟩=some (.slice Ak x.kids.length ck))
   (first|exact HVB.out _ (below_drew (bR _ _))|exact HVB.out _ HB5.out|exact HVB.out _ HB6.out|exact HVB.out _ HB7.out|go_keep)
   (first
    |(go_at_call 6;refine(Pa.short_pr x HWT.out HOK.out _ An cn Ak ck (HNK.out.below (below_drew (bR _ _)))).mono ?_;rintro e w5 ⟨u,rfl,hR,hb⟩;obtain⟨A5,c5,rfl⟩:=Kd.R_slice hR;have HC5:=aM (Kd.R_reads' hR);have HB5:=aM ((below_drew (bR wa.heap.size wa)).trans hb);clear hR hb)
    |(go_at_call 5;refine(Pa.spread_q A5 c5 (Pa.toks x) A cg gs w5 HC5.out.2.2 (Kd.C_below HG.out (HWA.out.trans (HB5.out.mono HWA.out.size))) HF.out HLN.out (Pa.tl_size HTL.out)).mono ?_;rintro e w6 ⟨rfl,hb⟩;have HB6:=aM (HB5.out.trans (hb.mono HB5.out.size));clear hb)
    |(go_at_call 7;refine(Pa.printShort_q x HWT.out HOK.out w6 An cn Ak ck (HNK.out.below HB6.out)).mono ?_;rintro e w7 ⟨rfl,hb⟩;have HB7:=aM (HB6.out.trans (hb.mono HB6.out.size));clear hb))
  have hb7:Below w.heap.size w w7:=HWA.out.trans (HB7.out.mono HWA.out.size);have HB:=aM hb7;clear hb7 HB5 HB6 HC5;have L1:=aM (spr_lexd (res:=res) (fun s v h=>(HO.out.b s v h).1) gs (Pa.toks x) 0 ⟨#[]⟩ HTL.out);have L2:=aM (spr_lexd (res:=res) (fun s v h=>(HO.out.b s v h).1) [] (Pa.toks x) 0 ⟨#[]⟩ HTL.out);have N1:=aM (spr_no13 gs 0 ⟨#[]⟩ HTL.out);have N2:=aM (spr_no13 [] 0 ⟨#[]⟩ HTL.out);rw[<-spr_bytes gs 0 ⟨#[]⟩ HTL.out] at L1;rw[<-spr_bytes [] 0 ⟨#[]⟩ HTL.out] at L2;generalize strOfNums (Pa.spr gs 0 ⟨#[]⟩ (Pa.toks x))=t1 at L1 N1|-;generalize strOfNums (Pa.spr [] 0 ⟨#[]⟩ (Pa.toks x))=t2 at L2 N2|-;have HTQ:=aM (fun(tt:ByteArray) (wz:World) (hn:tt.size<=2000) (hc:∀y∈bytesOf tt,y≠13) (hl:Lexd res (bytesOf tt) ((Pa.toks x).map (tokF res))) (hz:Below w.heap.size w wz)=>tokens_q (w:=wz) tt _ pe hn hc hl (Nat.lt_of_lt_of_le H12.out hz.size) ((hz.cell (by show 2<w.heap.size;have:=H12.out;omega)).trans HE.out) (fun k hk=>HO.out.at_ H12.out hz k hk));clear HF HG HCG HE HO;go_wp2_with fail;refine(Go.Proofs.YtoimaaonloibfaaGreatDoor.Lx.lexemes_any t1 w7).mono ?_;rintro e w8 ⟨v8,c8,rfl,hb,hc8⟩;have HB8:=aM (HB.out.trans (hb.mono HB.out.size));have HB78:=aM (HB7.out.trans (hb.mono HB7.out.size));have HC8:=aM hc8;clear hb hc8 HB HB7;go_wp2_with fail;refine(Go.Proofs.YtoimaaonloibfaaGreatDoor.Lx.lexemes_any t2 w8).mono ?_;rintro e w9 ⟨v9,c9,rfl,hb,hc9⟩;have HB9:=aM (HB8.out.trans (hb.mono HB8.out.size));have HB79:=aM (HB78.out.trans (hb.mono HB78.out.size));have HC9:=aM hc9;clear hb hc9 HB8 HB78
  by_cases h8:c8=0
  ·by_cases h9:c9=0
   ·subst h8
    subst h9;have HS8:=aM (HC8.out rfl);have HS9:=aM (HC9.out rfl);clear HC8 HC9;go_wp2_with fail;refine(HTQ.out t1 w9 HS8.out N1.out L1.out HB9.out).mono ?_;rintro e w10 ⟨u1,ys1,rfl,hR1,hm1,hb⟩;obtain⟨A1,p1,rfl⟩:=Kd.R_slice hR1;have HR1:=aM (Kd.R_reads' hR1);have HM1:=aM hm1;have HB10:=aM (HB9.out.trans (hb.mono HB9.out.size));have HB710:=aM (HB79.out.trans (hb.mono HB79.out.size));clear hb hm1 hR1 HB9 HB79;go_wp2_with fail;refine(HTQ.out t2 w10 HS9.out N2.out L2.out HB10.out).mono ?_;rintro e w11 ⟨u2,ys2,rfl,hR2,hm2,hb⟩;obtain⟨A2,p2,rfl⟩:=Kd.R_slice hR2;have HR2:=aM (Kd.R_reads' hR2);have HM2:=aM hm2;have HB11:=aM (HB10.out.trans (hb.mono HB10.out.size));have HB711:=aM (HB710.out.trans (hb.mono HB710.out.size));have HR1b:=aM (Kd.C_below HR1.out.2.2 hb);clear hb hm2 hR2 HB10 HB710;have hlen:ys2.length=(Pa.toks x).length:=by have:=congrArg List.length HM2.out;simpa using this
    obtain⟨v0,v1,v2,v3,v4,v5,v6⟩:=HVB.out w11 HB711.out;go_wp2_with fail;refine(Pa.short_pr x HWT.out HOK.out w11 An cn Ak ck (HNK.out.below HB711.out)).mono ?_;rintro e w12 ⟨u6,rfl,hR,hb⟩;obtain⟨A6,c6,rfl⟩:=Kd.R_slice hR;have HB12:=aM (HB11.out.trans (hb.mono HB11.out.size));have hsame:=same_q A1 p1 ys1 A2 p2 ys2 w12 (Kd.C_below HR1b.out hb) (Kd.C_below HR2.out.2.2 hb) (HM1.out.trans HM2.out.symm) (by have:=congrArg List.length HM1.out;simp at this;have:=HLN.out;omega);rw[hlen] at hsame;have HSM:=aM hsame;clear hsame hb hR v0 v1 v2 v3 v4 v5 v6;go_wp2_with fail;refine HSM.out.mono ?_;rintro e w13 ⟨rfl,hb⟩;have HB13:=aM (HB12.out.trans (hb.mono HB12.out.size));clear hb;go_wp2_with fail;go_ret;exact⟨rfl,HB13.out⟩
   ·have h9b:(c9==0)=false:=beq_eq_false_iff_ne.2 h9
    have h9c:(c9 != 0)=true:=bne_iff_ne.2 h9;subst h8;go_wp2_with fail;go_ret;exact⟨rfl,HB9.out⟩
  ·have h8b:(c8==0)=false:=beq_eq_false_iff_ne.2 h8
   have h8c:(c8 != 0)=true:=bne_iff_ne.2 h8;go_wp2_with fail;go_ret;exact⟨rfl,HB9.out⟩
 ·have h3b:(c==0)=false:=beq_eq_false_iff_ne.2 h3
  have h3c:(c != 0)=true:=bne_iff_ne.2 h3;clear hc;go_wp2_with fail;go_ret;exact⟨rfl,bA HB1.out _⟩
end
end Go.Proofs.YtoimaaonloibfaaGreatDoor.Tk
