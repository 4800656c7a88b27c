/- FnTokensSpaced (part 6): joined texts of this seat: Rg, Rb, Yd, Yf, Rc, Rd, Rh, Ri. -/
import Derived.Test.YtoimaaonloibfaaGreatDoorG05
set_option linter.unusedVariables false
set_option linter.unusedSimpArgs false
set_option linter.constructorNameAsVariable false
set_option linter.unnecessarySimpa false
namespace Go.Proofs.YtoimaaonloibfaaGreatDoor.Rg
open Go Go.RowKit W1 W2
def okB(md:Region.Mode)(ops:Array Oper)(n:Nat):Bool:=
 (List.range ops.size).all fun i=>match ops[i]? with
  |none=>true
  |some o=>(match o.dst with|some d=>decide (d<n)|none=>false)&&o.after.toList.all (fun e=> !Region.binds md e||decide (e.on<i))&&o.guard.isNone&&(List.range ops.size).all (fun j=>i==j||match ops[j]? with|none=>true|some p=>p.dst != o.dst)
section
variable {P:Program} {ops:Array Oper} {Q:Exit->Act->World->Prop} {md:Region.Mode} {n:Nat}
theorem okB_op(h:okB md ops n=true){i:Nat}{o:Oper}(hi:ops[i]? = some o):
  ∃d,o.dst=some d/\d<n/\(∀e∈o.after,Region.binds md e=true->e.on<i)/\o.guard=none/\∀(j:Nat) (p:Oper),ops[j]? = some p->j≠i->p.dst≠o.dst:=by
 have hlt:i<ops.size:=(Array.getElem?_eq_some_iff.1 hi).1;have h1:=List.all_eq_true.1 h i (List.mem_range.2 hlt);rw[hi] at h1;simp only[Bool.and_eq_true] at h1;obtain⟨⟨⟨h1,h2⟩,h3⟩,h4⟩:=h1
 cases hd:o.dst with
 |none=>rw[hd] at h1;cases h1
 |some d=>
  rw[hd] at h1;refine⟨d,rfl,of_decide_eq_true h1,fun e he hb=> ?_,Option.isNone_iff_eq_none.1 h3,fun j p hj hne=> ?_⟩
  ·have:=List.all_eq_true.1 h2 e (Array.mem_toList_iff.2 he)
   rw[hb] at this
   simpa using this
  ·have hlj:j<ops.size:=(Array.getElem?_eq_some_iff.1 hj).1
   have:=List.all_eq_true.1 h4 j (List.mem_range.2 hlj);rw[hj] at this;simp only[Bool.or_eq_true,beq_iff_eq,bne_iff_ne] at this;rcases this with h|h
   ·exact absurd h.symm hne
   ·rw[<-hd]
    exact h
def reachB(md:Region.Mode)(ops:Array Oper):Nat->Nat->Nat->Bool
 |0,_,_=>false
 |k+1,j,i=>match ops[j]? with
  |none=>false
  |some p=>p.after.toList.any fun e=>Region.binds md e&&(e.on==i||reachB md ops k e.on i)
theorem reach_listed{listed:Array Bool}(hc:∀(j:Nat) (p:Oper),ops[j]? = some p->listed.getD j false=true->∀e∈p.after,Region.binds md e=true->listed.getD e.on false=true):
  ∀(k j i:Nat),reachB md ops k j i=true->listed.getD j false=true->listed.getD i false=true:=by
 intro k
 induction k with
 |zero=>intro j i h _;cases h
 |succ k ih=>
  intro j i h hl;unfold reachB at h
  cases hj:ops[j]? with
  |none=>rw[hj] at h;cases h
  |some p=>
   rw[hj] at h;obtain⟨e,he,h2⟩:=List.any_eq_true.1 h;simp only[Bool.and_eq_true,Bool.or_eq_true,beq_iff_eq] at h2;have h3:=hc j p hj hl e (Array.mem_toList_iff.1 he) h2.1;rcases h2.2 with h4|h4
   ·rw[<-h4];exact h3
   ·exact ih e.on i h4 h3
structure Gr(md:Region.Mode)(ops:Array Oper)(T0:Array Value)(w0:World)(R:Nat->Value->World->Prop)(listed:Array Bool)(a:Act)(w:World):Prop where
 b:Below w0.heap.size w0 w
 d:a.defers=[]
 s:a.tmps.size=T0.size
 o:∀t,(∀(j:Nat) (p:Oper),ops[j]? = some p->p.dst=some t->listed.getD j false=false)->a.tmps[t]? = T0[t]?
 r:∀(j:Nat) (p:Oper) (d:Tmp),ops[j]? = some p->p.dst=some d->listed.getD j false=true->∃v,a.tmps[d]? = some v/\R j v w
 l:listed.size=ops.size
 c:∀(j:Nat) (p:Oper),ops[j]? = some p->listed.getD j false=true->∀e∈p.after,Region.binds md e=true->listed.getD e.on false=true
def left(listed:Array Bool):Nat:=listed.toList.count false
theorem left_set{listed:Array Bool}{i:Nat}(h:listed.getD i true=false):left (listed.setIfInBounds i true)+1=left listed:=by
 obtain⟨l⟩:=listed;unfold left;simp only[Array.getD_eq_getD_getElem?,List.getElem?_toArray] at h;simp only[List.setIfInBounds_toArray] at *
 induction l generalizing i with
 |nil=>simp at h
 |cons x r ih=>
  cases i with
  |zero=>
   simp at h;subst h;simp
  |succ i=>
   simp only[List.getElem?_cons_succ] at h;have:=ih h;simp only[List.set_cons_succ,List.count_cons];omega
theorem left_zero{listed:Array Bool}(h:left listed=0)(i:Nat):listed.getD i true=true:=by
 obtain⟨l⟩:=listed;unfold left at h;rw[List.count_eq_zero] at h;simp only[Array.getD_eq_getD_getElem?,List.getElem?_toArray]
 cases hx:l[i]? with
 |none=>rfl
 |some b=>
  cases b with
  |true=>rfl
  |false=>exact absurd (List.mem_of_getElem? hx) h
theorem getD_flip{listed:Array Bool}{i:Nat}(h:listed.getD i true=false):i<listed.size:=by
 rcases Nat.lt_or_ge i listed.size with h2|h2
 ·exact h2
 ·simp[Array.getD_eq_getD_getElem?,h2] at h
theorem all_listed{listed:Array Bool}(hok:okB md ops n=true)(hl:listed.size=ops.size)(h:Region.ready md ops listed=[]):∀i,i<ops.size->listed.getD i false=true:=by
 intro i
 induction i using Nat.strongRecOn with
 |ind i ih=>
  intro hi;have ho:ops[i]? = some ops[i]:=Array.getElem?_eq_getElem hi;obtain⟨d,_,_,he,_,_⟩:=okB_op hok ho;have hn:i∉Region.ready md ops listed:=by rw[h];simp
  have hlt:i<listed.size:=by omega
  cases hb:listed.getD i false with
  |true=>rfl
  |false=>
   refine absurd (mem_ready.2 ⟨?_,ops[i],ho,fun e hm hbd=>ih e.on (he e hm hbd) (by have:=he e hm hbd;omega)⟩) hn
   simpa[Array.getD_eq_getD_getElem?,hlt] using hb
def Step(P:Program)(ops:Array Oper)(Q:Exit->Act->World->Prop)(md:Region.Mode)(T0:Array Value)(w0:World)(R:Nat->Value->World->Prop)(i:Nat)(o:Oper):Prop:=
 ∀(a:Act) (w:World),Below w0.heap.size w0 w->(∀t,(∀(j:Nat) (p:Oper),ops[j]? = some p->p.dst=some t->reachB md ops ops.size j i=true)->a.tmps[t]? = T0[t]?)->
  (∀(j:Nat) (p:Oper) (d:Tmp),(∃e,e∈o.after/\Region.binds md e=true/\e.on=j)->ops[j]? = some p->p.dst=some d->∃v,a.tmps[d]? = some v/\R j v w)->
  o.wp P a w (fun a' w'=>∃v,a'=a.put o.dst v/\Below w.heap.size w w'/\R i v w') Q
theorem wpAny_grow{T0:Array Value}{w0:World}{R:Nat->Value->World->Prop}(hok:okB md ops T0.size=true)(hst:∀i v w w',R i v w->Below w.heap.size w w'->R i v w')
  (hstep:∀i o,ops[i]? = some o->Step P ops Q md T0 w0 R i o)
  (hfin:∀a w,Below w0.heap.size w0 w->a.defers=[]->a.tmps.size=T0.size->(∀t,(∀(j:Nat) (p:Oper),ops[j]? = some p->p.dst≠some t)->a.tmps[t]? = T0[t]?)->(∀(j:Nat) (p:Oper) (d:Tmp),ops[j]? = some p->p.dst=some d->∃v,a.tmps[d]? = some v/\R j v w)->Q .normal a w):
  ∀(fuel:Nat) (listed:Array Bool) (a:Act) (w:World),left listed<=fuel->Gr md ops T0 w0 R listed a w->wpAny P md ops Q fuel listed a w:=by
 have done:∀(listed:Array Bool) (a:Act) (w:World),Gr md ops T0 w0 R listed a w->Region.ready md ops listed=[]->Q .normal a w:=fun listed a w hg hr=>
  hfin a w hg.b hg.d hg.s (fun t ht=>hg.o t (fun j p hj hd=>absurd hd (ht j p hj))) (fun j p d hj hd=>hg.r j p d hj hd (all_listed hok hg.l hr j (Array.getElem?_eq_some_iff.1 hj).1))
 intro fuel
 induction fuel with
 |zero=>
  intro listed a w hf hg;have hr:Region.ready md ops listed=[]:=by
   cases h:Region.ready md ops listed with
   |nil=>rfl
   |cons i r=>
    have hi:i∈Region.ready md ops listed:=by rw[h];simp
    have h2:=(mem_ready.1 hi).1;rw[left_zero (by omega)] at h2;cases h2
  exact⟨hr,done _ _ _ hg hr⟩
 |succ fuel ih=>
  intro listed a w hf hg;refine⟨done _ _ _ hg,fun i hi=> ?_⟩;obtain⟨hun,o,ho,hdep⟩:=mem_ready.1 hi;obtain⟨d,hd,hdn,hacy,hgd,hinj⟩:=okB_op hok ho;have hw:Region.wanted o (yielded ops a.tmps)=true:=by simp[Region.wanted,hgd]
  unfold Go.wpOp;simp only[ho,hw,if_true];refine .inl (Oper.wp_mono ?_ (hstep i o ho a w hg.b (fun t ht=>hg.o t (fun j p hj hd=>by
   cases hlj:listed.getD j false with
   |false=>rfl
   |true=>
    exfalso
    have h1:=reach_listed hg.c _ _ _ (ht j p hj hd) hlj;have h2:=getD_flip hun;simp[Array.getD_eq_getD_getElem?,h2] at h1 hun;rw[h1] at hun;cases hun)) ?_))
  ·rintro a' w' ⟨v,rfl,hb,hR⟩
   have hsz:d<a.tmps.size:=by rw[hg.s];exact hdn
   refine ih _ _ _ (by have:=left_set hun;omega) ⟨hg.b.trans (hb.mono hg.b.size),?_,?_,?_,?_,?_,?_⟩
   ·rw[hd]
    exact hg.d
   ·rw[hd]
    simpa[Act.put] using hg.s
   ·intro t ht
    have hil:(listed.setIfInBounds i true).getD i false=true:=by
     have h2:=getD_flip hun;rw[Array.getD_eq_getD_getElem?];simp[h2]
    have hne:d≠t:=fun e=>by
     have:=ht i o ho (by rw[hd,e]);rw[hil] at this;cases this
    rw[hd];simp only[Act.put,Array.getElem?_setIfInBounds_ne hne];refine hg.o t (fun j p hj hpd=> ?_);have h3:=ht j p hj hpd
    by_cases hji:j=i
    ·subst hji
     rw[hil] at h3;cases h3
    ·rw[Array.getD_eq_getD_getElem?,Array.getElem?_setIfInBounds_ne (Ne.symm hji),<-Array.getD_eq_getD_getElem?] at h3
     exact h3
   ·intro j p dj hj hdj hl
    rw[hd]
    by_cases hji:j=i
    ·subst hji
     have hpo:p=o:=Option.some.inj (hj.symm.trans ho);subst hpo;have hdd:dj=d:=Option.some.inj (hdj.symm.trans hd);subst hdd;exact⟨v,by simp[Act.put,hsz],hR⟩
    ·have hne:d≠dj:=fun e=>hinj j p hj hji (by rw[hdj,hd,e])
     have hl2:listed.getD j false=true:=by
      rw[<-hl];simp only[Array.getD_eq_getD_getElem?,Array.getElem?_setIfInBounds_ne (Ne.symm hji)]
     obtain⟨u,hu,hRu⟩:=hg.r j p dj hj hdj hl2;exact⟨u,by simp only[Act.put,Array.getElem?_setIfInBounds_ne hne];exact hu,hst j u w w' hRu hb⟩
   ·simpa using hg.l
   ·intro j p hj hl e he hbd
    have hmono:∀q,listed.getD q false=true->(listed.setIfInBounds i true).getD q false=true:=fun q hq=>by
     by_cases hqi:q=i
     ·subst hqi
      rw[Array.getD_eq_getD_getElem?];simp[getD_flip hun]
     ·rw[Array.getD_eq_getD_getElem?,Array.getElem?_setIfInBounds_ne (Ne.symm hqi),<-Array.getD_eq_getD_getElem?]
      exact hq
    by_cases hji:j=i
    ·subst hji
     have hpo:p=o:=Option.some.inj (hj.symm.trans ho);subst hpo;exact hmono _ (hdep e he hbd)
    ·rw[Array.getD_eq_getD_getElem?,Array.getElem?_setIfInBounds_ne (Ne.symm hji),<-Array.getD_eq_getD_getElem?] at hl
     exact hmono _ (hg.c j p hj hl e he hbd)
  ·rintro j p dj ⟨e,he,hbd,rfl⟩ hj hdj
   exact hg.r e.on p dj hj hdj (hdep e he hbd)
def Steps(S:Nat->Oper->Prop):Nat->List Oper->Prop
 |_,[]=>True
 |i,o::r=>S i o/\Steps S (i+1) r
theorem Steps.get{S:Nat->Oper->Prop}:∀(l:List Oper) (k i:Nat) (o:Oper),Steps S k l->l[i]? = some o->S (k+i) o
 |[],k,i,o,_,h=>by simp at h
 |x::r,k,0,o,h,hi=>by
  simp at hi;subst hi;exact h.1
 |x::r,k,i+1,o,h,hi=>by
  simp at hi;have:=Steps.get r (k+1) i o h.2 hi;rw[show k+(i+1)=k+1+i by omega];exact this
theorem wp_region_grow{id:Nat}{T0:Array Value}{w:World}{l:List Oper}(hm:P.follows .mixedOrders=true)(R:Nat->Value->World->Prop)(hok:okB .any l.toArray T0.size=true)(hst:∀i v w w',R i v w->Below w.heap.size w w'->R i v w')
  (hstep:Steps (Step P l.toArray Q .any T0 w.drew R) 0 l)
  (hfin:∀(a:Act) (w':World),Below w.heap.size w w'->a.defers=[]->a.tmps.size=T0.size->(∀t,(∀(j:Nat) (p:Oper),l.toArray[j]? = some p->p.dst≠some t)->a.tmps[t]? = T0[t]?)->(∀(j:Nat) (p:Oper) (d:Tmp),l.toArray[j]? = some p->p.dst=some d->∃v,a.tmps[d]? = some v/\R j v w')->Q .normal a w'):
  (Code.region id l.toArray true).wp P Q ⟨T0,[]⟩ w:=by
 refine wp_region_any hm (wpAny_grow (T0:=T0) (w0:=w.drew) (R:=R) hok hst (fun i o hi=> ?_) (fun a w' hb=>hfin a w' ?_) _ _ _ _ ?_ ?_)
 ·have:=Steps.get l 0 i o hstep (by simpa using hi)
  rwa[Nat.zero_add] at this
 ·exact(below_drew (bR _ _)).trans hb
 ·unfold left
  have:(Array.replicate l.toArray.size false).toList.count false<=(Array.replicate l.toArray.size false).toList.length:=List.count_le_length
  simpa using this
 ·refine⟨bR _ _,rfl,rfl,fun t _=>rfl,fun j p d hj hd hl=> ?_,by simp,fun j p hj hl=>by
   rw[Array.getD_eq_getD_getElem?,Array.getElem?_replicate] at hl
   split at hl<;>cases hl⟩
  have hlt:j<l.toArray.size:=(Array.getElem?_eq_some_iff.1 hj).1;rw[Array.getD_eq_getD_getElem?,Array.getElem?_replicate] at hl
  split at hl<;>cases hl
theorem wpOps_grow{T0:Array Value}{w0:World}{R:Nat->Value->World->Prop}(hok:okB md ops T0.size=true)(hst:∀i v w w',R i v w->Below w.heap.size w w'->R i v w')
  (hstep:∀i o,ops[i]? = some o->Step P ops Q md T0 w0 R i o)
  (hfin:∀a w,Below w0.heap.size w0 w->a.defers=[]->a.tmps.size=T0.size->(∀t,(∀(j:Nat) (p:Oper),ops[j]? = some p->p.dst≠some t)->a.tmps[t]? = T0[t]?)->(∀(j:Nat) (p:Oper) (d:Tmp),ops[j]? = some p->p.dst=some d->∃v,a.tmps[d]? = some v/\R j v w)->Q .normal a w):
  ∀(r k:Nat) (listed:Array Bool) (a:Act) (w:World),k+r=ops.size->(∀i,i<k->listed.getD i false=true)->(∀i,k<=i->i<ops.size->listed.getD i true=false)->Gr md ops T0 w0 R listed a w->wpOps P ops Q (List.range' k r) a w:=by
 intro r
 induction r with
 |zero=>
  intro k listed a w hk h1 h2 hg;simp only[List.range'_zero];simp only[wpOps];exact hfin a w hg.b hg.d hg.s (fun t ht=>hg.o t (fun j p hj hd=>absurd hd (ht j p hj))) (fun j p d hj hd=>hg.r j p d hj hd (h1 j (by have:=(Array.getElem?_eq_some_iff.1 hj).1;omega)))
 |succ r ih=>
  intro k listed a w hk h1 h2 hg;have hlt:k<ops.size:=by omega
  have ho:ops[k]? = some ops[k]:=Array.getElem?_eq_getElem hlt;obtain⟨d,hd,hdn,hacy,hgd,hinj⟩:=okB_op hok ho;have hw:Region.wanted ops[k] (yielded ops a.tmps)=true:=by simp[Region.wanted,hgd]
  rw[List.range'_succ,wpOps_cons];unfold Go.wpOp;simp only[ho,hw,if_true];refine .inl (Oper.wp_mono ?_ (hstep k _ ho a w hg.b (fun t ht=>hg.o t (fun j p hj hd=>by
   cases hlj:listed.getD j false with
   |false=>rfl
   |true=>
    exfalso
    have h3:=reach_listed hg.c _ _ _ (ht j p hj hd) hlj;have h4:=h2 k (Nat.le_refl _) hlt;have h5:=getD_flip h4;simp[Array.getD_eq_getD_getElem?,h5] at h3 h4;rw[h3] at h4;cases h4)) ?_))
  ·rintro a' w' ⟨v,rfl,hb,hR⟩
   have hsz:d<a.tmps.size:=by rw[hg.s];exact hdn
   have hll:k<listed.size:=by rw[hg.l];exact hlt
   refine ih (k+1) (listed.setIfInBounds k true) _ _ (by omega) (fun i hi=> ?_) (fun i hi hi2=> ?_) ⟨hg.b.trans (hb.mono hg.b.size),?_,?_,?_,?_,?_,?_⟩
   ·rw[Array.getD_eq_getD_getElem?]
    by_cases hik:k=i
    ·subst hik
     simp[hll]
    ·rw[Array.getElem?_setIfInBounds_ne hik,<-Array.getD_eq_getD_getElem?]
     exact h1 i (by omega)
   ·rw[Array.getD_eq_getD_getElem?,Array.getElem?_setIfInBounds_ne (by omega),<-Array.getD_eq_getD_getElem?]
    exact h2 i (by omega) hi2
   ·rw[hd]
    exact hg.d
   ·rw[hd]
    simpa[Act.put] using hg.s
   ·intro t ht
    have hil:(listed.setIfInBounds k true).getD k false=true:=by
     rw[Array.getD_eq_getD_getElem?];simp[hll]
    have hne:d≠t:=fun e=>by
     have:=ht k _ ho (by rw[hd,e]);rw[hil] at this;cases this
    rw[hd];simp only[Act.put,Array.getElem?_setIfInBounds_ne hne];refine hg.o t (fun j p hj hpd=> ?_);have h3:=ht j p hj hpd
    by_cases hji:j=k
    ·subst hji
     rw[hil] at h3;cases h3
    ·rw[Array.getD_eq_getD_getElem?,Array.getElem?_setIfInBounds_ne (Ne.symm hji),<-Array.getD_eq_getD_getElem?] at h3
     exact h3
   ·intro j p dj hj hdj hl
    rw[hd]
    by_cases hji:j=k
    ·subst hji
     have hpo:p=ops[j]:=Option.some.inj (hj.symm.trans ho);subst hpo;have hdd:dj=d:=Option.some.inj (hdj.symm.trans hd);subst hdd;exact⟨v,by simp[Act.put,hsz],hR⟩
    ·have hne:d≠dj:=fun e=>hinj j p hj hji (by rw[hdj,hd,e])
     have hl2:listed.getD j false=true:=by
      rw[<-hl];simp only[Array.getD_eq_getD_getElem?,Array.getElem?_setIfInBounds_ne (Ne.symm hji)]
     obtain⟨u,hu,hRu⟩:=hg.r j p dj hj hdj hl2;exact⟨u,by simp only[Act.put,Array.getElem?_setIfInBounds_ne hne];exact hu,hst j u w w' hRu hb⟩
   ·simpa using hg.l
   ·intro j p hj hl e he hbd
    have hmono:∀q,listed.getD q false=true->(listed.setIfInBounds k true).getD q false=true:=fun q hq=>by
     by_cases hqi:q=k
     ·subst hqi
      rw[Array.getD_eq_getD_getElem?];simp[hll]
     ·rw[Array.getD_eq_getD_getElem?,Array.getElem?_setIfInBounds_ne (Ne.symm hqi),<-Array.getD_eq_getD_getElem?]
      exact hq
    by_cases hji:j=k
    ·subst hji
     have hpo:p=ops[j]:=Option.some.inj (hj.symm.trans ho);subst hpo;exact hmono _ (h1 _ (hacy e he hbd))
    ·rw[Array.getD_eq_getD_getElem?,Array.getElem?_setIfInBounds_ne (Ne.symm hji),<-Array.getD_eq_getD_getElem?] at hl
     exact hmono _ (hg.c j p hj hl e he hbd)
  ·rintro j p dj ⟨e,he,hbd,rfl⟩ hj hdj
   exact hg.r e.on p dj hj hdj (h1 _ (hacy e he hbd))
theorem wp_region_grow_seq{id:Nat}{T0:Array Value}{w:World}{l:List Oper}(R:Nat->Value->World->Prop)(hok:okB .any l.toArray T0.size=true)(hst:∀i v w w',R i v w->Below w.heap.size w w'->R i v w')
  (hstep:Steps (Step P l.toArray Q .any T0 w R) 0 l)
  (hfin:∀(a:Act) (w':World),Below w.heap.size w w'->a.defers=[]->a.tmps.size=T0.size->(∀t,(∀(j:Nat) (p:Oper),l.toArray[j]? = some p->p.dst≠some t)->a.tmps[t]? = T0[t]?)->(∀(j:Nat) (p:Oper) (d:Tmp),l.toArray[j]? = some p->p.dst=some d->∃v,a.tmps[d]? = some v/\R j v w')->Q .normal a w'):
  (Code.region id l.toArray false).wp P Q ⟨T0,[]⟩ w:=by
 refine wp_region ?_;have hg0:Gr .any l.toArray T0 w R (Array.replicate l.toArray.size false) ⟨T0,[]⟩ w:=by
  refine⟨bR _ _,rfl,rfl,fun t _=>rfl,fun j p d hj hd hl=> ?_,by simp,fun j p hj hl=>by
   rw[Array.getD_eq_getD_getElem?,Array.getElem?_replicate] at hl
   split at hl<;>cases hl⟩
  rw[Array.getD_eq_getD_getElem?,Array.getElem?_replicate] at hl
  split at hl<;>cases hl
 have hs:∀i o,l.toArray[i]? = some o->Step P l.toArray Q .any T0 w R i o:=fun i o hi=>by
  have:=Steps.get l 0 i o hstep (by simpa using hi)
  rwa[Nat.zero_add] at this
 have:=wpOps_grow (P:=P) (Q:=Q) (md:= .any) (T0:=T0) (w0:=w) (R:=R) hok hst hs hfin l.toArray.size 0 (Array.replicate l.toArray.size false) ⟨T0,[]⟩ w (by omega) (fun i hi=>by omega) (fun i _ hi=>by rw[Array.getD_eq_getD_getElem?,Array.getElem?_replicate,if_pos hi];rfl) hg0
 rwa[<-List.range_eq_range'] at this
end
end Go.Proofs.YtoimaaonloibfaaGreatDoor.Rg
namespace Go.Proofs.YtoimaaonloibfaaGreatDoor.Pa
open Go.RowKit W1 W2 PF Wf Lx Rg
def kid(x:Nd)(i:Nat):Nd:=x.kids.getD i zNd
def identB:List Int->Bool
 |[]=>false
 |x::r=>isLt x&&r.all isWy
def pIsName(y:Nd):Bool:=y.k==24&&identB (bytesOf y.s)&& !isw y.s&& !(bytesOf y.s==gotoL)
def pIsPath:Nat->Nd->Bool
 |0,_=>false
 |m+1,y=>if y.k==28&&pIsName (kid y 1) then pIsPath m (kid y 0) else y.k==27
def pJ(ls:List (List ByteArray)):List ByteArray:=ls.flatten
def tOpen:ByteArray:=⟨#[40]⟩
def sBody(R:Srt->Nd->List ByteArray)(n:Nd)(ns:List ByteArray):List ByteArray:=
 [[⟨#[40]⟩],(if n.b=true then(if ns=[] then pNames ns else pNames ns++[⟨#[44]⟩])++[⟨#[46,46,46]⟩] else pNames ns),[⟨#[41]⟩],R .b (kid n 0),[⟨#[101,110,100]⟩]].flatten
def sList(R:Srt->Nd->List ByteArray)(l:List Nd):List ByteArray:=pComma (l.map (R .e))
def sArgs(R:Srt->Nd->List ByteArray)(l:List Nd):List ByteArray:=
 if l.length=1/\((l.getD 0 zNd).k=24\/(l.getD 0 zNd).k=34) then R .e (l.getD 0 zNd) else [[⟨#[40]⟩],sList R l,[⟨#[41]⟩]].flatten
def sField(R:Srt->Nd->List ByteArray)(y:Nd):List ByteArray:=
 if y.k=36/\pIsName (kid y 0)=true then [(kid y 0).s,⟨#[61]⟩]++R .e (kid y 1)
 else if y.k=36 then [⟨#[91]⟩]++R .e (kid y 0)++[⟨#[93]⟩,⟨#[61]⟩]++R .e (kid y 1)
 else R .e (kid y 0)
def sFields(R:Srt->Nd->List ByteArray)(l:List Nd):List ByteArray:=pComma (l.map (sField R))
def sE(R:Srt->Nd->List ByteArray)(n:Nd):List ByteArray:=
 if n.k=20 then [⟨#[110,105,108]⟩]
 else if n.k=21 then [⟨#[116,114,117,101]⟩]
 else if n.k=22 then [⟨#[102,97,108,115,101]⟩]
 else if n.k=23\/n.k=27 then [n.s]
 else if n.k=24 then [quo n.s]
 else if n.k=25 then [⟨#[46,46,46]⟩]
 else if n.k=26 then [[⟨#[102,117,110,99,116,105,111,110]⟩],sBody R n n.names].flatten
 else if n.k=28 then(if pIsName (kid n 1)=true then [R .e (kid n 0),[⟨#[46]⟩,(kid n 1).s]].flatten else [R .e (kid n 0),[⟨#[91]⟩],R .e (kid n 1),[⟨#[93]⟩]].flatten)
 else if n.k=29 then [R .e (kid n 0),sArgs R (n.kids.drop 1)].flatten
 else if n.k=30 then [R .e (kid n 0),[⟨#[58]⟩,n.s],sArgs R (n.kids.drop 1)].flatten
 else if n.k=31 then [R .e (kid n 0),[n.s],R .e (kid n 1)].flatten
 else if n.k=32 then [[n.s],R .e (kid n 0)].flatten
 else if n.k=33 then [[⟨#[40]⟩],R .e (kid n 0),[⟨#[41]⟩]].flatten
 else [[⟨#[123]⟩],sFields R n.kids,[⟨#[125]⟩]].flatten
def sBlock(R:Srt->Nd->List ByteArray)(n:Nd):List ByteArray:=(n.kids.map fun y=>R .s y++[⟨#[59]⟩]).flatten
def sNamed(R:Srt->Nd->List ByteArray)(t n:Nd):List ByteArray:=
 if t.k=28/\n.names.head? = some ⟨#[115,101,108,102]⟩ then [[⟨#[102,117,110,99,116,105,111,110]⟩],R .e (kid t 0),[⟨#[58]⟩,(kid t 1).s],sBody R n (n.names.drop 1)].flatten
 else [[⟨#[102,117,110,99,116,105,111,110]⟩],R .e t,sBody R n n.names].flatten
def sPairs(R:Srt->Nd->List ByteArray):ByteArray->List Nd->List ByteArray
 |w,c::b::r=>[[w],R .e c,[⟨#[116,104,101,110]⟩],R .b b].flatten++sPairs R ⟨#[101,108,115,101,105,102]⟩ r
 |_,[b]=>[[⟨#[101,108,115,101]⟩],R .b b].flatten
 |_,[]=>[]
def sBranch(R:Srt->Nd->List ByteArray)(n:Nd):List ByteArray:=sPairs R ⟨#[105,102]⟩ n.kids++[⟨#[101,110,100]⟩]
def sS(R:Srt->Nd->List ByteArray)(n:Nd):List ByteArray:=
 if n.k=2 then(if n.kids=[] then [[⟨#[108,111,99,97,108]⟩],pNames n.names].flatten else [[[⟨#[108,111,99,97,108]⟩],pNames n.names].flatten,[⟨#[61]⟩],sList R n.kids].flatten)
 else if n.k=3 then(if n.n=1/\n.kids.length=2/\(kid n 1).k=26/\pIsPath (kid n 0).wt (kid n 0)=true then sNamed R (kid n 0) (kid n 1) else [sList R (n.kids.take n.n.toNat),[⟨#[61]⟩],sList R (n.kids.drop n.n.toNat)].flatten)
 else if n.k=4 then R .e (kid n 0)
 else if n.k=5 then [[⟨#[100,111]⟩],R .b (kid n 0),[⟨#[101,110,100]⟩]].flatten
 else if n.k=6 then [[⟨#[119,104,105,108,101]⟩],R .e (kid n 0),[⟨#[100,111]⟩],R .b (kid n 1),[⟨#[101,110,100]⟩]].flatten
 else if n.k=7 then [[⟨#[114,101,112,101,97,116]⟩],R .b (kid n 0),[⟨#[117,110,116,105,108]⟩],R .e (kid n 1)].flatten
 else if n.k=8 then sBranch R n
 else if n.k=9 then [[⟨#[102,111,114]⟩,n.names.getD 0 ⟨#[]⟩,⟨#[61]⟩],sList R (n.kids.take n.n.toNat),[⟨#[100,111]⟩],R .b (kid n n.n.toNat),[⟨#[101,110,100]⟩]].flatten
 else if n.k=10 then [[⟨#[102,111,114]⟩],pNames n.names,[⟨#[105,110]⟩],sList R (n.kids.take n.n.toNat),[⟨#[100,111]⟩],R .b (kid n n.n.toNat),[⟨#[101,110,100]⟩]].flatten
 else if n.k=11 then [[⟨#[108,111,99,97,108]⟩,⟨#[102,117,110,99,116,105,111,110]⟩,n.names.getD 0 ⟨#[]⟩],sBody R (kid n 0) (kid n 0).names].flatten
 else if n.k=12 then [[⟨#[114,101,116,117,114,110]⟩],sList R n.kids].flatten
 else [⟨#[98,114,101,97,107]⟩]
def pr:Nat->Srt->Nd->List ByteArray
 |0,_,_=>[]
 |m+1,.e,n=>sE (pr m) n
 |m+1,.s,n=>sS (pr m) n
 |m+1,.b,n=>sBlock (pr m) n
 |m+1,.f,n=>[]
def OutR(w:World)(l:List ByteArray)(e:Ending)(w':World):Prop:=∃u:Value,e = .returned u/\NR w' w.heap.size u l/\Below w.heap.size w w'
def PC(f:FuncId)(m:Nat)(s:Srt)(out:Nd->List ByteArray):Prop:=∀x,x.wt<=m->Ok True s x->∀(w:World) (An:Option Addr) (cn:Nat) (Ak:Option Addr) (ck:Nat),NK w x An cn Ak ck->
 Calls Tryz.prog f #[.bool true,.agg #[.int .i64 x.k,.string x.s,.float .f64 x.x,.int .i64 x.n,.bool x.b,(.slice An x.names.length cn),(.slice Ak x.kids.length ck)]] w fun e w'=>OutR w (out x) e w'
structure PA(m:Nat):Prop where
 e:PC 65 m .e (pr m .e)
 s:PC 28 m .s (pr m .s)
 b:PC 13 m .b (pr m .b)
inductive Sp where
 |eq (v:Value)
 |row (l:List ByteArray)
 |rows (ls:List (List ByteArray))
def Sp.holds(b:Nat):Sp->Value->World->Prop
 | .eq u,v,_=>v=u
 | .row l,v,w=>NR w b v l
 | .rows ls,v,w=>LR w b v ls
theorem LR.below{w w':World}{b:Nat}{v:Value}{ls:List (List ByteArray)}(h:LR w b v ls)(hb:Below w.heap.size w w'):LR w' b v ls:=Kd.R_below h hb
theorem Sp.keep{b:Nat}{s:Sp}{v:Value}{w w':World}(h:s.holds b v w)(hb:Below w.heap.size w w'):s.holds b v w':=by
 cases s with
 |eq u=>exact h
 |row l=>exact NR.below h hb
 |rows ls=>exact LR.below h hb
def freeB(ops:Array Oper)(t:Tmp):Bool:=ops.toList.all fun p=>p.dst != some t
theorem free_of{ops:Array Oper}{t:Tmp}(h:freeB ops t=true)(j:Nat)(p:Oper)(hp:ops[j]? = some p):p.dst≠some t:=by
 have:=List.all_eq_true.1 h p (Array.mem_toList_iff.2 (Array.mem_of_getElem? hp))
 simpa using this
def freeAtB(ops:Array Oper)(i:Nat)(t:Tmp):Bool:=(List.range ops.size).all fun j=>match ops[j]? with
 |none=>true
 |some p=>p.dst != some t||reachB .any ops ops.size j i
theorem free_at_of{ops:Array Oper}{i:Nat}{t:Tmp}(h:freeAtB ops i t=true)(j:Nat)(p:Oper)(hp:ops[j]? = some p)(hd:p.dst=some t):reachB .any ops ops.size j i=true:=by
 have hlt:j<ops.size:=(Array.getElem?_eq_some_iff.1 hp).1;have:=List.all_eq_true.1 h j (List.mem_range.2 hlt);rw[hp] at this
 simpa[hd] using this
def needsB(o:Oper)(j:Nat):Bool:=o.after.toList.any fun e=>Region.binds .any e&&e.on==j
theorem needs_of{o:Oper}{j:Nat}(h:needsB o j=true):∃e,e∈o.after/\Region.binds .any e=true/\e.on=j:=by
 obtain⟨e,he,h2⟩:=List.any_eq_true.1 h;simp only[Bool.and_eq_true,beq_iff_eq] at h2;exact⟨e,Array.mem_toList_iff.1 he,h2.1,h2.2⟩
def StepS(Q:Exit->Act->World->Prop)(ops:Array Oper)(T0:Array Value)(w0:World)(b:Nat)(specs:List Sp)(i:Nat)(o:Oper):Prop:=
 ∀(a:Act) (w:World),Below w0.heap.size w0 w->(∀t,freeAtB ops i t=true->a.tmps[t]? = T0[t]?)->
  (∀(j:Nat) (p:Oper) (d:Tmp),needsB o j=true->ops[j]? = some p->p.dst=some d->∃v,a.tmps[d]? = some v/\(specs.getD j (.eq undef)).holds b v w)->
  o.wp Tryz.prog a w (fun a' w'=>∃v,a'=a.put o.dst v/\Below w.heap.size w w'/\(specs.getD i (.eq undef)).holds b v w') Q
theorem wp_region_specs{Q:Exit->Act->World->Prop}{id:Nat}{T0:Array Value}{w:World}{l:List Oper}(specs:List Sp)(b:Nat)(hm:Tryz.prog.follows .mixedOrders=true)(hok:okB .any l.toArray T0.size=true)
  (hstep:Rg.Steps (StepS Q l.toArray T0 w b specs) 0 l)
  (hfin:∀(a:Act) (w':World),Below w.heap.size w w'->a.defers=[]->a.tmps.size=T0.size->(∀t,freeB l.toArray t=true->a.tmps[t]? = T0[t]?)->(∀(j:Nat) (p:Oper) (d:Tmp),l.toArray[j]? = some p->p.dst=some d->∃v,a.tmps[d]? = some v/\(specs.getD j (.eq undef)).holds b v w')->Q .normal a w'):
  (Code.region id l.toArray true).wp Tryz.prog Q ⟨T0,[]⟩ w:=by
 refine wp_region_grow hm (fun i=>(specs.getD i (.eq undef)).holds b) hok (fun i v w w' h hb=>Sp.keep h hb) ?_ (fun a w' hb hd hs ho hr=>hfin a w' hb hd hs (fun t ht=>ho t (free_of ht)) hr);have key:∀(r:List Oper) (k:Nat),Rg.Steps (StepS Q l.toArray T0 w b specs) k r->Rg.Steps (Step Tryz.prog l.toArray Q .any T0 w.drew (fun i=>(specs.getD i (.eq undef)).holds b)) k r:=by
  intro r
  induction r with
  |nil=>intro k _;trivial
  |cons o r ih=>
   intro k h;refine⟨fun a w' hb ho hr=>h.1 a w' ?_ (fun t ht=>ho t (free_at_of ht)) (fun j p d hn=>hr j p d (needs_of hn)),ih _ h.2⟩;exact(below_drew (bR _ _)).trans hb
 exact key l 0 hstep
theorem wp_region_specs_seq{Q:Exit->Act->World->Prop}{id:Nat}{T0:Array Value}{w:World}{l:List Oper}(specs:List Sp)(b:Nat)(hok:okB .any l.toArray T0.size=true)
  (hstep:Rg.Steps (StepS Q l.toArray T0 w b specs) 0 l)
  (hfin:∀(a:Act) (w':World),Below w.heap.size w w'->a.defers=[]->a.tmps.size=T0.size->(∀t,freeB l.toArray t=true->a.tmps[t]? = T0[t]?)->(∀(j:Nat) (p:Oper) (d:Tmp),l.toArray[j]? = some p->p.dst=some d->∃v,a.tmps[d]? = some v/\(specs.getD j (.eq undef)).holds b v w')->Q .normal a w'):
  (Code.region id l.toArray false).wp Tryz.prog Q ⟨T0,[]⟩ w:=by
 refine wp_region_grow_seq (fun i=>(specs.getD i (.eq undef)).holds b) hok (fun i v w w' h hb=>Sp.keep h hb) ?_ (fun a w' hb hd hs ho hr=>hfin a w' hb hd hs (fun t ht=>ho t (free_of ht)) hr);have key:∀(r:List Oper) (k:Nat),Rg.Steps (StepS Q l.toArray T0 w b specs) k r->Rg.Steps (Step Tryz.prog l.toArray Q .any T0 w (fun i=>(specs.getD i (.eq undef)).holds b)) k r:=by
  intro r
  induction r with
  |nil=>intro k _;trivial
  |cons o r ih=>
   intro k h;exact⟨fun a w' hb ho hr=>h.1 a w' hb (fun t ht=>ho t (free_at_of ht)) (fun j p d hn=>hr j p d (needs_of hn)),ih _ h.2⟩
 exact key l 0 hstep
theorem NR.lits(wr:World)(b:Nat)(hb:b<=wr.heap.size)(ss:List ByteArray)(hl:ss.length<=1000):NR (wr.alloc (.cells (ss.map Value.string).toArray 9)) b (.slice (some ⟨wr.heap.size,0,none⟩) ss.length ss.length) ss:=
 R_litd Kd.string wr b 9 (xs:=ss) (inner:=ss.map Value.string) (okp:=fun _=>True) (Kd.reps_scalar ss) (fun _ _=>trivial) trivial hb (by omega)
def LRs(w:World)(b:Nat)(ps:List (Value×List ByteArray)):Prop:=∀p∈ps,NR w b p.1 p.2
theorem LRs.nil{w:World}{b:Nat}:LRs w b []:=fun p h=>by simp at h
theorem LRs.cons{w:World}{b:Nat}{v:Value}{l:List ByteArray}{ps:List (Value×List ByteArray)}(h:NR w b v l)(hs:LRs w b ps):LRs w b ((v,l)::ps):=fun p hp=>by
 rcases List.mem_cons.1 hp with rfl|hp
 ·exact h
 ·exact hs p hp
theorem LR.lit{wr:World}{b:Nat}{ps:List (Value×List ByteArray)}(hb:b<=wr.heap.size)(h:LRs wr b ps)(hl:ps.length<=1000):LR (wr.alloc (.cells (ps.map Prod.fst).toArray 24)) b (.slice (some ⟨wr.heap.size,0,none⟩) ps.length ps.length) (ps.map Prod.snd):=by
 have reps:∀qs:List (Value×List ByteArray),LRs wr b qs->Reps ((Kd.slice 9 Kd.string).M wr b (fun _=>True)) 1 (qs.map Prod.snd) (qs.map Prod.fst):=by
  intro qs
  induction qs with
  |nil=>intro _;exact Reps.none _ _
  |cons q r ih=>
   intro h;have h1:Reps ((Kd.slice 9 Kd.string).M wr b (fun _=>True)) 1 [q.2] [q.1]:=Reps.snoc (Reps.none _ _) ⟨q.1,rfl,h q (by simp)⟩ rfl;have:=Kd.reps_append h1 (ih (fun p hp=>h p (by simp[hp])))
   simpa using this
 have:=R_litd (Kd.slice 9 Kd.string) wr b 24 (xs:=ps.map Prod.snd) (inner:=ps.map Prod.fst) (okp:=fun _=>True) (ok:=fun _=>True) (reps ps h) (fun _ _=>trivial) trivial hb (by rw[List.length_map];omega);rw[List.length_map] at this;exact this
def putl:List Oper->List Value->Array Value->Array Value
 |o::r,v::vs,T=>putl r vs (match o.dst with|some d=>T.setIfInBounds d v|none=>T)
 |_,_,T=>T
theorem putl_agree:∀(l:List Oper) (vs:List Value) (T T':Array Value),vs.length=l.length->T.size=T'.size->(∀t,(∀o∈l,o.dst≠some t)->T[t]? = T'[t]?)->putl l vs T=putl l vs T'
 |[],vs,T,T',_,hs,h=>by
  have:T=T':=Array.ext_getElem? (fun t=>h t (fun o ho=>by simp at ho));rw[this]
 |o::r,[],T,T',hl,_,_=>by simp at hl
 |o::r,v::vs,T,T',hl,hs,h=>by
  simp only[putl];refine putl_agree r vs _ _ (by simpa using hl) ?_ (fun t ht=> ?_)
  ·cases o.dst<;>simp[hs]
  ·cases hd:o.dst with
   |none=>exact h t (fun p hp=>by rcases List.mem_cons.1 hp with rfl|hp;(rw[hd];simp);exact ht p hp)
   |some d=>
    by_cases hdt:d=t
    ·subst hdt
     simp only[Array.getElem?_setIfInBounds_self,hs]
    ·simp only[Array.getElem?_setIfInBounds_ne hdt]
     exact h t (fun p hp=>by
      rcases List.mem_cons.1 hp with rfl|hp
      ·rw[hd]
       intro e;exact hdt (Option.some.inj e)
      ·exact ht p hp)
theorem putl_same:∀(l:List Oper) (vs:List Value) (T:Array Value),vs.length=l.length->(∀(j:Nat) (p:Oper) (d:Tmp),l[j]? = some p->p.dst=some d->T[d]? = some (vs.getD j undef))->putl l vs T=T
 |[],vs,T,_,_=>by cases vs<;>rfl
 |o::r,[],T,hl,_=>by simp at hl
 |o::r,v::vs,T,hl,h=>by
  simp only[putl];have e:(match o.dst with|some d=>T.setIfInBounds d v|none=>T)=T:=by
   cases hd:o.dst with
   |none=>rfl
   |some d=>
    have h1:T[d]? = some v:=h 0 o d rfl hd;refine Array.ext_getElem? (fun t=> ?_)
    by_cases hdt:d=t
    ·subst hdt
     have hlt:d<T.size:=(Array.getElem?_eq_some_iff.1 h1).1;simp only[Array.getElem?_setIfInBounds_self,hlt,if_true];exact h1.symm
    ·simp only[Array.getElem?_setIfInBounds_ne hdt]
  rw[e];exact putl_same r vs T (by simpa using hl) (fun j p d hj hd=>h (j+1) p d hj hd)
theorem act_of{l:List Oper}{T0:Array Value}{a:Act}{Rr:Nat->Value->Prop}(hd:a.defers=[])(hs:a.tmps.size=T0.size)(ho:∀t,freeB l.toArray t=true->a.tmps[t]? = T0[t]?)
  (hr:∀(j:Nat) (p:Oper) (d:Tmp),l.toArray[j]? = some p->p.dst=some d->∃v,a.tmps[d]? = some v/\Rr j v) (hall:(l.all fun p=>p.dst.isSome)=true):
  ∃vs:List Value,vs.length=l.length/\(∀j,j<l.length->Rr j (vs.getD j undef))/\a=⟨putl l vs T0,[]⟩:=by
 let vs:=l.map fun o=>(o.dst.bind (a.tmps[·]?)).getD undef
 have key:∀(j:Nat) (p:Oper) (d:Tmp),l[j]? = some p->p.dst=some d->a.tmps[d]? = some (vs.getD j undef)/\Rr j (vs.getD j undef):=fun j p d hj hpd=>by
  obtain⟨v,hv,hR⟩:=hr j p d (by simpa using hj) hpd;have e:vs.getD j undef=v:=by
   simp only[vs,List.getD_eq_getElem?_getD,List.getElem?_map,hj,Option.map_some,Option.getD_some,hpd,Option.bind_some,hv]
  rw[e];exact⟨hv,hR⟩
 refine⟨vs,by simp[vs],fun j hj=> ?_,?_⟩
 ·have hj2:l[j]? = some l[j]:=List.getElem?_eq_getElem hj
  have:=List.all_eq_true.1 hall l[j] (List.getElem_mem hj);obtain⟨d,hpd⟩:=Option.isSome_iff_exists.1 this;exact(key j _ d hj2 hpd).2
 ·have h1:=putl_same l vs a.tmps (by simp[vs]) (fun j p d hj hpd=>(key j p d hj hpd).1)
  have h2:=putl_agree l vs T0 a.tmps (by simp[vs]) hs.symm (fun t ht=>(ho t (by
   unfold freeB;rw[List.all_eq_true];intro p hp;have:=ht p (by simpa using hp)
   simpa using this)).symm)
  rw[h2,h1,<-hd]
end Go.Proofs.YtoimaaonloibfaaGreatDoor.Pa
namespace Go.Proofs.YtoimaaonloibfaaGreatDoor.Lx
open Go.RowKit W1 W2 PF Wf
structure Bs(w wr:World)(v:Value)(xs:List Int):Prop where
 b:Below w.heap.size w wr
 r:(Kd.int .u8).R 5 wr w.heap.size (fun _=>True) v xs
section
variable {w wr w1 w2:World} {v:Value} {xs:List Int}
variable {ops:Array Oper} {rest:List Oper} {o:Oper} {act:Act} {Q:Exit->Act->World->Prop}
theorem Bs.below(h:Bs w wr v xs)(hb:Below wr.heap.size wr w1):Bs w w1 v xs:=⟨h.b.trans (hb.mono h.b.size),Kd.R_below h.r hb⟩
theorem Bs.alloc(h:Bs w wr v xs)(o:Obj):Bs w (wr.alloc o) v xs:=h.below (bA (bR _ _) o)
theorem Bs.drewN(h:Bs w wr v xs)(n:Nat):Bs w (wr.drewN n) v xs:=h.below (pD (bR _ _) n)
theorem Bs.new(w:World):Bs w (w.alloc (.cells #[] 5)) (.slice (some ⟨w.heap.size,0,none⟩) 0 0) []:=⟨bA (bR _ _) _,R_nild _ w w.heap.size 5 trivial (Nat.le_refl _)⟩
theorem Bs.put(hgd:o.guard=none)(s x:Operand)(ho:o.op = .call {callee:= .builtin .append,args:= #[s,x],argTypes:= #[41,41]})
  (hs:act.eval s=v) {N:Nat} {c:Int} (hx:act.eval x = .slice (some ⟨N,0,none⟩) 1 1) (h:Bs w wr v xs) (hN:wr.heap.size=N) (hl:xs.length<=1000000000)
  (hK:∀v1 w1,Bs w w1 v1 (xs++[c])->wpList Tryz.prog ops Q rest (act.put o.dst v1) w1):
  wpList Tryz.prog ops Q (o::rest) act (wr.alloc (.cells #[.int .u8 c] 5)):=by
 subst hN;refine Kd.R_append (P:=Tryz.prog) (Kd.int .u8) (w0:=w) w.heap.size hgd s x 41 5 (.int .u8 0) 1 ho Tryz.underlying41 info5 rfl (by decide) (by omega) v xs c [.int .u8 c] (fun _=>True) (fun _=>False) hs hx rfl (fun _ hk=>hk.elim) (fun _ _=>trivial) h.r h.b h.b.size (by omega) ?_;intro v1 w1 hR hb hg _;exact hK v1 w1 ⟨hb,hR⟩
theorem Bs.rows(hgd:o.guard=none)(s x:Operand)(ho:o.op = .call {callee:= .builtin .append,args:= #[s,x],argTypes:= #[41,41]})
  (hs:act.eval s=v) {N:Nat} (ys:List Int) (hx:act.eval x = .slice (some ⟨N,0,none⟩) ys.length ys.length) (hy:ys.length<=1000) (h:Bs w wr v xs) (hN:wr.heap.size=N) (hW:w2=wr.alloc (.cells (nums .u8 ys).toArray 5)) (hl:xs.length<=1000000000)
  (hK:∀v1 w1,Bs w w1 v1 (xs++ys)->wpList Tryz.prog ops Q rest (act.put o.dst v1) w1):
  wpList Tryz.prog ops Q (o::rest) act w2:=by
 subst hN;subst hW;refine Kd.R_append_rows (P:=Tryz.prog) (Kd.int .u8) (Rr:=(Kd.int .u8).M wr w.heap.size (fun _=>False)) (w0:=w) w.heap.size hgd s x 41 5 (.int .u8 0) 1 ho Tryz.underlying41 info5 rfl (by decide) (by omega) v xs ys _ ys.length ys.length (fun _=>True) (fun _=>False) hs hx
  (h.alloc _).r ⟨rfl,by omega,fun _=>⟨_,rfl,fun j p hj=>⟨[.int .u8 p],rfl,rfl,fun i u hi=> ?_⟩⟩⟩ (fun _ _ h=>h) (fun _ h=>h.elim) (fun _ _=>trivial) (h.alloc _).b (h.alloc _).b.size (by omega) ?_
 ·match i,hi with
  |0,hi=>
   cases hi
   have h0:=bC (blk_new wr (.cells (nums .u8 ys).toArray 5)) j;show(wr.alloc _).cell? (Addr.add ⟨wr.heap.size,0,none⟩ (j*1+0))=_
   rw[Nat.mul_one,Nat.add_zero];have e:Addr.add ⟨wr.heap.size,0,none⟩ j=⟨wr.heap.size,j,none⟩:=by simp[Addr.add];omega
   rw[e,h0];simp[nums,hj]
  |i+1,hi=>simp at hi
 ·intro v1 w1 hR hb hg _
  exact hK v1 w1 ⟨hb,hR⟩
theorem Bs.cat(hgd:o.guard=none)(s x:Operand)(ho:o.op = .call {callee:= .builtin .append,args:= #[s,x],argTypes:= #[41,9]})
  (hs:act.eval s=v) {y:ByteArray} (hx:act.eval x = .string y) (h:Bs w wr v xs) (hl:xs.length+y.size<=140737488355328)
  (hK:∀v1 w1,Bs w w1 v1 (xs++bytesOf y)->wpList Tryz.prog ops Q rest (act.put o.dst v1) w1):
  wpList Tryz.prog ops Q (o::rest) act wr:=by
 refine print_append_str (P:=Tryz.prog) (w0:=w) w.heap.size hgd s x 41 9 5 ho Tryz.underlying41 Tryz.underlying9 info5 v xs y hs hx (Kd.own_of_R h.r) h.b h.b.size hl ?_;intro v1 w1 ho0 hb hg;exact hK v1 w1 ⟨hb,Kd.R_of_own (h1:=fun _=>rfl) (ok:=fun _=>True) ho0 (fun _ _=>trivial)⟩
theorem Bs.str(h:Bs w wr v xs):(convert 41 9 v).run Tryz.prog wr = .ok (.string (strOfNums xs)) wr:=own_string (P:=Tryz.prog) Tryz.underlying41 Tryz.underlying5 Tryz.underlying9 (Kd.own_of_R h.r)
end
end Go.Proofs.YtoimaaonloibfaaGreatDoor.Lx
namespace Go.Proofs.YtoimaaonloibfaaGreatDoor.Pa
open Go.RowKit W1 W2 PF Wf Lx
structure Qs9(s:ByteArray)(w wr:World)(v:Value)(i:Nat)(xs:List Int):Prop where
 le:i<=s.size
 xl:xs.length<=4*i+1
 e:xs++((bytesOf s).drop i).flatMap qEsc=[34]++(bytesOf s).flatMap qEsc
 b:Bs w wr v xs
theorem Qs9.step{s:ByteArray}{w wr w1:World}{v v1:Value}{i:Nat}{xs ys:List Int}(h:Qs9 s w wr v i xs)(hi:i<s.size)(hy:ys=qEsc (bt s (i:Int)))(hb:Bs w w1 v1 (xs++ys)):Qs9 s w w1 v1 (i+1) (xs++ys):=by
 subst hy;have h4:=h.e;rw[bt_drop s i hi,List.flatMap_cons] at h4;refine⟨hi,?_,by rw[<-h4];simp only[List.append_assoc],hb⟩;have h2:=h.xl;have h3:(qEsc (bt s (i:Int))).length<=4:=by unfold qEsc;split<;>(try split)<;>(try split)<;>simp
 rw[List.length_append];omega
set_option maxRecDepth 10000 in
set_option maxHeartbeats 2000000 in
theorem quoted_q{s:ByteArray}(hs:s.size<=2000)(w:World):Calls Tryz.prog 102 #[.string s] w fun e w'=>e = .returned (.string (quo s))/\Below w.heap.size w w':=by
 have HS:=aM hs;have H0:Aside0 (Qs9 s w (w.alloc (.cells #[.int .u8 34] 5)) (.slice (some ⟨w.heap.size,0,none⟩) 1 1) 0 [34]):=⟨⟨Nat.zero_le _,by simp,rfl,bA (bR _ _) _,Kd.R_of_own (own_lit w w.heap.size 5 .u8 [34] (Nat.le_refl _) (by simp)) (fun _ _=>trivial)⟩⟩;clear hs;go_enter Tryz.func102,Tryz.ntmps102
 go_wp2_with fail;go_loopg [3,4] s.size (fun gk v3 v4 wr=>∃(i:Nat) (xs:List Int),v4 = .int .i64 (i:Int)/\gk=s.size-i/\Aside0 (Qs9 s w wr v3 i xs))
 case atStart=>exact⟨0,_,rfl,rfl,H0⟩
 case round=>
  clear H0;obtain⟨i,xs,rfl,hk,H⟩:=hrel
  by_cases hlt:i<s.size
  ·have hlI:(i:Int)<(s.size:Int):=by omega
   have h0I:(0:Int)<=(i:Int):=by omega
   have q:IntKind.i64.wrap ((i:Int)+1)=((i+1:Nat):Int):=by rw[IntWalk.i64_in _ (by have:=HS.out;omega)];omega
   have HST:=aM (fun(ys:List Int) (w1:World) (v1:Value) (hy:ys=qEsc (bt s (i:Int))) (hb:Bs w w1 v1 (xs++ys))=>H.out.step hlt hy hb);have hr:=bt_range s (i:Int);have hx:∀h:i<s.size,((s[i]'h).toNat:Int)=bt s (i:Int):=bt_at s (i:Int);have p3:(i<s.size)=True:=eq_true hlt;have p1:(0<=(i:Int))=True:=eq_true h0I;have p2:((i:Int)<(s.size:Int))=True:=eq_true hlI;have HXL:=aM (show xs.length<=1000000000 by have:=H.out.xl;have:=HS.out;omega);have HB:=aM H.out.b;clear H;go_upto_region 7 with fail;clear hx p1 p2 p3;generalize bt s (i:Int)=x at HST hr|-
   by_cases h1:x=34\/x=92
   ·have hq:(x==34||x==92)=true:=by rcases h1 with rfl|rfl<;>rfl
    have hy:[92,x]=qEsc x:=by unfold qEsc;rw[if_pos h1]
    have HY:=aM hy;rcases h1 with rfl|rfl<;>clear hr hq hy
    all_goals
     go_wp2_with (at_builtin;refine Bs.rows rfl (.tmp 27) (.tmp 29) (by rfl) (by rfl) (ys:=[92,_]) (by rfl) (by simp) HB.out rfl rfl HXL.out ?_;intro v7 w7 h7;have H7:=aM h7;clear h7)
     go_roundg (s.size-(i+1))
     case measure=>omega
     case rel=>exact⟨i+1,_,rfl,rfl,⟨HST.out _ _ _ HY.out H7.out⟩⟩
   have h1a:(x==34)=false:=beq_eq_false_iff_ne.2 fun e=>h1 (.inl e)
   have h1b:(x==92)=false:=beq_eq_false_iff_ne.2 fun e=>h1 (.inr e)
   by_cases h2:x=10
   ·subst h2
    have HY:=aM (show [92,110]=qEsc 10 from rfl);clear h1 h1a h1b hr;go_wp2_with (at_builtin;refine Bs.rows rfl (.tmp 34) (.tmp 35) (by rfl) (by rfl) (ys:=[92,110]) (by rfl) (by simp) HB.out rfl rfl HXL.out ?_;intro v7 w7 h7;have H7:=aM h7;clear h7)
    go_roundg (s.size-(i+1))
    case measure=>omega
    case rel=>exact⟨i+1,_,rfl,rfl,⟨HST.out _ _ _ HY.out H7.out⟩⟩
   have h2a:(x==10)=false:=beq_eq_false_iff_ne.2 h2
   by_cases h3:x<32\/x>126
   ·have f1:(48+((Int.tdiv x 100)%256))%256=48+x/100:=by rw[Int.tdiv_eq_ediv_of_nonneg hr.1];omega
    have f2:48+(((Int.tdiv x 10)%256)%10)=48+x/10%10:=by rw[Int.tdiv_eq_ediv_of_nonneg hr.1];omega
    have f3:(48+(Int.tmod x 10))%256=48+x%10:=by rw[Int.tmod_eq_emod_of_nonneg hr.1];omega
    have HY:=aM (show [92,48+x/100,48+x/10%10,48+x%10]=qEsc x by unfold qEsc;rw[if_neg h1,if_neg h2,if_pos h3]);have h3a:¬x<32->x>126:=fun h=>h3.resolve_left h
    by_cases h4:x<32
    ·clear h1 h3 h3a
     go_wp2_with (at_builtin;refine Bs.rows rfl (.tmp 44) (.tmp 55) (by rfl) (by rfl) (ys:=[92,_,_,_]) (by rfl) (by simp) HB.out rfl rfl HXL.out ?_;intro v7 w7 h7;have H7:=aM h7;clear h7)
     go_roundg (s.size-(i+1))
     case measure=>omega
     case rel=>exact⟨i+1,_,rfl,rfl,⟨HST.out _ _ _ HY.out H7.out⟩⟩
    ·have h5:=h3a h4
     clear h1 h3 h3a;go_wp2_with (at_builtin;refine Bs.rows rfl (.tmp 44) (.tmp 55) (by rfl) (by rfl) (ys:=[92,_,_,_]) (by rfl) (by simp) HB.out rfl rfl HXL.out ?_;intro v7 w7 h7;have H7:=aM h7;clear h7)
     go_roundg (s.size-(i+1))
     case measure=>omega
     case rel=>exact⟨i+1,_,rfl,rfl,⟨HST.out _ _ _ HY.out H7.out⟩⟩
   ·have HY:=aM (show [x]=qEsc x by unfold qEsc;rw[if_neg h1,if_neg h2,if_neg h3])
    have h4:¬x<32:=fun h=>h3 (.inl h)
    have h5:¬x>126:=fun h=>h3 (.inr h)
    clear h1 h3;go_wp2_with (at_builtin;refine Bs.put rfl (.tmp 16) (.tmp 18) (by rfl) (by rfl) (by rfl) HB.out (by rfl) HXL.out ?_;intro v7 w7 h7;have H7:=aM h7;clear h7)
    go_roundg (s.size-(i+1))
    case measure=>omega
    case rel=>exact⟨i+1,_,rfl,rfl,⟨HST.out _ _ _ HY.out H7.out⟩⟩
  ·have hlI:¬(i:Int)<(s.size:Int):=by omega
   have he:xs=[34]++(bytesOf s).flatMap qEsc:=by
    have:=H.out.e;rw[List.drop_of_length_le (by rw[bytesOf_length];omega)] at this
    simpa using this
   have HQ:Aside0 (xs++[34]=quoL (bytesOf s)):=⟨by rw[he];rfl⟩;have HXL:=aM (show xs.length<=1000000000 by have:=H.out.xl;have:=H.out.le;have:=HS.out;omega);clear he;go_wp2_with (at_builtin;refine Bs.put (c:=34) rfl (.tmp 57) (.tmp 58) (by rfl) (by rfl) (by rfl) H.out.b (by rfl) HXL.out ?_;rw[HQ.out];intro v7 w7 h7;have H7:=aM h7;have hcv:=h7.str;clear h7)
   go_ret;exact⟨rfl,H7.out.b⟩
end Go.Proofs.YtoimaaonloibfaaGreatDoor.Pa
namespace Go.Proofs.YtoimaaonloibfaaGreatDoor.Pa
open Go.RowKit W1 W2 PF Wf Lx Rg
attribute [local go_sem] run_store_float fld49_0 fld49_1 fld49_3
def LCt(f:FuncId)(m:Nat)(s:Srt)(out:List Nd->List ByteArray):Prop:=∀l:List Nd,wts l<=m->(∀y∈l,Ok True s y)->∀(w:World) (A:Option Addr) (cp:Nat),l.length<=cp->nodeK.C w A l.length l->Calls Tryz.prog f #[.bool true,.slice A l.length cp] w fun e w'=>OutR w (out l) e w'
def BD(m:Nat):Prop:=∀(x y:Nd),x.kids=[y]->Ok True .b y->x.wt<=m+1->∀(w:World) (An:Option Addr) (cn:Nat) (Ak:Option Addr) (ck:Nat),NK w x An cn Ak ck->Calls Tryz.prog 67 #[.bool true,.agg #[.int .i64 x.k,.string x.s,.float .f64 x.x,.int .i64 x.n,.bool x.b,(.slice An x.names.length cn),(.slice Ak x.kids.length ck)]] w fun e w'=>OutR w (sBody (pr m) x x.names) e w'
theorem Ok.tx{g:Prop}{s:Srt}{x:Nd}(h:Ok g s x)(hg:g):Tx x:=by
 cases h with
 |block _ h=>exact h hg
 |loc _ h=>exact h hg
 |asg _ _ h=>exact h hg
 |cst _ h=>exact h hg
 |doo _ h=>exact h hg
 |whil _ h=>exact h hg
 |rep _ h=>exact h hg
 |iff _ h=>exact h hg
 |forn _ h=>exact h hg
 |fori _ h=>exact h hg
 |lfn _ h=>exact h hg
 |ret _ h=>exact h hg
 |brk _ h=>exact h hg
 |atom _ h=>exact h hg
 |fn _ h=>exact h hg
 |ix _ h=>exact h hg
 |call _ h=>exact h hg
 |bin _ h=>exact h hg
 |un _ h=>exact h hg
 |tab _ h=>exact h hg
 |item _ h=>exact h hg
 |par _ h=>exact h hg
def IN:Prop:=∀(y:Nd),y.s.size<=2000->∀(w:World) (An:Option Addr) (cn:Nat) (Ak:Option Addr) (ck:Nat),Calls Tryz.prog 101 #[.agg #[.int .i64 y.k,.string y.s,.float .f64 y.x,.int .i64 y.n,.bool y.b,(.slice An y.names.length cn),(.slice Ak y.kids.length ck)]] w fun e w'=>e = .returned (.bool (pIsName y))/\Below w.heap.size w w'
set_option maxRecDepth 10000 in
set_option maxHeartbeats 16000000 in
theorem expr_any(m:Nat)(hm:m<=6010)(hP:PA m)(hlen:∀s x,(pr m s x).length<=10*x.wt)(hArgs:LCt 103 m .e (sArgs (pr m)))(hAl:∀l,(sArgs (pr m) l).length<=20*wts l+2)(hFld:LCt 104 m .f (sFields (pr m)))(hFl:∀l,(sFields (pr m) l).length<=20*wts l+2)(hBody:BD m)(hBl:∀x,(sBody (pr m) x x.names).length<=20*x.wt+10)(hIN:IN):PC 65 (m+1) .e (pr (m+1) .e):=by
 intro x hx hO w An cn Ak ck hk;have HP:=aM hP;have HA:=aM hArgs;have HFd:=aM hFld;have HBo:=aM hBody;have HIN:=aM hIN;have HV0:=aM (Vb.new w #[.int .i64 x.k,.string x.s,.float .f64 x.x,.int .i64 x.n,.bool x.b,(.slice An x.names.length cn),(.slice Ak x.kids.length ck)]);have HB:=aM (bA (bR w.heap.size w) (.cells #[.int .i64 x.k,.string x.s,.float .f64 x.x,.int .i64 x.n,.bool x.b,(.slice An x.names.length cn),(.slice Ak x.kids.length ck)] 27));have HNK:=aM (hk.below HB.out);have hwx:=wt_eq x;clear hk hP hArgs hFld hBody hIN;go_enter Tryz.func65,Tryz.ntmps65
 go_upto_region 1 with fail;obtain⟨v0,v1,v2,v3,v4,v5,v6⟩:=bC7 HV0.out;generalize w.alloc _=w1 at *;replace v0:w1.cell? ⟨w.heap.size,0,none⟩=some (.int .i64 x.k):=v0;replace v1:w1.cell? ⟨w.heap.size,1,none⟩=some (.string x.s):=v1;replace v2:w1.cell? ⟨w.heap.size,2,none⟩=some (.float .f64 x.x):=v2;replace v3:w1.cell? ⟨w.heap.size,3,none⟩=some (.int .i64 x.n):=v3;replace v4:w1.cell? ⟨w.heap.size,4,none⟩=some (.bool x.b):=v4;replace v5:w1.cell? ⟨w.heap.size,5,none⟩=some (.slice An x.names.length cn):=v5;replace v6:w1.cell? ⟨w.heap.size,6,none⟩=some (.slice Ak x.kids.length ck):=v6;have HC:=aM HNK.out.kids.2;have hcap:=HNK.out.kids.1
 cases hO with
 |atom h1 h2=>
  rcases h1 with h1|h1|h1|h1|h1|h1|h1
  ·have H1:=aM h1
   rw[h1] at v0;clear h1;go_upto_region 3 with fail;refine wp_region_specs_seq [.row ([⟨#[110,105,108]⟩]),.row ([⟨#[110,105,108]⟩])] w1.heap.size (by kernel_rfl) ?steps ?fin
   case steps=>
    refine⟨?_,?_,trivial⟩
    ·intro a w' hb ho hr
     go_simp;exact⟨_,rfl,bA (bR _ _) _,NR.lits w' _ hb.size [⟨#[110,105,108]⟩] (by simp)⟩
    ·intro a w' hb ho hr
     obtain⟨u0,d0,h0⟩:=hr 0 _ _ rfl rfl rfl;replace h0:NR w' w1.heap.size u0 ([⟨#[110,105,108]⟩]):=h0;obtain⟨A0,q0,rfl⟩:=h0.sl;go_simp;exact⟨_,rfl,bR _ _,h0⟩
   case fin=>
    intro a w' hb hd hs ho hr;obtain⟨u,du,hu⟩:=hr 1 _ _ rfl rfl;replace hu:NR w' w1.heap.size u ([⟨#[110,105,108]⟩]):=hu;go_wp2_with fail;have e:pr (m+1) .e x=[⟨#[110,105,108]⟩]:=by
     show sE (pr m) x=_
     simp[sE,pJ,kid,H1.out]
    refine⟨hd,u,by simp[results,Tryz.results65,du,go_sem],?_⟩;rw[e];exact⟨u,rfl,NR.lower hu HB.out.size,HB.out.trans (hb.mono HB.out.size)⟩
  ·have H1:=aM h1
   rw[h1] at v0;clear h1;go_upto_region 5 with fail;refine wp_region_specs_seq [.row ([⟨#[116,114,117,101]⟩]),.row ([⟨#[116,114,117,101]⟩])] w1.heap.size (by kernel_rfl) ?steps ?fin
   case steps=>
    refine⟨?_,?_,trivial⟩
    ·intro a w' hb ho hr
     go_simp;exact⟨_,rfl,bA (bR _ _) _,NR.lits w' _ hb.size [⟨#[116,114,117,101]⟩] (by simp)⟩
    ·intro a w' hb ho hr
     obtain⟨u0,d0,h0⟩:=hr 0 _ _ rfl rfl rfl;replace h0:NR w' w1.heap.size u0 ([⟨#[116,114,117,101]⟩]):=h0;obtain⟨A0,q0,rfl⟩:=h0.sl;go_simp;exact⟨_,rfl,bR _ _,h0⟩
   case fin=>
    intro a w' hb hd hs ho hr;obtain⟨u,du,hu⟩:=hr 1 _ _ rfl rfl;replace hu:NR w' w1.heap.size u ([⟨#[116,114,117,101]⟩]):=hu;go_wp2_with fail;have e:pr (m+1) .e x=[⟨#[116,114,117,101]⟩]:=by
     show sE (pr m) x=_
     simp[sE,pJ,kid,H1.out]
    refine⟨hd,u,by simp[results,Tryz.results65,du,go_sem],?_⟩;rw[e];exact⟨u,rfl,NR.lower hu HB.out.size,HB.out.trans (hb.mono HB.out.size)⟩
  ·have H1:=aM h1
   rw[h1] at v0;clear h1;go_upto_region 7 with fail;refine wp_region_specs_seq [.row ([⟨#[102,97,108,115,101]⟩]),.row ([⟨#[102,97,108,115,101]⟩])] w1.heap.size (by kernel_rfl) ?steps ?fin
   case steps=>
    refine⟨?_,?_,trivial⟩
    ·intro a w' hb ho hr
     go_simp;exact⟨_,rfl,bA (bR _ _) _,NR.lits w' _ hb.size [⟨#[102,97,108,115,101]⟩] (by simp)⟩
    ·intro a w' hb ho hr
     obtain⟨u0,d0,h0⟩:=hr 0 _ _ rfl rfl rfl;replace h0:NR w' w1.heap.size u0 ([⟨#[102,97,108,115,101]⟩]):=h0;obtain⟨A0,q0,rfl⟩:=h0.sl;go_simp;exact⟨_,rfl,bR _ _,h0⟩
   case fin=>
    intro a w' hb hd hs ho hr;obtain⟨u,du,hu⟩:=hr 1 _ _ rfl rfl;replace hu:NR w' w1.heap.size u ([⟨#[102,97,108,115,101]⟩]):=hu;go_wp2_with fail;have e:pr (m+1) .e x=[⟨#[102,97,108,115,101]⟩]:=by
     show sE (pr m) x=_
     simp[sE,pJ,kid,H1.out]
    refine⟨hd,u,by simp[results,Tryz.results65,du,go_sem],?_⟩;rw[e];exact⟨u,rfl,NR.lower hu HB.out.size,HB.out.trans (hb.mono HB.out.size)⟩
  ·have H1:=aM h1
   rw[h1] at v0;clear h1;go_upto_region 10 with fail;refine wp_region_specs_seq [.eq (.pointer (some ⟨w.heap.size,1,none⟩)),.eq (.string x.s),.row ([x.s]),.row ([x.s])] w1.heap.size (by kernel_rfl) ?steps ?fin
   case steps=>
    refine⟨?_,?_,?_,?_,trivial⟩
    ·intro a w' hb ho hr
     have t3:a.tmps[3]? = some (.pointer (some ⟨w.heap.size,0,none⟩)):=ho 3 rfl;go_simp;exact⟨_,rfl,bR _ _,rfl⟩
    ·intro a w' hb ho hr
     obtain⟨u0,d0,rfl⟩:=hr 0 _ _ rfl rfl rfl;have c0:=pB hb v1;go_simp;exact⟨_,rfl,bR _ _,rfl⟩
    ·intro a w' hb ho hr
     obtain⟨u1,d1,rfl⟩:=hr 1 _ _ rfl rfl rfl;go_simp;exact⟨_,rfl,bA (bR _ _) _,NR.lits w' _ hb.size [x.s] (by simp)⟩
    ·intro a w' hb ho hr
     obtain⟨u2,d2,h2⟩:=hr 2 _ _ rfl rfl rfl;replace h2:NR w' w1.heap.size u2 ([x.s]):=h2;obtain⟨A2,q2,rfl⟩:=h2.sl;go_simp;exact⟨_,rfl,bR _ _,h2⟩
   case fin=>
    intro a w' hb hd hs ho hr;obtain⟨u,du,hu⟩:=hr 3 _ _ rfl rfl;replace hu:NR w' w1.heap.size u ([x.s]):=hu;go_wp2_with fail;have e:pr (m+1) .e x=[x.s]:=by
     show sE (pr m) x=_
     simp[sE,pJ,kid,H1.out]
    refine⟨hd,u,by simp[results,Tryz.results65,du,go_sem],?_⟩;rw[e];exact⟨u,rfl,NR.lower hu HB.out.size,HB.out.trans (hb.mono HB.out.size)⟩
  ·have H1:=aM h1
   rw[h1] at v0;clear h1;have HSZ:=aM (show x.s.size<=2000 from(h2 trivial).1);go_upto_region 12 with fail;refine wp_region_specs_seq [.eq (.pointer (some ⟨w.heap.size,1,none⟩)),.eq (.string x.s),.eq (.string (quo x.s)),.row ([(quo x.s)]),.row ([(quo x.s)])] w1.heap.size (by kernel_rfl) ?steps ?fin
   case steps=>
    refine⟨?_,?_,?_,?_,?_,trivial⟩
    ·intro a w' hb ho hr
     have t3:a.tmps[3]? = some (.pointer (some ⟨w.heap.size,0,none⟩)):=ho 3 rfl;go_simp;exact⟨_,rfl,bR _ _,rfl⟩
    ·intro a w' hb ho hr
     obtain⟨u0,d0,rfl⟩:=hr 0 _ _ rfl rfl rfl;have c0:=pB hb v1;go_simp;exact⟨_,rfl,bR _ _,rfl⟩
    ·intro a w' hb ho hr
     obtain⟨u1,d1,rfl⟩:=hr 1 _ _ rfl rfl rfl;go_simp
     go_at_call 102
     refine(quoted_q HSZ.out w').mono ?_;rintro e w8 ⟨rfl,hB⟩;exact⟨_,rfl,hB,rfl⟩
    ·intro a w' hb ho hr
     obtain⟨u2,d2,rfl⟩:=hr 2 _ _ rfl rfl rfl;go_simp;exact⟨_,rfl,bA (bR _ _) _,NR.lits w' _ hb.size [(quo x.s)] (by simp)⟩
    ·intro a w' hb ho hr
     obtain⟨u3,d3,h3⟩:=hr 3 _ _ rfl rfl rfl;replace h3:NR w' w1.heap.size u3 ([(quo x.s)]):=h3;obtain⟨A3,q3,rfl⟩:=h3.sl;go_simp;exact⟨_,rfl,bR _ _,h3⟩
   case fin=>
    intro a w' hb hd hs ho hr;obtain⟨u,du,hu⟩:=hr 4 _ _ rfl rfl;replace hu:NR w' w1.heap.size u ([(quo x.s)]):=hu;go_wp2_with fail;have e:pr (m+1) .e x=[(quo x.s)]:=by
     show sE (pr m) x=_
     simp[sE,pJ,kid,H1.out]
    refine⟨hd,u,by simp[results,Tryz.results65,du,go_sem],?_⟩;rw[e];exact⟨u,rfl,NR.lower hu HB.out.size,HB.out.trans (hb.mono HB.out.size)⟩
  ·have H1:=aM h1
   rw[h1] at v0;clear h1;go_upto_region 14 with fail;refine wp_region_specs_seq [.row ([⟨#[46,46,46]⟩]),.row ([⟨#[46,46,46]⟩])] w1.heap.size (by kernel_rfl) ?steps ?fin
   case steps=>
    refine⟨?_,?_,trivial⟩
    ·intro a w' hb ho hr
     go_simp;exact⟨_,rfl,bA (bR _ _) _,NR.lits w' _ hb.size [⟨#[46,46,46]⟩] (by simp)⟩
    ·intro a w' hb ho hr
     obtain⟨u0,d0,h0⟩:=hr 0 _ _ rfl rfl rfl;replace h0:NR w' w1.heap.size u0 ([⟨#[46,46,46]⟩]):=h0;obtain⟨A0,q0,rfl⟩:=h0.sl;go_simp;exact⟨_,rfl,bR _ _,h0⟩
   case fin=>
    intro a w' hb hd hs ho hr;obtain⟨u,du,hu⟩:=hr 1 _ _ rfl rfl;replace hu:NR w' w1.heap.size u ([⟨#[46,46,46]⟩]):=hu;go_wp2_with fail;have e:pr (m+1) .e x=[⟨#[46,46,46]⟩]:=by
     show sE (pr m) x=_
     simp[sE,pJ,kid,H1.out]
    refine⟨hd,u,by simp[results,Tryz.results65,du,go_sem],?_⟩;rw[e];exact⟨u,rfl,NR.lower hu HB.out.size,HB.out.trans (hb.mono HB.out.size)⟩
  ·have H1:=aM h1
   rw[h1] at v0;clear h1;go_upto_region 10 with fail;refine wp_region_specs_seq [.eq (.pointer (some ⟨w.heap.size,1,none⟩)),.eq (.string x.s),.row ([x.s]),.row ([x.s])] w1.heap.size (by kernel_rfl) ?steps ?fin
   case steps=>
    refine⟨?_,?_,?_,?_,trivial⟩
    ·intro a w' hb ho hr
     have t3:a.tmps[3]? = some (.pointer (some ⟨w.heap.size,0,none⟩)):=ho 3 rfl;go_simp;exact⟨_,rfl,bR _ _,rfl⟩
    ·intro a w' hb ho hr
     obtain⟨u0,d0,rfl⟩:=hr 0 _ _ rfl rfl rfl;have c0:=pB hb v1;go_simp;exact⟨_,rfl,bR _ _,rfl⟩
    ·intro a w' hb ho hr
     obtain⟨u1,d1,rfl⟩:=hr 1 _ _ rfl rfl rfl;go_simp;exact⟨_,rfl,bA (bR _ _) _,NR.lits w' _ hb.size [x.s] (by simp)⟩
    ·intro a w' hb ho hr
     obtain⟨u2,d2,h2⟩:=hr 2 _ _ rfl rfl rfl;replace h2:NR w' w1.heap.size u2 ([x.s]):=h2;obtain⟨A2,q2,rfl⟩:=h2.sl;go_simp;exact⟨_,rfl,bR _ _,h2⟩
   case fin=>
    intro a w' hb hd hs ho hr;obtain⟨u,du,hu⟩:=hr 3 _ _ rfl rfl;replace hu:NR w' w1.heap.size u ([x.s]):=hu;go_wp2_with fail;have e:pr (m+1) .e x=[x.s]:=by
     show sE (pr m) x=_
     simp[sE,pJ,kid,H1.out]
    refine⟨hd,u,by simp[results,Tryz.results65,du,go_sem],?_⟩;rw[e];exact⟨u,rfl,NR.lower hu HB.out.size,HB.out.trans (hb.mono HB.out.size)⟩
 | @fn _ y h1 h2 hky0 oy=>
  have HX0:=aM v0;have H1:=aM h1;rw[h1] at v0;clear h1;have HBW:=aM hx;have HKY:=aM hky0;have OYB:=aM oy;have hbl:=hBl x;clear hky0 oy;go_upto_region 16 with fail;replace v0:=HX0.out;refine wp_region_specs_seq [.row ([⟨#[102,117,110,99,116,105,111,110]⟩]),.eq (.bool true),.eq (.agg #[.int .i64 x.k,.string x.s,.float .f64 x.x,.int .i64 x.n,.bool x.b,(.slice An x.names.length cn),(.slice Ak x.kids.length ck)]),.row (sBody (pr m) x x.names),.rows ([[⟨#[102,117,110,99,116,105,111,110]⟩],sBody (pr m) x x.names]),.row (pJ [[⟨#[102,117,110,99,116,105,111,110]⟩],sBody (pr m) x x.names]),.row (pJ [[⟨#[102,117,110,99,116,105,111,110]⟩],sBody (pr m) x x.names])] w1.heap.size (by kernel_rfl) ?steps ?fin
  case steps=>
   refine⟨?_,?_,?_,?_,?_,?_,?_,trivial⟩
   ·intro a w' hb ho hr
    go_simp;exact⟨_,rfl,bA (bR _ _) _,NR.lits w' _ hb.size [⟨#[102,117,110,99,116,105,111,110]⟩] (by simp)⟩
   ·intro a w' hb ho hr
    have t0:a.tmps[0]? = some (.bool true):=ho 0 rfl;go_simp;exact⟨_,rfl,bR _ _,rfl⟩
   ·intro a w' hb ho hr
    have t3:a.tmps[3]? = some (.pointer (some ⟨w.heap.size,0,none⟩)):=ho 3 rfl;obtain⟨c0,c1,c2,c3,c4,c5,c6⟩:=pB7 hb v0 v1 v2 v3 v4 v5 v6;go_simp;exact⟨_,rfl,bR _ _,rfl⟩
   ·intro a w' hb ho hr
    obtain⟨u1,d1,rfl⟩:=hr 1 _ _ rfl rfl rfl;obtain⟨u2,d2,rfl⟩:=hr 2 _ _ rfl rfl rfl;go_simp
    go_at_call 67
    refine(HBo.out x y HKY.out OYB.out HBW.out w' An cn Ak ck (HNK.out.below hb)).mono ?_;rintro e w8 ⟨u,rfl,hR,hB⟩;exact⟨_,rfl,hB,NR.lower hR hb.size⟩
   ·intro a w' hb ho hr
    obtain⟨u0,d0,h0⟩:=hr 0 _ _ rfl rfl rfl;replace h0:NR w' w1.heap.size u0 ([⟨#[102,117,110,99,116,105,111,110]⟩]):=h0;obtain⟨A0,q0,rfl⟩:=h0.sl;obtain⟨u3,d3,h3⟩:=hr 3 _ _ rfl rfl rfl;replace h3:NR w' w1.heap.size u3 (sBody (pr m) x x.names):=h3;obtain⟨A3,q3,rfl⟩:=h3.sl;go_simp;exact⟨_,rfl,bA (bR _ _) _,LR.lit (ps:=[(.slice A0 ([⟨#[102,117,110,99,116,105,111,110]⟩]).length q0,[⟨#[102,117,110,99,116,105,111,110]⟩]),(.slice A3 (sBody (pr m) x x.names).length q3,sBody (pr m) x x.names)]) hb.size (LRs.cons h0 (LRs.cons h3 LRs.nil)) (by simp)⟩
   ·intro a w' hb ho hr
    obtain⟨u4,d4,h4⟩:=hr 4 _ _ rfl rfl rfl;replace h4:LR w' w1.heap.size u4 ([[⟨#[102,117,110,99,116,105,111,110]⟩],sBody (pr m) x x.names]):=h4;go_simp
    go_at_call 60
    refine(join_q h4 (by simp) (by simp;omega)).mono ?_;rintro e w8 ⟨u,rfl,hR,hB⟩;exact⟨_,rfl,hB,NR.lower hR hb.size⟩
   ·intro a w' hb ho hr
    obtain⟨u5,d5,h5⟩:=hr 5 _ _ rfl rfl rfl;replace h5:NR w' w1.heap.size u5 (pJ [[⟨#[102,117,110,99,116,105,111,110]⟩],sBody (pr m) x x.names]):=h5;obtain⟨A5,q5,rfl⟩:=h5.sl;go_simp;exact⟨_,rfl,bR _ _,h5⟩
  case fin=>
   intro a w' hb hd hs ho hr;obtain⟨u,du,hu⟩:=hr 6 _ _ rfl rfl;replace hu:NR w' w1.heap.size u (pJ [[⟨#[102,117,110,99,116,105,111,110]⟩],sBody (pr m) x x.names]):=hu;go_wp2_with fail;have e:pr (m+1) .e x=pJ [[⟨#[102,117,110,99,116,105,111,110]⟩],sBody (pr m) x x.names]:=by
    show sE (pr m) x=_
    simp[sE,pJ,kid,H1.out]
   refine⟨hd,u,by simp[results,Tryz.results65,du,go_sem],?_⟩;rw[e];exact⟨u,rfl,NR.lower hu HB.out.size,HB.out.trans (hb.mono HB.out.size)⟩
 | @bin _ y z h1 h2 hky0 oy oz=>
  have H1:=aM h1;rw[h1] at v0;clear h1;have HKY:=aM hky0;simp only[hky0,wts] at hwx;have hl2:2<=x.kids.length:=by rw[hky0];exact Nat.le_refl _
  have hl0:0<x.kids.length:=by omega
  have hl0I:(0:Int)<(x.kids.length:Int):=by omega
  have hly:=hlen .e y;obtain⟨ad,y',Bn,dn,Bk,dk,rfl,hy,_,x0,x1,x2,x3,x4,x5,x6,hky⟩:=kid_at HC.out (bR w1.heap.size w1) 0 (by omega);obtain rfl:y=y':=by rw[hky0] at hy;simpa using hy
  simp only[Nat.zero_mul,Addr.add_zero'] at x0 x1 x2 x3 x4 x5 x6;have HKy:=aM hky;have HWy:=aM (show y.wt<=m by omega);have Oy:=aM oy;have hl1:1<x.kids.length:=by omega
  have hl1I:(1:Int)<(x.kids.length:Int):=by omega
  have hlz:=hlen .e z;obtain⟨ad',z',Cn,en,Ck,ek,had,hz,_,z0,z1,z2,z3,z4,z5,z6,hkz⟩:=kid_at HC.out (bR w1.heap.size w1) 1 (by omega);cases had
  obtain rfl:z=z':=by rw[hky0] at hz;simpa using hz
  replace z0:w1.cell? ⟨ad.block,ad.off+7,none⟩=some (.int .i64 z.k):=z0;replace z1:w1.cell? ⟨ad.block,ad.off+8,none⟩=some (.string z.s):=z1;replace z2:w1.cell? ⟨ad.block,ad.off+9,none⟩=some (.float .f64 z.x):=z2;replace z3:w1.cell? ⟨ad.block,ad.off+10,none⟩=some (.int .i64 z.n):=z3;replace z4:w1.cell? ⟨ad.block,ad.off+11,none⟩=some (.bool z.b):=z4;replace z5:w1.cell? ⟨ad.block,ad.off+12,none⟩=some (.slice Cn z.names.length en):=z5;replace z6:w1.cell? ⟨ad.block,ad.off+13,none⟩=some (.slice Ck z.kids.length ek):=z6;have HKz:=aM hkz;have HWz:=aM (show z.wt<=m by omega);have Oz:=aM oz;clear hz hkz oz;clear hky0 hl2 hy hky oy;go_upto_region 26 with fail;refine wp_region_specs [.eq (.bool true),.eq (.pointer (some ⟨w.heap.size,6,none⟩)),.eq (.slice (some ad) x.kids.length ck),.eq (.pointer (some ad)),.eq (.agg #[.int .i64 y.k,.string y.s,.float .f64 y.x,.int .i64 y.n,.bool y.b,(.slice Bn y.names.length dn),(.slice Bk y.kids.length dk)]),.row (pr m .e y),.eq (.pointer (some ⟨w.heap.size,1,none⟩)),.eq (.string x.s),.row ([x.s]),.eq (.bool true),.eq (.pointer (some ⟨w.heap.size,6,none⟩)),.eq (.slice (some ad) x.kids.length ck),.eq (.pointer (some ⟨ad.block,ad.off+7,none⟩)),.eq (.agg #[.int .i64 z.k,.string z.s,.float .f64 z.x,.int .i64 z.n,.bool z.b,(.slice Cn z.names.length en),(.slice Ck z.kids.length ek)]),.row (pr m .e z),.rows ([pr m .e y,[x.s],pr m .e z]),.row (pJ [pr m .e y,[x.s],pr m .e z]),.row (pJ [pr m .e y,[x.s],pr m .e z])] w1.heap.size (by rfl) (by kernel_rfl) ?steps ?fin
  case steps=>
   refine⟨?_,?_,?_,?_,?_,?_,?_,?_,?_,?_,?_,?_,?_,?_,?_,?_,?_,?_,trivial⟩
   ·intro a w' hb ho hr
    have t0:a.tmps[0]? = some (.bool true):=ho 0 rfl;go_simp;exact⟨_,rfl,bR _ _,rfl⟩
   ·intro a w' hb ho hr
    have t3:a.tmps[3]? = some (.pointer (some ⟨w.heap.size,0,none⟩)):=ho 3 rfl;go_simp;exact⟨_,rfl,bR _ _,rfl⟩
   ·intro a w' hb ho hr
    obtain⟨u1,d1,rfl⟩:=hr 1 _ _ rfl rfl rfl;have c0:=pB hb v6;go_simp;exact⟨_,rfl,bR _ _,rfl⟩
   ·intro a w' hb ho hr
    obtain⟨u2,d2,rfl⟩:=hr 2 _ _ rfl rfl rfl;go_simp;exact⟨_,rfl,bR _ _,rfl⟩
   ·intro a w' hb ho hr
    obtain⟨u3,d3,rfl⟩:=hr 3 _ _ rfl rfl rfl;obtain⟨c0,c1,c2,c3,c4,c5,c6⟩:=pB7 hb x0 x1 x2 x3 x4 x5 x6;go_simp;exact⟨_,rfl,bR _ _,rfl⟩
   ·intro a w' hb ho hr
    obtain⟨u0,d0,rfl⟩:=hr 0 _ _ rfl rfl rfl;obtain⟨u4,d4,rfl⟩:=hr 4 _ _ rfl rfl rfl;go_simp
    go_at_call 65
    refine(HP.out.e y HWy.out Oy.out w' Bn dn Bk dk (HKy.out.below hb)).mono ?_;rintro e w8 ⟨u,rfl,hR,hB⟩;exact⟨_,rfl,hB,NR.lower hR hb.size⟩
   ·intro a w' hb ho hr
    have t3:a.tmps[3]? = some (.pointer (some ⟨w.heap.size,0,none⟩)):=ho 3 rfl;go_simp;exact⟨_,rfl,bR _ _,rfl⟩
   ·intro a w' hb ho hr
    obtain⟨u6,d6,rfl⟩:=hr 6 _ _ rfl rfl rfl;have c0:=pB hb v1;go_simp;exact⟨_,rfl,bR _ _,rfl⟩
   ·intro a w' hb ho hr
    obtain⟨u7,d7,rfl⟩:=hr 7 _ _ rfl rfl rfl;go_simp;exact⟨_,rfl,bA (bR _ _) _,NR.lits w' _ hb.size [x.s] (by simp)⟩
   ·intro a w' hb ho hr
    have t0:a.tmps[0]? = some (.bool true):=ho 0 rfl;go_simp;exact⟨_,rfl,bR _ _,rfl⟩
   ·intro a w' hb ho hr
    have t3:a.tmps[3]? = some (.pointer (some ⟨w.heap.size,0,none⟩)):=ho 3 rfl;go_simp;exact⟨_,rfl,bR _ _,rfl⟩
   ·intro a w' hb ho hr
    obtain⟨u10,d10,rfl⟩:=hr 10 _ _ rfl rfl rfl;have c0:=pB hb v6;go_simp;exact⟨_,rfl,bR _ _,rfl⟩
   ·intro a w' hb ho hr
    obtain⟨u11,d11,rfl⟩:=hr 11 _ _ rfl rfl rfl;go_simp;exact⟨_,rfl,bR _ _,rfl⟩
   ·intro a w' hb ho hr
    obtain⟨u12,d12,rfl⟩:=hr 12 _ _ rfl rfl rfl;obtain⟨c0,c1,c2,c3,c4,c5,c6⟩:=pB7 hb z0 z1 z2 z3 z4 z5 z6;go_simp;exact⟨_,rfl,bR _ _,rfl⟩
   ·intro a w' hb ho hr
    obtain⟨u9,d9,rfl⟩:=hr 9 _ _ rfl rfl rfl;obtain⟨u13,d13,rfl⟩:=hr 13 _ _ rfl rfl rfl;go_simp
    go_at_call 65
    refine(HP.out.e z HWz.out Oz.out w' Cn en Ck ek (HKz.out.below hb)).mono ?_;rintro e w8 ⟨u,rfl,hR,hB⟩;exact⟨_,rfl,hB,NR.lower hR hb.size⟩
   ·intro a w' hb ho hr
    obtain⟨u5,d5,h5⟩:=hr 5 _ _ rfl rfl rfl;replace h5:NR w' w1.heap.size u5 (pr m .e y):=h5;obtain⟨A5,q5,rfl⟩:=h5.sl;obtain⟨u8,d8,h8⟩:=hr 8 _ _ rfl rfl rfl;replace h8:NR w' w1.heap.size u8 ([x.s]):=h8;obtain⟨A8,q8,rfl⟩:=h8.sl;obtain⟨u14,d14,h14⟩:=hr 14 _ _ rfl rfl rfl;replace h14:NR w' w1.heap.size u14 (pr m .e z):=h14;obtain⟨A14,q14,rfl⟩:=h14.sl;go_simp;exact⟨_,rfl,bA (bR _ _) _,LR.lit (ps:=[(.slice A5 (pr m .e y).length q5,pr m .e y),(.slice A8 ([x.s]).length q8,[x.s]),(.slice A14 (pr m .e z).length q14,pr m .e z)]) hb.size (LRs.cons h5 (LRs.cons h8 (LRs.cons h14 LRs.nil))) (by simp)⟩
   ·intro a w' hb ho hr
    obtain⟨u15,d15,h15⟩:=hr 15 _ _ rfl rfl rfl;replace h15:LR w' w1.heap.size u15 ([pr m .e y,[x.s],pr m .e z]):=h15;go_simp
    go_at_call 60
    refine(join_q h15 (by simp) (by simp;omega)).mono ?_;rintro e w8 ⟨u,rfl,hR,hB⟩;exact⟨_,rfl,hB,NR.lower hR hb.size⟩
   ·intro a w' hb ho hr
    obtain⟨u16,d16,h16⟩:=hr 16 _ _ rfl rfl rfl;replace h16:NR w' w1.heap.size u16 (pJ [pr m .e y,[x.s],pr m .e z]):=h16;obtain⟨A16,q16,rfl⟩:=h16.sl;go_simp;exact⟨_,rfl,bR _ _,h16⟩
  case fin=>
   intro a w' hb hd hs ho hr;obtain⟨u,du,hu⟩:=hr 17 _ _ rfl rfl;replace hu:NR w' w1.heap.size u (pJ [pr m .e y,[x.s],pr m .e z]):=hu;go_wp2_with fail;have e:pr (m+1) .e x=pJ [pr m .e y,[x.s],pr m .e z]:=by
    show sE (pr m) x=_
    simp[sE,pJ,kid,H1.out,HKY.out]
   refine⟨hd,u,by simp[results,Tryz.results65,du,go_sem],?_⟩;rw[e];exact⟨u,rfl,NR.lower hu HB.out.size,HB.out.trans (hb.mono HB.out.size)⟩
 | @un _ y h1 h2 hky0 oy=>
  rcases h1 with h1|h1
  ·have H1:=aM h1
   rw[h1] at v0;clear h1;have HKY:=aM hky0;simp only[hky0,wts] at hwx;have hl2:1<=x.kids.length:=by rw[hky0];exact Nat.le_refl _
   have hl0:0<x.kids.length:=by omega
   have hl0I:(0:Int)<(x.kids.length:Int):=by omega
   have hly:=hlen .e y;obtain⟨ad,y',Bn,dn,Bk,dk,rfl,hy,_,x0,x1,x2,x3,x4,x5,x6,hky⟩:=kid_at HC.out (bR w1.heap.size w1) 0 (by omega);obtain rfl:y=y':=by rw[hky0] at hy;simpa using hy
   simp only[Nat.zero_mul,Addr.add_zero'] at x0 x1 x2 x3 x4 x5 x6;have HKy:=aM hky;have HWy:=aM (show y.wt<=m by omega);have Oy:=aM oy;clear hky0 hl2 hy hky oy;go_upto_region 28 with fail;refine wp_region_specs [.eq (.pointer (some ⟨w.heap.size,1,none⟩)),.eq (.string x.s),.row ([x.s]),.eq (.bool true),.eq (.pointer (some ⟨w.heap.size,6,none⟩)),.eq (.slice (some ad) x.kids.length ck),.eq (.pointer (some ad)),.eq (.agg #[.int .i64 y.k,.string y.s,.float .f64 y.x,.int .i64 y.n,.bool y.b,(.slice Bn y.names.length dn),(.slice Bk y.kids.length dk)]),.row (pr m .e y),.rows ([[x.s],pr m .e y]),.row (pJ [[x.s],pr m .e y]),.row (pJ [[x.s],pr m .e y])] w1.heap.size (by rfl) (by kernel_rfl) ?steps ?fin
   case steps=>
    refine⟨?_,?_,?_,?_,?_,?_,?_,?_,?_,?_,?_,?_,trivial⟩
    ·intro a w' hb ho hr
     have t3:a.tmps[3]? = some (.pointer (some ⟨w.heap.size,0,none⟩)):=ho 3 rfl;go_simp;exact⟨_,rfl,bR _ _,rfl⟩
    ·intro a w' hb ho hr
     obtain⟨u0,d0,rfl⟩:=hr 0 _ _ rfl rfl rfl;have c0:=pB hb v1;go_simp;exact⟨_,rfl,bR _ _,rfl⟩
    ·intro a w' hb ho hr
     obtain⟨u1,d1,rfl⟩:=hr 1 _ _ rfl rfl rfl;go_simp;exact⟨_,rfl,bA (bR _ _) _,NR.lits w' _ hb.size [x.s] (by simp)⟩
    ·intro a w' hb ho hr
     have t0:a.tmps[0]? = some (.bool true):=ho 0 rfl;go_simp;exact⟨_,rfl,bR _ _,rfl⟩
    ·intro a w' hb ho hr
     have t3:a.tmps[3]? = some (.pointer (some ⟨w.heap.size,0,none⟩)):=ho 3 rfl;go_simp;exact⟨_,rfl,bR _ _,rfl⟩
    ·intro a w' hb ho hr
     obtain⟨u4,d4,rfl⟩:=hr 4 _ _ rfl rfl rfl;have c0:=pB hb v6;go_simp;exact⟨_,rfl,bR _ _,rfl⟩
    ·intro a w' hb ho hr
     obtain⟨u5,d5,rfl⟩:=hr 5 _ _ rfl rfl rfl;go_simp;exact⟨_,rfl,bR _ _,rfl⟩
    ·intro a w' hb ho hr
     obtain⟨u6,d6,rfl⟩:=hr 6 _ _ rfl rfl rfl;obtain⟨c0,c1,c2,c3,c4,c5,c6⟩:=pB7 hb x0 x1 x2 x3 x4 x5 x6;go_simp;exact⟨_,rfl,bR _ _,rfl⟩
    ·intro a w' hb ho hr
     obtain⟨u3,d3,rfl⟩:=hr 3 _ _ rfl rfl rfl;obtain⟨u7,d7,rfl⟩:=hr 7 _ _ rfl rfl rfl;go_simp
     go_at_call 65
     refine(HP.out.e y HWy.out Oy.out w' Bn dn Bk dk (HKy.out.below hb)).mono ?_;rintro e w8 ⟨u,rfl,hR,hB⟩;exact⟨_,rfl,hB,NR.lower hR hb.size⟩
    ·intro a w' hb ho hr
     obtain⟨u2,d2,h2⟩:=hr 2 _ _ rfl rfl rfl;replace h2:NR w' w1.heap.size u2 ([x.s]):=h2;obtain⟨A2,q2,rfl⟩:=h2.sl;obtain⟨u8,d8,h8⟩:=hr 8 _ _ rfl rfl rfl;replace h8:NR w' w1.heap.size u8 (pr m .e y):=h8;obtain⟨A8,q8,rfl⟩:=h8.sl;go_simp;exact⟨_,rfl,bA (bR _ _) _,LR.lit (ps:=[(.slice A2 ([x.s]).length q2,[x.s]),(.slice A8 (pr m .e y).length q8,pr m .e y)]) hb.size (LRs.cons h2 (LRs.cons h8 LRs.nil)) (by simp)⟩
    ·intro a w' hb ho hr
     obtain⟨u9,d9,h9⟩:=hr 9 _ _ rfl rfl rfl;replace h9:LR w' w1.heap.size u9 ([[x.s],pr m .e y]):=h9;go_simp
     go_at_call 60
     refine(join_q h9 (by simp) (by simp;omega)).mono ?_;rintro e w8 ⟨u,rfl,hR,hB⟩;exact⟨_,rfl,hB,NR.lower hR hb.size⟩
    ·intro a w' hb ho hr
     obtain⟨u10,d10,h10⟩:=hr 10 _ _ rfl rfl rfl;replace h10:NR w' w1.heap.size u10 (pJ [[x.s],pr m .e y]):=h10;obtain⟨A10,q10,rfl⟩:=h10.sl;go_simp;exact⟨_,rfl,bR _ _,h10⟩
   case fin=>
    intro a w' hb hd hs ho hr;obtain⟨u,du,hu⟩:=hr 11 _ _ rfl rfl;replace hu:NR w' w1.heap.size u (pJ [[x.s],pr m .e y]):=hu;go_wp2_with fail;have e:pr (m+1) .e x=pJ [[x.s],pr m .e y]:=by
     show sE (pr m) x=_
     simp[sE,pJ,kid,H1.out,HKY.out]
    refine⟨hd,u,by simp[results,Tryz.results65,du,go_sem],?_⟩;rw[e];exact⟨u,rfl,NR.lower hu HB.out.size,HB.out.trans (hb.mono HB.out.size)⟩
  ·have H1:=aM h1
   rw[h1] at v0;clear h1;have HKY:=aM hky0;simp only[hky0,wts] at hwx;have hl2:1<=x.kids.length:=by rw[hky0];exact Nat.le_refl _
   have hl0:0<x.kids.length:=by omega
   have hl0I:(0:Int)<(x.kids.length:Int):=by omega
   have hly:=hlen .e y;obtain⟨ad,y',Bn,dn,Bk,dk,rfl,hy,_,x0,x1,x2,x3,x4,x5,x6,hky⟩:=kid_at HC.out (bR w1.heap.size w1) 0 (by omega);obtain rfl:y=y':=by rw[hky0] at hy;simpa using hy
   simp only[Nat.zero_mul,Addr.add_zero'] at x0 x1 x2 x3 x4 x5 x6;have HKy:=aM hky;have HWy:=aM (show y.wt<=m by omega);have Oy:=aM oy;clear hky0 hl2 hy hky oy;go_upto_region 30 with fail;refine wp_region_specs_seq [.row ([⟨#[40]⟩]),.eq (.bool true),.eq (.pointer (some ⟨w.heap.size,6,none⟩)),.eq (.slice (some ad) x.kids.length ck),.eq (.pointer (some ad)),.eq (.agg #[.int .i64 y.k,.string y.s,.float .f64 y.x,.int .i64 y.n,.bool y.b,(.slice Bn y.names.length dn),(.slice Bk y.kids.length dk)]),.row (pr m .e y),.row ([⟨#[41]⟩]),.rows ([[⟨#[40]⟩],pr m .e y,[⟨#[41]⟩]]),.row (pJ [[⟨#[40]⟩],pr m .e y,[⟨#[41]⟩]]),.row (pJ [[⟨#[40]⟩],pr m .e y,[⟨#[41]⟩]])] w1.heap.size (by kernel_rfl) ?steps ?fin
   case steps=>
    refine⟨?_,?_,?_,?_,?_,?_,?_,?_,?_,?_,?_,trivial⟩
    ·intro a w' hb ho hr
     go_simp;exact⟨_,rfl,bA (bR _ _) _,NR.lits w' _ hb.size [⟨#[40]⟩] (by simp)⟩
    ·intro a w' hb ho hr
     have t0:a.tmps[0]? = some (.bool true):=ho 0 rfl;go_simp;exact⟨_,rfl,bR _ _,rfl⟩
    ·intro a w' hb ho hr
     have t3:a.tmps[3]? = some (.pointer (some ⟨w.heap.size,0,none⟩)):=ho 3 rfl;go_simp;exact⟨_,rfl,bR _ _,rfl⟩
    ·intro a w' hb ho hr
     obtain⟨u2,d2,rfl⟩:=hr 2 _ _ rfl rfl rfl;have c0:=pB hb v6;go_simp;exact⟨_,rfl,bR _ _,rfl⟩
    ·intro a w' hb ho hr
     obtain⟨u3,d3,rfl⟩:=hr 3 _ _ rfl rfl rfl;go_simp;exact⟨_,rfl,bR _ _,rfl⟩
    ·intro a w' hb ho hr
     obtain⟨u4,d4,rfl⟩:=hr 4 _ _ rfl rfl rfl;obtain⟨c0,c1,c2,c3,c4,c5,c6⟩:=pB7 hb x0 x1 x2 x3 x4 x5 x6;go_simp;exact⟨_,rfl,bR _ _,rfl⟩
    ·intro a w' hb ho hr
     obtain⟨u1,d1,rfl⟩:=hr 1 _ _ rfl rfl rfl;obtain⟨u5,d5,rfl⟩:=hr 5 _ _ rfl rfl rfl;go_simp
     go_at_call 65
     refine(HP.out.e y HWy.out Oy.out w' Bn dn Bk dk (HKy.out.below hb)).mono ?_;rintro e w8 ⟨u,rfl,hR,hB⟩;exact⟨_,rfl,hB,NR.lower hR hb.size⟩
    ·intro a w' hb ho hr
     go_simp;exact⟨_,rfl,bA (bR _ _) _,NR.lits w' _ hb.size [⟨#[41]⟩] (by simp)⟩
    ·intro a w' hb ho hr
     obtain⟨u0,d0,h0⟩:=hr 0 _ _ rfl rfl rfl;replace h0:NR w' w1.heap.size u0 ([⟨#[40]⟩]):=h0;obtain⟨A0,q0,rfl⟩:=h0.sl;obtain⟨u6,d6,h6⟩:=hr 6 _ _ rfl rfl rfl;replace h6:NR w' w1.heap.size u6 (pr m .e y):=h6;obtain⟨A6,q6,rfl⟩:=h6.sl;obtain⟨u7,d7,h7⟩:=hr 7 _ _ rfl rfl rfl;replace h7:NR w' w1.heap.size u7 ([⟨#[41]⟩]):=h7;obtain⟨A7,q7,rfl⟩:=h7.sl;go_simp;exact⟨_,rfl,bA (bR _ _) _,LR.lit (ps:=[(.slice A0 ([⟨#[40]⟩]).length q0,[⟨#[40]⟩]),(.slice A6 (pr m .e y).length q6,pr m .e y),(.slice A7 ([⟨#[41]⟩]).length q7,[⟨#[41]⟩])]) hb.size (LRs.cons h0 (LRs.cons h6 (LRs.cons h7 LRs.nil))) (by simp)⟩
    ·intro a w' hb ho hr
     obtain⟨u8,d8,h8⟩:=hr 8 _ _ rfl rfl rfl;replace h8:LR w' w1.heap.size u8 ([[⟨#[40]⟩],pr m .e y,[⟨#[41]⟩]]):=h8;go_simp
     go_at_call 60
     refine(join_q h8 (by simp) (by simp;omega)).mono ?_;rintro e w8 ⟨u,rfl,hR,hB⟩;exact⟨_,rfl,hB,NR.lower hR hb.size⟩
    ·intro a w' hb ho hr
     obtain⟨u9,d9,h9⟩:=hr 9 _ _ rfl rfl rfl;replace h9:NR w' w1.heap.size u9 (pJ [[⟨#[40]⟩],pr m .e y,[⟨#[41]⟩]]):=h9;obtain⟨A9,q9,rfl⟩:=h9.sl;go_simp;exact⟨_,rfl,bR _ _,h9⟩
   case fin=>
    intro a w' hb hd hs ho hr;obtain⟨u,du,hu⟩:=hr 10 _ _ rfl rfl;replace hu:NR w' w1.heap.size u (pJ [[⟨#[40]⟩],pr m .e y,[⟨#[41]⟩]]):=hu;go_wp2_with fail;have e:pr (m+1) .e x=pJ [[⟨#[40]⟩],pr m .e y,[⟨#[41]⟩]]:=by
     show sE (pr m) x=_
     simp[sE,pJ,kid,H1.out,HKY.out]
    refine⟨hd,u,by simp[results,Tryz.results65,du,go_sem],?_⟩;rw[e];exact⟨u,rfl,NR.lower hu HB.out.size,HB.out.trans (hb.mono HB.out.size)⟩
 | @ix _ y z h1 h2 hky0 oy oz=>
  have H1:=aM h1;rw[h1] at v0;clear h1;have HKY:=aM hky0;simp only[hky0,wts] at hwx;have hl2:2<=x.kids.length:=by rw[hky0];exact Nat.le_refl _
  have hl0:0<x.kids.length:=by omega
  have hl0I:(0:Int)<(x.kids.length:Int):=by omega
  have hly:=hlen .e y;obtain⟨ad,y',Bn,dn,Bk,dk,rfl,hy,_,x0,x1,x2,x3,x4,x5,x6,hky⟩:=kid_at HC.out (bR w1.heap.size w1) 0 (by omega);obtain rfl:y=y':=by rw[hky0] at hy;simpa using hy
  simp only[Nat.zero_mul,Addr.add_zero'] at x0 x1 x2 x3 x4 x5 x6;have HKy:=aM hky;have HWy:=aM (show y.wt<=m by omega);have Oy:=aM oy;have hl1:1<x.kids.length:=by omega
  have hl1I:(1:Int)<(x.kids.length:Int):=by omega
  have hlz:=hlen .e z;obtain⟨ad',z',Cn,en,Ck,ek,had,hz,_,z0,z1,z2,z3,z4,z5,z6,hkz⟩:=kid_at HC.out (bR w1.heap.size w1) 1 (by omega);cases had
  obtain rfl:z=z':=by rw[hky0] at hz;simpa using hz
  replace z0:w1.cell? ⟨ad.block,ad.off+7,none⟩=some (.int .i64 z.k):=z0;replace z1:w1.cell? ⟨ad.block,ad.off+8,none⟩=some (.string z.s):=z1;replace z2:w1.cell? ⟨ad.block,ad.off+9,none⟩=some (.float .f64 z.x):=z2;replace z3:w1.cell? ⟨ad.block,ad.off+10,none⟩=some (.int .i64 z.n):=z3;replace z4:w1.cell? ⟨ad.block,ad.off+11,none⟩=some (.bool z.b):=z4;replace z5:w1.cell? ⟨ad.block,ad.off+12,none⟩=some (.slice Cn z.names.length en):=z5;replace z6:w1.cell? ⟨ad.block,ad.off+13,none⟩=some (.slice Ck z.kids.length ek):=z6;have HKz:=aM hkz;have HWz:=aM (show z.wt<=m by omega);have Oz:=aM oz;clear hz hkz oz;clear hky0 hl2 hy hky oy;go_upto_region 18 with fail;go_wp2_with fail;refine(HIN.out z (Oz.out.tx trivial).1 w1 Cn en Ck ek).mono ?_;rintro e w2 ⟨rfl,hb2⟩;have HB2:=aM (HB.out.trans (hb2.mono HB.out.size));replace HKy:=aM (HKy.out.below hb2);replace HKz:=aM (HKz.out.below hb2);replace v0:=pB hb2 v0;replace v1:=pB hb2 v1;replace v2:=pB hb2 v2;replace v3:=pB hb2 v3;replace v4:=pB hb2 v4;replace v5:=pB hb2 v5;replace v6:=pB hb2 v6;replace x0:=pB hb2 x0;replace x1:=pB hb2 x1;replace x2:=pB hb2 x2;replace x3:=pB hb2 x3;replace x4:=pB hb2 x4;replace x5:=pB hb2 x5;replace x6:=pB hb2 x6;replace z0:=pB hb2 z0;replace z1:=pB hb2 z1;replace z2:=pB hb2 z2;replace z3:=pB hb2 z3;replace z4:=pB hb2 z4;replace z5:=pB hb2 z5;replace z6:=pB hb2 z6;clear hb2 HV0 HNK HC HB;have HB:=HB2;obtain⟨bn,hbn⟩:∃b,pIsName z=b:=⟨_,rfl⟩;rw[hbn];replace hbn:=aM hbn
  cases bn with
  |true=>
   go_upto_region 19 with fail;refine wp_region_specs [.eq (.bool true),.eq (.pointer (some ⟨w.heap.size,6,none⟩)),.eq (.slice (some ad) x.kids.length ck),.eq (.pointer (some ad)),.eq (.agg #[.int .i64 y.k,.string y.s,.float .f64 y.x,.int .i64 y.n,.bool y.b,(.slice Bn y.names.length dn),(.slice Bk y.kids.length dk)]),.row (pr m .e y),.eq (.pointer (some ⟨w.heap.size,6,none⟩)),.eq (.slice (some ad) x.kids.length ck),.eq (.pointer (some ⟨ad.block,ad.off+7,none⟩)),.eq (.pointer (some ⟨ad.block,ad.off+8,none⟩)),.eq (.string z.s),.row ([⟨#[46]⟩,z.s]),.rows ([pr m .e y,[⟨#[46]⟩,z.s]]),.row (pJ [pr m .e y,[⟨#[46]⟩,z.s]]),.row (pJ [pr m .e y,[⟨#[46]⟩,z.s]])] w2.heap.size (by rfl) (by kernel_rfl) ?steps ?fin
   case steps=>
    refine⟨?_,?_,?_,?_,?_,?_,?_,?_,?_,?_,?_,?_,?_,?_,?_,trivial⟩
    ·intro a w' hb ho hr
     have t0:a.tmps[0]? = some (.bool true):=ho 0 rfl;go_simp;exact⟨_,rfl,bR _ _,rfl⟩
    ·intro a w' hb ho hr
     have t3:a.tmps[3]? = some (.pointer (some ⟨w.heap.size,0,none⟩)):=ho 3 rfl;go_simp;exact⟨_,rfl,bR _ _,rfl⟩
    ·intro a w' hb ho hr
     obtain⟨u1,d1,rfl⟩:=hr 1 _ _ rfl rfl rfl;have c0:=pB hb v6;go_simp;exact⟨_,rfl,bR _ _,rfl⟩
    ·intro a w' hb ho hr
     obtain⟨u2,d2,rfl⟩:=hr 2 _ _ rfl rfl rfl;go_simp;exact⟨_,rfl,bR _ _,rfl⟩
    ·intro a w' hb ho hr
     obtain⟨u3,d3,rfl⟩:=hr 3 _ _ rfl rfl rfl;obtain⟨c0,c1,c2,c3,c4,c5,c6⟩:=pB7 hb x0 x1 x2 x3 x4 x5 x6;go_simp;exact⟨_,rfl,bR _ _,rfl⟩
    ·intro a w' hb ho hr
     obtain⟨u0,d0,rfl⟩:=hr 0 _ _ rfl rfl rfl;obtain⟨u4,d4,rfl⟩:=hr 4 _ _ rfl rfl rfl;go_simp
     go_at_call 65
     refine(HP.out.e y HWy.out Oy.out w' Bn dn Bk dk (HKy.out.below hb)).mono ?_;rintro e w8 ⟨u,rfl,hR,hB⟩;exact⟨_,rfl,hB,NR.lower hR hb.size⟩
    ·intro a w' hb ho hr
     have t3:a.tmps[3]? = some (.pointer (some ⟨w.heap.size,0,none⟩)):=ho 3 rfl;go_simp;exact⟨_,rfl,bR _ _,rfl⟩
    ·intro a w' hb ho hr
     obtain⟨u6,d6,rfl⟩:=hr 6 _ _ rfl rfl rfl;have c0:=pB hb v6;go_simp;exact⟨_,rfl,bR _ _,rfl⟩
    ·intro a w' hb ho hr
     obtain⟨u7,d7,rfl⟩:=hr 7 _ _ rfl rfl rfl;go_simp;exact⟨_,rfl,bR _ _,rfl⟩
    ·intro a w' hb ho hr
     obtain⟨u8,d8,rfl⟩:=hr 8 _ _ rfl rfl rfl;go_simp;exact⟨_,rfl,bR _ _,rfl⟩
    ·intro a w' hb ho hr
     obtain⟨u9,d9,rfl⟩:=hr 9 _ _ rfl rfl rfl;have c0:=pB hb z1;go_simp;exact⟨_,rfl,bR _ _,rfl⟩
    ·intro a w' hb ho hr
     obtain⟨u10,d10,rfl⟩:=hr 10 _ _ rfl rfl rfl;go_simp;exact⟨_,rfl,bA (bR _ _) _,NR.lits w' _ hb.size [⟨#[46]⟩,z.s] (by simp)⟩
    ·intro a w' hb ho hr
     obtain⟨u5,d5,h5⟩:=hr 5 _ _ rfl rfl rfl;replace h5:NR w' w2.heap.size u5 (pr m .e y):=h5;obtain⟨A5,q5,rfl⟩:=h5.sl;obtain⟨u11,d11,h11⟩:=hr 11 _ _ rfl rfl rfl;replace h11:NR w' w2.heap.size u11 ([⟨#[46]⟩,z.s]):=h11;obtain⟨A11,q11,rfl⟩:=h11.sl;go_simp;exact⟨_,rfl,bA (bR _ _) _,LR.lit (ps:=[(.slice A5 (pr m .e y).length q5,pr m .e y),(.slice A11 ([⟨#[46]⟩,z.s]).length q11,[⟨#[46]⟩,z.s])]) hb.size (LRs.cons h5 (LRs.cons h11 LRs.nil)) (by simp)⟩
    ·intro a w' hb ho hr
     obtain⟨u12,d12,h12⟩:=hr 12 _ _ rfl rfl rfl;replace h12:LR w' w2.heap.size u12 ([pr m .e y,[⟨#[46]⟩,z.s]]):=h12;go_simp
     go_at_call 60
     refine(join_q h12 (by simp) (by simp;omega)).mono ?_;rintro e w8 ⟨u,rfl,hR,hB⟩;exact⟨_,rfl,hB,NR.lower hR hb.size⟩
    ·intro a w' hb ho hr
     obtain⟨u13,d13,h13⟩:=hr 13 _ _ rfl rfl rfl;replace h13:NR w' w2.heap.size u13 (pJ [pr m .e y,[⟨#[46]⟩,z.s]]):=h13;obtain⟨A13,q13,rfl⟩:=h13.sl;go_simp;exact⟨_,rfl,bR _ _,h13⟩
   case fin=>
    intro a w' hb hd hs ho hr;obtain⟨u,du,hu⟩:=hr 14 _ _ rfl rfl;replace hu:NR w' w2.heap.size u (pJ [pr m .e y,[⟨#[46]⟩,z.s]]):=hu;go_wp2_with fail;have e:pr (m+1) .e x=pJ [pr m .e y,[⟨#[46]⟩,z.s]]:=by
     show sE (pr m) x=_
     simp[sE,pJ,kid,H1.out,HKY.out,hbn.out]
    refine⟨hd,u,by simp[results,Tryz.results65,du,go_sem],?_⟩;rw[e];exact⟨u,rfl,NR.lower hu HB.out.size,HB.out.trans (hb.mono HB.out.size)⟩
  |false=>
   go_upto_region 20 with fail;refine wp_region_specs [.eq (.bool true),.eq (.pointer (some ⟨w.heap.size,6,none⟩)),.eq (.slice (some ad) x.kids.length ck),.eq (.pointer (some ad)),.eq (.agg #[.int .i64 y.k,.string y.s,.float .f64 y.x,.int .i64 y.n,.bool y.b,(.slice Bn y.names.length dn),(.slice Bk y.kids.length dk)]),.row (pr m .e y),.row ([⟨#[91]⟩]),.eq (.bool true),.eq (.pointer (some ⟨w.heap.size,6,none⟩)),.eq (.slice (some ad) x.kids.length ck),.eq (.pointer (some ⟨ad.block,ad.off+7,none⟩)),.eq (.agg #[.int .i64 z.k,.string z.s,.float .f64 z.x,.int .i64 z.n,.bool z.b,(.slice Cn z.names.length en),(.slice Ck z.kids.length ek)]),.row (pr m .e z),.row ([⟨#[93]⟩]),.rows ([pr m .e y,[⟨#[91]⟩],pr m .e z,[⟨#[93]⟩]]),.row (pJ [pr m .e y,[⟨#[91]⟩],pr m .e z,[⟨#[93]⟩]]),.row (pJ [pr m .e y,[⟨#[91]⟩],pr m .e z,[⟨#[93]⟩]])] w2.heap.size (by rfl) (by kernel_rfl) ?steps ?fin
   case steps=>
    refine⟨?_,?_,?_,?_,?_,?_,?_,?_,?_,?_,?_,?_,?_,?_,?_,?_,?_,trivial⟩
    ·intro a w' hb ho hr
     have t0:a.tmps[0]? = some (.bool true):=ho 0 rfl;go_simp;exact⟨_,rfl,bR _ _,rfl⟩
    ·intro a w' hb ho hr
     have t3:a.tmps[3]? = some (.pointer (some ⟨w.heap.size,0,none⟩)):=ho 3 rfl;go_simp;exact⟨_,rfl,bR _ _,rfl⟩
    ·intro a w' hb ho hr
     obtain⟨u1,d1,rfl⟩:=hr 1 _ _ rfl rfl rfl;have c0:=pB hb v6;go_simp;exact⟨_,rfl,bR _ _,rfl⟩
    ·intro a w' hb ho hr
     obtain⟨u2,d2,rfl⟩:=hr 2 _ _ rfl rfl rfl;go_simp;exact⟨_,rfl,bR _ _,rfl⟩
    ·intro a w' hb ho hr
     obtain⟨u3,d3,rfl⟩:=hr 3 _ _ rfl rfl rfl;obtain⟨c0,c1,c2,c3,c4,c5,c6⟩:=pB7 hb x0 x1 x2 x3 x4 x5 x6;go_simp;exact⟨_,rfl,bR _ _,rfl⟩
    ·intro a w' hb ho hr
     obtain⟨u0,d0,rfl⟩:=hr 0 _ _ rfl rfl rfl;obtain⟨u4,d4,rfl⟩:=hr 4 _ _ rfl rfl rfl;go_simp
     go_at_call 65
     refine(HP.out.e y HWy.out Oy.out w' Bn dn Bk dk (HKy.out.below hb)).mono ?_;rintro e w8 ⟨u,rfl,hR,hB⟩;exact⟨_,rfl,hB,NR.lower hR hb.size⟩
    ·intro a w' hb ho hr
     go_simp;exact⟨_,rfl,bA (bR _ _) _,NR.lits w' _ hb.size [⟨#[91]⟩] (by simp)⟩
    ·intro a w' hb ho hr
     have t0:a.tmps[0]? = some (.bool true):=ho 0 rfl;go_simp;exact⟨_,rfl,bR _ _,rfl⟩
    ·intro a w' hb ho hr
     have t3:a.tmps[3]? = some (.pointer (some ⟨w.heap.size,0,none⟩)):=ho 3 rfl;go_simp;exact⟨_,rfl,bR _ _,rfl⟩
    ·intro a w' hb ho hr
     obtain⟨u8,d8,rfl⟩:=hr 8 _ _ rfl rfl rfl;have c0:=pB hb v6;go_simp;exact⟨_,rfl,bR _ _,rfl⟩
    ·intro a w' hb ho hr
     obtain⟨u9,d9,rfl⟩:=hr 9 _ _ rfl rfl rfl;go_simp;exact⟨_,rfl,bR _ _,rfl⟩
    ·intro a w' hb ho hr
     obtain⟨u10,d10,rfl⟩:=hr 10 _ _ rfl rfl rfl;obtain⟨c0,c1,c2,c3,c4,c5,c6⟩:=pB7 hb z0 z1 z2 z3 z4 z5 z6;go_simp;exact⟨_,rfl,bR _ _,rfl⟩
    ·intro a w' hb ho hr
     obtain⟨u7,d7,rfl⟩:=hr 7 _ _ rfl rfl rfl;obtain⟨u11,d11,rfl⟩:=hr 11 _ _ rfl rfl rfl;go_simp
     go_at_call 65
     refine(HP.out.e z HWz.out Oz.out w' Cn en Ck ek (HKz.out.below hb)).mono ?_;rintro e w8 ⟨u,rfl,hR,hB⟩;exact⟨_,rfl,hB,NR.lower hR hb.size⟩
    ·intro a w' hb ho hr
     go_simp;exact⟨_,rfl,bA (bR _ _) _,NR.lits w' _ hb.size [⟨#[93]⟩] (by simp)⟩
    ·intro a w' hb ho hr
     obtain⟨u5,d5,h5⟩:=hr 5 _ _ rfl rfl rfl;replace h5:NR w' w2.heap.size u5 (pr m .e y):=h5;obtain⟨A5,q5,rfl⟩:=h5.sl;obtain⟨u6,d6,h6⟩:=hr 6 _ _ rfl rfl rfl;replace h6:NR w' w2.heap.size u6 ([⟨#[91]⟩]):=h6;obtain⟨A6,q6,rfl⟩:=h6.sl;obtain⟨u12,d12,h12⟩:=hr 12 _ _ rfl rfl rfl;replace h12:NR w' w2.heap.size u12 (pr m .e z):=h12;obtain⟨A12,q12,rfl⟩:=h12.sl;obtain⟨u13,d13,h13⟩:=hr 13 _ _ rfl rfl rfl;replace h13:NR w' w2.heap.size u13 ([⟨#[93]⟩]):=h13;obtain⟨A13,q13,rfl⟩:=h13.sl;go_simp;exact⟨_,rfl,bA (bR _ _) _,LR.lit (ps:=[(.slice A5 (pr m .e y).length q5,pr m .e y),(.slice A6 ([⟨#[91]⟩]).length q6,[⟨#[91]⟩]),(.slice A12 (pr m .e z).length q12,pr m .e z),(.slice A13 ([⟨#[93]⟩]).length q13,[⟨#[93]⟩])]) hb.size (LRs.cons h5 (LRs.cons h6 (LRs.cons h12 (LRs.cons h13 LRs.nil)))) (by simp)⟩
    ·intro a w' hb ho hr
     obtain⟨u14,d14,h14⟩:=hr 14 _ _ rfl rfl rfl;replace h14:LR w' w2.heap.size u14 ([pr m .e y,[⟨#[91]⟩],pr m .e z,[⟨#[93]⟩]]):=h14;go_simp
     go_at_call 60
     refine(join_q h14 (by simp) (by simp;omega)).mono ?_;rintro e w8 ⟨u,rfl,hR,hB⟩;exact⟨_,rfl,hB,NR.lower hR hb.size⟩
    ·intro a w' hb ho hr
     obtain⟨u15,d15,h15⟩:=hr 15 _ _ rfl rfl rfl;replace h15:NR w' w2.heap.size u15 (pJ [pr m .e y,[⟨#[91]⟩],pr m .e z,[⟨#[93]⟩]]):=h15;obtain⟨A15,q15,rfl⟩:=h15.sl;go_simp;exact⟨_,rfl,bR _ _,h15⟩
   case fin=>
    intro a w' hb hd hs ho hr;obtain⟨u,du,hu⟩:=hr 16 _ _ rfl rfl;replace hu:NR w' w2.heap.size u (pJ [pr m .e y,[⟨#[91]⟩],pr m .e z,[⟨#[93]⟩]]):=hu;go_wp2_with fail;have e:pr (m+1) .e x=pJ [pr m .e y,[⟨#[91]⟩],pr m .e z,[⟨#[93]⟩]]:=by
     show sE (pr m) x=_
     simp[sE,pJ,kid,H1.out,HKY.out,hbn.out]
    refine⟨hd,u,by simp[results,Tryz.results65,du,go_sem],?_⟩;rw[e];exact⟨u,rfl,NR.lower hu HB.out.size,HB.out.trans (hb.mono HB.out.size)⟩
 | @call _ y zs h1 h2 hky0 oy oz=>
  rcases h1 with h1|h1
  ·have H1:=aM h1
   rw[h1] at v0;clear h1;have HKY:=aM hky0;simp only[hky0,wts] at hwx;have hl2:1<=x.kids.length:=by rw[hky0];simp
   have hl0:0<x.kids.length:=by omega
   have hl0I:(0:Int)<(x.kids.length:Int):=by omega
   have hly:=hlen .e y;obtain⟨ad,y',Bn,dn,Bk,dk,rfl,hy,_,x0,x1,x2,x3,x4,x5,x6,hky⟩:=kid_at HC.out (bR w1.heap.size w1) 0 (by omega);obtain rfl:y=y':=by rw[hky0] at hy;simpa using hy
   simp only[Nat.zero_mul,Addr.add_zero'] at x0 x1 x2 x3 x4 x5 x6;have HKy:=aM hky;have HWy:=aM (show y.wt<=m by omega);have Oy:=aM oy;clear hky0 hl2 hy hky oy;have hal:=hAl zs;have hd1:x.kids.drop 1=zs:=by rw[HKY.out];rfl
   have HZ:=aM hd1;have HOZ:=aM oz;have HWZ:=aM (show wts zs<=m by omega);have hcp0:¬ck=0:=by omega
   have hzl:zs.length=x.kids.length-1:=by rw[HKY.out];rfl
   have hcs:=Kd.C_drop HC.out (m:=1) (by omega) hcap;rw[hd1] at hcs;obtain⟨AS,hAS⟩:∃A,A=(if ck=1 then some ad else some ⟨ad.block,ad.off+7,none⟩):=⟨_,rfl⟩;have hcs2:nodeK.C w1 AS zs.length zs:=by rw[hAS];exact hcs
   have hl1c:(1:Int)<=(x.kids.length:Int):=by omega
   have HCS:=aM hcs2;have HAS:=aM hAS;have HZL:=aM hzl;have HLE:=aM (show zs.length<=ck-1 by omega);clear hd1 oz hcs hcs2 hAS hzl;go_upto_region 22 with fail;refine wp_region_specs [.eq (.bool true),.eq (.pointer (some ⟨w.heap.size,6,none⟩)),.eq (.slice (some ad) x.kids.length ck),.eq (.pointer (some ad)),.eq (.agg #[.int .i64 y.k,.string y.s,.float .f64 y.x,.int .i64 y.n,.bool y.b,(.slice Bn y.names.length dn),(.slice Bk y.kids.length dk)]),.row (pr m .e y),.eq (.bool true),.eq (.pointer (some ⟨w.heap.size,6,none⟩)),.eq (.slice (some ad) x.kids.length ck),.eq (.slice AS zs.length (ck-1)),.row (sArgs (pr m) zs),.rows ([pr m .e y,sArgs (pr m) zs]),.row (pJ [pr m .e y,sArgs (pr m) zs]),.row (pJ [pr m .e y,sArgs (pr m) zs])] w1.heap.size (by rfl) (by kernel_rfl) ?steps ?fin
   case steps=>
    refine⟨?_,?_,?_,?_,?_,?_,?_,?_,?_,?_,?_,?_,?_,?_,trivial⟩
    ·intro a w' hb ho hr
     have t0:a.tmps[0]? = some (.bool true):=ho 0 rfl;go_simp;exact⟨_,rfl,bR _ _,rfl⟩
    ·intro a w' hb ho hr
     have t3:a.tmps[3]? = some (.pointer (some ⟨w.heap.size,0,none⟩)):=ho 3 rfl;go_simp;exact⟨_,rfl,bR _ _,rfl⟩
    ·intro a w' hb ho hr
     obtain⟨u1,d1,rfl⟩:=hr 1 _ _ rfl rfl rfl;have c0:=pB hb v6;go_simp;exact⟨_,rfl,bR _ _,rfl⟩
    ·intro a w' hb ho hr
     obtain⟨u2,d2,rfl⟩:=hr 2 _ _ rfl rfl rfl;go_simp;exact⟨_,rfl,bR _ _,rfl⟩
    ·intro a w' hb ho hr
     obtain⟨u3,d3,rfl⟩:=hr 3 _ _ rfl rfl rfl;obtain⟨c0,c1,c2,c3,c4,c5,c6⟩:=pB7 hb x0 x1 x2 x3 x4 x5 x6;go_simp;exact⟨_,rfl,bR _ _,rfl⟩
    ·intro a w' hb ho hr
     obtain⟨u0,d0,rfl⟩:=hr 0 _ _ rfl rfl rfl;obtain⟨u4,d4,rfl⟩:=hr 4 _ _ rfl rfl rfl;go_simp
     go_at_call 65
     refine(HP.out.e y HWy.out Oy.out w' Bn dn Bk dk (HKy.out.below hb)).mono ?_;rintro e w8 ⟨u,rfl,hR,hB⟩;exact⟨_,rfl,hB,NR.lower hR hb.size⟩
    ·intro a w' hb ho hr
     have t0:a.tmps[0]? = some (.bool true):=ho 0 rfl;go_simp;exact⟨_,rfl,bR _ _,rfl⟩
    ·intro a w' hb ho hr
     have t3:a.tmps[3]? = some (.pointer (some ⟨w.heap.size,0,none⟩)):=ho 3 rfl;go_simp;exact⟨_,rfl,bR _ _,rfl⟩
    ·intro a w' hb ho hr
     obtain⟨u7,d7,rfl⟩:=hr 7 _ _ rfl rfl rfl;have c0:=pB hb v6;go_simp;exact⟨_,rfl,bR _ _,rfl⟩
    ·intro a w' hb ho hr
     obtain⟨u8,d8,rfl⟩:=hr 8 _ _ rfl rfl rfl;go_simp;exact⟨_,rfl,bR _ _,by show Value.slice _ _ _=Value.slice _ _ _;rw[HAS.out,HZL.out]⟩
    ·intro a w' hb ho hr
     obtain⟨u6,d6,rfl⟩:=hr 6 _ _ rfl rfl rfl;obtain⟨u9,d9,rfl⟩:=hr 9 _ _ rfl rfl rfl;go_simp
     go_at_call 103
     refine(HA.out zs HWZ.out HOZ.out w' AS (ck-1) HLE.out (Kd.C_below HCS.out hb)).mono ?_;rintro e w8 ⟨u,rfl,hR,hB⟩;exact⟨_,rfl,hB,NR.lower hR hb.size⟩
    ·intro a w' hb ho hr
     obtain⟨u5,d5,h5⟩:=hr 5 _ _ rfl rfl rfl;replace h5:NR w' w1.heap.size u5 (pr m .e y):=h5;obtain⟨A5,q5,rfl⟩:=h5.sl;obtain⟨u10,d10,h10⟩:=hr 10 _ _ rfl rfl rfl;replace h10:NR w' w1.heap.size u10 (sArgs (pr m) zs):=h10;obtain⟨A10,q10,rfl⟩:=h10.sl;go_simp;exact⟨_,rfl,bA (bR _ _) _,LR.lit (ps:=[(.slice A5 (pr m .e y).length q5,pr m .e y),(.slice A10 (sArgs (pr m) zs).length q10,sArgs (pr m) zs)]) hb.size (LRs.cons h5 (LRs.cons h10 LRs.nil)) (by simp)⟩
    ·intro a w' hb ho hr
     obtain⟨u11,d11,h11⟩:=hr 11 _ _ rfl rfl rfl;replace h11:LR w' w1.heap.size u11 ([pr m .e y,sArgs (pr m) zs]):=h11;go_simp
     go_at_call 60
     refine(join_q h11 (by simp) (by simp;omega)).mono ?_;rintro e w8 ⟨u,rfl,hR,hB⟩;exact⟨_,rfl,hB,NR.lower hR hb.size⟩
    ·intro a w' hb ho hr
     obtain⟨u12,d12,h12⟩:=hr 12 _ _ rfl rfl rfl;replace h12:NR w' w1.heap.size u12 (pJ [pr m .e y,sArgs (pr m) zs]):=h12;obtain⟨A12,q12,rfl⟩:=h12.sl;go_simp;exact⟨_,rfl,bR _ _,h12⟩
   case fin=>
    intro a w' hb hd hs ho hr;obtain⟨u,du,hu⟩:=hr 13 _ _ rfl rfl;replace hu:NR w' w1.heap.size u (pJ [pr m .e y,sArgs (pr m) zs]):=hu;go_wp2_with fail;have e:pr (m+1) .e x=pJ [pr m .e y,sArgs (pr m) zs]:=by
     show sE (pr m) x=_
     simp[sE,pJ,kid,H1.out,HKY.out]
    refine⟨hd,u,by simp[results,Tryz.results65,du,go_sem],?_⟩;rw[e];exact⟨u,rfl,NR.lower hu HB.out.size,HB.out.trans (hb.mono HB.out.size)⟩
  ·have H1:=aM h1
   rw[h1] at v0;clear h1;have HKY:=aM hky0;simp only[hky0,wts] at hwx;have hl2:1<=x.kids.length:=by rw[hky0];simp
   have hl0:0<x.kids.length:=by omega
   have hl0I:(0:Int)<(x.kids.length:Int):=by omega
   have hly:=hlen .e y;obtain⟨ad,y',Bn,dn,Bk,dk,rfl,hy,_,x0,x1,x2,x3,x4,x5,x6,hky⟩:=kid_at HC.out (bR w1.heap.size w1) 0 (by omega);obtain rfl:y=y':=by rw[hky0] at hy;simpa using hy
   simp only[Nat.zero_mul,Addr.add_zero'] at x0 x1 x2 x3 x4 x5 x6;have HKy:=aM hky;have HWy:=aM (show y.wt<=m by omega);have Oy:=aM oy;clear hky0 hl2 hy hky oy;have hal:=hAl zs;have hd1:x.kids.drop 1=zs:=by rw[HKY.out];rfl
   have HZ:=aM hd1;have HOZ:=aM oz;have HWZ:=aM (show wts zs<=m by omega);have hcp0:¬ck=0:=by omega
   have hzl:zs.length=x.kids.length-1:=by rw[HKY.out];rfl
   have hcs:=Kd.C_drop HC.out (m:=1) (by omega) hcap;rw[hd1] at hcs;obtain⟨AS,hAS⟩:∃A,A=(if ck=1 then some ad else some ⟨ad.block,ad.off+7,none⟩):=⟨_,rfl⟩;have hcs2:nodeK.C w1 AS zs.length zs:=by rw[hAS];exact hcs
   have hl1c:(1:Int)<=(x.kids.length:Int):=by omega
   have HCS:=aM hcs2;have HAS:=aM hAS;have HZL:=aM hzl;have HLE:=aM (show zs.length<=ck-1 by omega);clear hd1 oz hcs hcs2 hAS hzl;go_upto_region 24 with fail;refine wp_region_specs [.eq (.bool true),.eq (.pointer (some ⟨w.heap.size,6,none⟩)),.eq (.slice (some ad) x.kids.length ck),.eq (.pointer (some ad)),.eq (.agg #[.int .i64 y.k,.string y.s,.float .f64 y.x,.int .i64 y.n,.bool y.b,(.slice Bn y.names.length dn),(.slice Bk y.kids.length dk)]),.row (pr m .e y),.eq (.pointer (some ⟨w.heap.size,1,none⟩)),.eq (.string x.s),.row ([⟨#[58]⟩,x.s]),.eq (.bool true),.eq (.pointer (some ⟨w.heap.size,6,none⟩)),.eq (.slice (some ad) x.kids.length ck),.eq (.slice AS zs.length (ck-1)),.row (sArgs (pr m) zs),.rows ([pr m .e y,[⟨#[58]⟩,x.s],sArgs (pr m) zs]),.row (pJ [pr m .e y,[⟨#[58]⟩,x.s],sArgs (pr m) zs]),.row (pJ [pr m .e y,[⟨#[58]⟩,x.s],sArgs (pr m) zs])] w1.heap.size (by rfl) (by kernel_rfl) ?steps ?fin
   case steps=>
    refine⟨?_,?_,?_,?_,?_,?_,?_,?_,?_,?_,?_,?_,?_,?_,?_,?_,?_,trivial⟩
    ·intro a w' hb ho hr
     have t0:a.tmps[0]? = some (.bool true):=ho 0 rfl;go_simp;exact⟨_,rfl,bR _ _,rfl⟩
    ·intro a w' hb ho hr
     have t3:a.tmps[3]? = some (.pointer (some ⟨w.heap.size,0,none⟩)):=ho 3 rfl;go_simp;exact⟨_,rfl,bR _ _,rfl⟩
    ·intro a w' hb ho hr
     obtain⟨u1,d1,rfl⟩:=hr 1 _ _ rfl rfl rfl;have c0:=pB hb v6;go_simp;exact⟨_,rfl,bR _ _,rfl⟩
    ·intro a w' hb ho hr
     obtain⟨u2,d2,rfl⟩:=hr 2 _ _ rfl rfl rfl;go_simp;exact⟨_,rfl,bR _ _,rfl⟩
    ·intro a w' hb ho hr
     obtain⟨u3,d3,rfl⟩:=hr 3 _ _ rfl rfl rfl;obtain⟨c0,c1,c2,c3,c4,c5,c6⟩:=pB7 hb x0 x1 x2 x3 x4 x5 x6;go_simp;exact⟨_,rfl,bR _ _,rfl⟩
    ·intro a w' hb ho hr
     obtain⟨u0,d0,rfl⟩:=hr 0 _ _ rfl rfl rfl;obtain⟨u4,d4,rfl⟩:=hr 4 _ _ rfl rfl rfl;go_simp
     go_at_call 65
     refine(HP.out.e y HWy.out Oy.out w' Bn dn Bk dk (HKy.out.below hb)).mono ?_;rintro e w8 ⟨u,rfl,hR,hB⟩;exact⟨_,rfl,hB,NR.lower hR hb.size⟩
    ·intro a w' hb ho hr
     have t3:a.tmps[3]? = some (.pointer (some ⟨w.heap.size,0,none⟩)):=ho 3 rfl;go_simp;exact⟨_,rfl,bR _ _,rfl⟩
    ·intro a w' hb ho hr
     obtain⟨u6,d6,rfl⟩:=hr 6 _ _ rfl rfl rfl;have c0:=pB hb v1;go_simp;exact⟨_,rfl,bR _ _,rfl⟩
    ·intro a w' hb ho hr
     obtain⟨u7,d7,rfl⟩:=hr 7 _ _ rfl rfl rfl;go_simp;exact⟨_,rfl,bA (bR _ _) _,NR.lits w' _ hb.size [⟨#[58]⟩,x.s] (by simp)⟩
    ·intro a w' hb ho hr
     have t0:a.tmps[0]? = some (.bool true):=ho 0 rfl;go_simp;exact⟨_,rfl,bR _ _,rfl⟩
    ·intro a w' hb ho hr
     have t3:a.tmps[3]? = some (.pointer (some ⟨w.heap.size,0,none⟩)):=ho 3 rfl;go_simp;exact⟨_,rfl,bR _ _,rfl⟩
    ·intro a w' hb ho hr
     obtain⟨u10,d10,rfl⟩:=hr 10 _ _ rfl rfl rfl;have c0:=pB hb v6;go_simp;exact⟨_,rfl,bR _ _,rfl⟩
    ·intro a w' hb ho hr
     obtain⟨u11,d11,rfl⟩:=hr 11 _ _ rfl rfl rfl;go_simp;exact⟨_,rfl,bR _ _,by show Value.slice _ _ _=Value.slice _ _ _;rw[HAS.out,HZL.out]⟩
    ·intro a w' hb ho hr
     obtain⟨u9,d9,rfl⟩:=hr 9 _ _ rfl rfl rfl;obtain⟨u12,d12,rfl⟩:=hr 12 _ _ rfl rfl rfl;go_simp
     go_at_call 103
     refine(HA.out zs HWZ.out HOZ.out w' AS (ck-1) HLE.out (Kd.C_below HCS.out hb)).mono ?_;rintro e w8 ⟨u,rfl,hR,hB⟩;exact⟨_,rfl,hB,NR.lower hR hb.size⟩
    ·intro a w' hb ho hr
     obtain⟨u5,d5,h5⟩:=hr 5 _ _ rfl rfl rfl;replace h5:NR w' w1.heap.size u5 (pr m .e y):=h5;obtain⟨A5,q5,rfl⟩:=h5.sl;obtain⟨u8,d8,h8⟩:=hr 8 _ _ rfl rfl rfl;replace h8:NR w' w1.heap.size u8 ([⟨#[58]⟩,x.s]):=h8;obtain⟨A8,q8,rfl⟩:=h8.sl;obtain⟨u13,d13,h13⟩:=hr 13 _ _ rfl rfl rfl;replace h13:NR w' w1.heap.size u13 (sArgs (pr m) zs):=h13;obtain⟨A13,q13,rfl⟩:=h13.sl;go_simp;exact⟨_,rfl,bA (bR _ _) _,LR.lit (ps:=[(.slice A5 (pr m .e y).length q5,pr m .e y),(.slice A8 ([⟨#[58]⟩,x.s]).length q8,[⟨#[58]⟩,x.s]),(.slice A13 (sArgs (pr m) zs).length q13,sArgs (pr m) zs)]) hb.size (LRs.cons h5 (LRs.cons h8 (LRs.cons h13 LRs.nil))) (by simp)⟩
    ·intro a w' hb ho hr
     obtain⟨u14,d14,h14⟩:=hr 14 _ _ rfl rfl rfl;replace h14:LR w' w1.heap.size u14 ([pr m .e y,[⟨#[58]⟩,x.s],sArgs (pr m) zs]):=h14;go_simp
     go_at_call 60
     refine(join_q h14 (by simp) (by simp;omega)).mono ?_;rintro e w8 ⟨u,rfl,hR,hB⟩;exact⟨_,rfl,hB,NR.lower hR hb.size⟩
    ·intro a w' hb ho hr
     obtain⟨u15,d15,h15⟩:=hr 15 _ _ rfl rfl rfl;replace h15:NR w' w1.heap.size u15 (pJ [pr m .e y,[⟨#[58]⟩,x.s],sArgs (pr m) zs]):=h15;obtain⟨A15,q15,rfl⟩:=h15.sl;go_simp;exact⟨_,rfl,bR _ _,h15⟩
   case fin=>
    intro a w' hb hd hs ho hr;obtain⟨u,du,hu⟩:=hr 16 _ _ rfl rfl;replace hu:NR w' w1.heap.size u (pJ [pr m .e y,[⟨#[58]⟩,x.s],sArgs (pr m) zs]):=hu;go_wp2_with fail;have e:pr (m+1) .e x=pJ [pr m .e y,[⟨#[58]⟩,x.s],sArgs (pr m) zs]:=by
     show sE (pr m) x=_
     simp[sE,pJ,kid,H1.out,HKY.out]
    refine⟨hd,u,by simp[results,Tryz.results65,du,go_sem],?_⟩;rw[e];exact⟨u,rfl,NR.lower hu HB.out.size,HB.out.trans (hb.mono HB.out.size)⟩
 |tab h1 h2 h3=>
  have H1:=aM h1;rw[h1] at v0;clear h1;have HO:=aM h3;have hfl:=hFl x.kids;have HWZ:=aM (show wts x.kids<=m by omega);clear h3;go_upto_region 31 with fail;refine wp_region_specs_seq [.row ([⟨#[123]⟩]),.eq (.bool true),.eq (.pointer (some ⟨w.heap.size,6,none⟩)),.eq (.slice Ak x.kids.length ck),.row (sFields (pr m) x.kids),.row ([⟨#[125]⟩]),.rows ([[⟨#[123]⟩],sFields (pr m) x.kids,[⟨#[125]⟩]]),.row (pJ [[⟨#[123]⟩],sFields (pr m) x.kids,[⟨#[125]⟩]]),.row (pJ [[⟨#[123]⟩],sFields (pr m) x.kids,[⟨#[125]⟩]])] w1.heap.size (by kernel_rfl) ?steps ?fin
  case steps=>
   refine⟨?_,?_,?_,?_,?_,?_,?_,?_,?_,trivial⟩
   ·intro a w' hb ho hr
    go_simp;exact⟨_,rfl,bA (bR _ _) _,NR.lits w' _ hb.size [⟨#[123]⟩] (by simp)⟩
   ·intro a w' hb ho hr
    have t0:a.tmps[0]? = some (.bool true):=ho 0 rfl;go_simp;exact⟨_,rfl,bR _ _,rfl⟩
   ·intro a w' hb ho hr
    have t3:a.tmps[3]? = some (.pointer (some ⟨w.heap.size,0,none⟩)):=ho 3 rfl;go_simp;exact⟨_,rfl,bR _ _,rfl⟩
   ·intro a w' hb ho hr
    obtain⟨u2,d2,rfl⟩:=hr 2 _ _ rfl rfl rfl;have c0:=pB hb v6;go_simp;exact⟨_,rfl,bR _ _,rfl⟩
   ·intro a w' hb ho hr
    obtain⟨u1,d1,rfl⟩:=hr 1 _ _ rfl rfl rfl;obtain⟨u3,d3,rfl⟩:=hr 3 _ _ rfl rfl rfl;go_simp
    go_at_call 104
    refine(HFd.out x.kids HWZ.out HO.out w' Ak ck hcap (Kd.C_below HC.out hb)).mono ?_;rintro e w8 ⟨u,rfl,hR,hB⟩;exact⟨_,rfl,hB,NR.lower hR hb.size⟩
   ·intro a w' hb ho hr
    go_simp;exact⟨_,rfl,bA (bR _ _) _,NR.lits w' _ hb.size [⟨#[125]⟩] (by simp)⟩
   ·intro a w' hb ho hr
    obtain⟨u0,d0,h0⟩:=hr 0 _ _ rfl rfl rfl;replace h0:NR w' w1.heap.size u0 ([⟨#[123]⟩]):=h0;obtain⟨A0,q0,rfl⟩:=h0.sl;obtain⟨u4,d4,h4⟩:=hr 4 _ _ rfl rfl rfl;replace h4:NR w' w1.heap.size u4 (sFields (pr m) x.kids):=h4;obtain⟨A4,q4,rfl⟩:=h4.sl;obtain⟨u5,d5,h5⟩:=hr 5 _ _ rfl rfl rfl;replace h5:NR w' w1.heap.size u5 ([⟨#[125]⟩]):=h5;obtain⟨A5,q5,rfl⟩:=h5.sl;go_simp;exact⟨_,rfl,bA (bR _ _) _,LR.lit (ps:=[(.slice A0 ([⟨#[123]⟩]).length q0,[⟨#[123]⟩]),(.slice A4 (sFields (pr m) x.kids).length q4,sFields (pr m) x.kids),(.slice A5 ([⟨#[125]⟩]).length q5,[⟨#[125]⟩])]) hb.size (LRs.cons h0 (LRs.cons h4 (LRs.cons h5 LRs.nil))) (by simp)⟩
   ·intro a w' hb ho hr
    obtain⟨u6,d6,h6⟩:=hr 6 _ _ rfl rfl rfl;replace h6:LR w' w1.heap.size u6 ([[⟨#[123]⟩],sFields (pr m) x.kids,[⟨#[125]⟩]]):=h6;go_simp
    go_at_call 60
    refine(join_q h6 (by simp) (by simp;omega)).mono ?_;rintro e w8 ⟨u,rfl,hR,hB⟩;exact⟨_,rfl,hB,NR.lower hR hb.size⟩
   ·intro a w' hb ho hr
    obtain⟨u7,d7,h7⟩:=hr 7 _ _ rfl rfl rfl;replace h7:NR w' w1.heap.size u7 (pJ [[⟨#[123]⟩],sFields (pr m) x.kids,[⟨#[125]⟩]]):=h7;obtain⟨A7,q7,rfl⟩:=h7.sl;go_simp;exact⟨_,rfl,bR _ _,h7⟩
  case fin=>
   intro a w' hb hd hs ho hr;obtain⟨u,du,hu⟩:=hr 8 _ _ rfl rfl;replace hu:NR w' w1.heap.size u (pJ [[⟨#[123]⟩],sFields (pr m) x.kids,[⟨#[125]⟩]]):=hu;go_wp2_with fail;have e:pr (m+1) .e x=pJ [[⟨#[123]⟩],sFields (pr m) x.kids,[⟨#[125]⟩]]:=by
    show sE (pr m) x=_
    simp[sE,pJ,kid,H1.out]
   refine⟨hd,u,by simp[results,Tryz.results65,du,go_sem],?_⟩;rw[e];exact⟨u,rfl,NR.lower hu HB.out.size,HB.out.trans (hb.mono HB.out.size)⟩
structure Tw2(w wr:World)(v:Value)(l:List ByteArray):Prop where
 b:Below w.heap.size w wr
 r:NR wr w.heap.size v l
section
variable {w wr w1:World} {v:Value} {l:List ByteArray} {b2:Nat}
variable {ops:Array Oper} {rest:List Oper} {o:Oper} {act:Act} {Q:Exit->Act->World->Prop}
theorem Tw2.below(h:Tw2 w wr v l)(hb:Below wr.heap.size wr w1):Tw2 w w1 v l:=⟨h.b.trans (hb.mono h.b.size),h.r.below hb⟩
theorem Tw2.alloc(h:Tw2 w wr v l)(o:Obj):Tw2 w (wr.alloc o) v l:=h.below (bA (bR _ _) o)
theorem Tw2.push(hgd:o.guard=none)(s p:Operand)(ho:o.op = .call {callee:= .builtin .append,args:= #[s,p],argTypes:= #[24,24]})
  (hs:act.eval s=v) {N:Nat} (hp:act.eval p = .slice (some ⟨N,0,none⟩) 1 1) (h:Tw2 w wr v l) (hN:wr.heap.size=N) (t:ByteArray) (hl:l.length<=10000000)
  (hK:∀A1 c1 w1,Tw2 w w1 (.slice A1 (l.length+1) c1) (l++[t])->(∀q cs,Vb wr q cs->Vb w1 q cs)->wpList Tryz.prog ops Q rest (act.put o.dst (.slice A1 (l.length+1) c1)) w1):
  wpList Tryz.prog ops Q (o::rest) act (wr.alloc (.cells #[.string t] 9)):=by
 subst hN;refine Kd.R_append (P:=Tryz.prog) Kd.string (w0:=w) w.heap.size hgd s p 24 9 (.string ⟨#[]⟩) 16 ho Tryz.underlying24 info9 rfl (by decide) (by decide) v l t [.string t] (fun _=>True) (fun _=>False) hs hp
  rfl (fun k hk=>hk.elim) (fun k hk=>trivial) h.r h.b h.b.size (by omega) ?_
 intro v1 w1 hR hb hg _;obtain⟨A1,c1,rfl⟩:=Kd.R_slice hR;rw[List.length_append,List.length_singleton] at hR|-;exact hK A1 c1 w1 ⟨hb,hR⟩ (fun q cs hV=>blk_grown hV hg (Kd.R_ne h.r hV (by decide)))
theorem Tw2.cat(hgd:o.guard=none)(s p:Operand)(ho:o.op = .call {callee:= .builtin .append,args:= #[s,p],argTypes:= #[24,24]})
  (hs:act.eval s=v) {us:List ByteArray} {A:Option Addr} {m cp:Nat} (hp:act.eval p = .slice A m cp) (h:Tw2 w wr v l) (hu:NR wr b2 (.slice A m cp) us) (hl:l.length+m<=10000000)
  (hK:∀A1 c1 w1,Tw2 w w1 (.slice A1 (l.length+us.length) c1) (l++us)->(∀q cs,Vb wr q cs->Vb w1 q cs)->wpList Tryz.prog ops Q rest (act.put o.dst (.slice A1 (l.length+us.length) c1)) w1):
  wpList Tryz.prog ops Q (o::rest) act wr:=by
 obtain⟨A',cp',he,hlc,hr⟩:=OwnRow.reads hu.2
 injection he with e1 e2 e3
 subst e1;refine Kd.R_append_rows (P:=Tryz.prog) Kd.string (Rr:=Kd.string.M wr b2 (fun j=>True/\some j≠(Value.slice A m cp).ownBlock)) (w0:=w) w.heap.size hgd s p 24 9 (.string ⟨#[]⟩) 16 ho Tryz.underlying24 info9 rfl (by decide) (by decide) v l us A m cp (fun _=>True) (fun _=>False) hs hp h.r
  ?_ (fun _ _ hk=>hk) (fun j hj=>hj.elim) (fun j hj=>trivial) h.b h.b.size (by omega) ?_
 ·rw[e2]
  exact hr
 ·intro v1 w1 hR hb hg _
  obtain⟨A1,c1,rfl⟩:=Kd.R_slice hR;rw[List.length_append] at hR|-;exact hK A1 c1 w1 ⟨hb,hR⟩ (fun q cs hV=>blk_grown hV hg (Kd.R_ne h.r hV (by decide)))
end
theorem Tw2.out{w w':World}{v:Value}{l:List ByteArray}(h:Tw2 w w' v l):OutR w l (.returned v) w':=⟨v,rfl,h.r,h.b⟩
theorem pComma_take(xs:List (List ByteArray))(i:Nat)(h:i<xs.length):pComma (xs.take (i+1))=(if i=0 then [] else pComma (xs.take i)++[(⟨#[44]⟩:ByteArray)])++xs[i]:=by
 rw[List.take_succ_eq_append_getElem h]
 by_cases h0:i=0
 ·subst h0
  simp[pComma]
 ·rw[if_neg h0,pComma_snoc _ _ (by simp[List.take_eq_nil_iff];exact⟨h0,fun e=>by rw[e] at h;simp at h⟩)]
theorem sum_take_le(f:Nd->List ByteArray)(C D:Nat)(hf:∀y:Nd,(f y).length<=C*y.wt+D):∀(l:List Nd) (i:Nat),((l.map f).take i).flatten.length<=(C+D)*wts l
 |[],i=>by simp
 |y::r,0=>by simp
 |y::r,i+1=>by
  have h1:=sum_take_le f C D hf r i;have h2:=hf y;have h3:1<=y.wt:=by have:=wt_eq y;omega
  have h4:D<=D*y.wt:=Nat.le_mul_of_pos_right _ h3;simp only[List.map_cons,List.take_succ_cons,List.flatten_cons,List.length_append,wts];rw[Nat.mul_add,Nat.add_mul];omega
theorem comma_take_le(f:Nd->List ByteArray)(C D:Nat)(hf:∀y:Nd,(f y).length<=C*y.wt+D)(l:List Nd)(i:Nat):(pComma ((l.map f).take i)).length<=(C+D+1)*wts l:=by
 have h1:=pComma_len ((l.map f).take i);have h2:=sum_take_le f C D hf l i;have h3:((l.map f).take i).length<=wts l:=by
  rw[List.length_take,List.length_map];have:=wts_len l;omega
 have h4:(C+D+1)*wts l=(C+D)*wts l+wts l:=by rw[Nat.add_mul (C+D) 1,Nat.one_mul]
 omega
set_option maxRecDepth 10000 in
set_option maxHeartbeats 4000000 in
theorem list_pr(m:Nat)(hm:m<=6010)(hP:PA m)(hlen:∀s x,(pr m s x).length<=10*x.wt):LCt 62 m .e (sList (pr m)):=by
 intro l hl hO w A cp hcp hC;have HP:=aM hP;have HC:=aM hC;have HO:=aM hO;have HCT:=aM (fun i=>comma_take_le (pr m .e) 10 0 (fun y=>by have:=hlen .e y;omega) l i);have HLN:=aM hlen;have HWL:=aM hl;have hll:l.length<=6010:=by have:=wts_len l;omega
 have HT:=aM (show Tw2 w (w.alloc (.cells #[] 9)) (.slice (some ⟨w.heap.size,0,none⟩) 0 0) (pComma ((l.map (pr m .e)).take 0)) from⟨bA (bR _ _) _,NR.lit0 w w.heap.size (Nat.le_refl _)⟩);clear hP hC hO hlen hl;go_enter Tryz.func62,Tryz.ntmps62
 go_wp2_with fail;generalize w.alloc _=w1 at HT|-;go_loopg [5,11] l.length (fun k v5 v11 wr=>∃(i:Nat) (AL:Option Addr) (cL nL:Nat),v5 = .slice AL nL cL/\v11 = .int .i64 (i:Int)/\k=l.length-i/\i<=l.length/\Aside0 (nL=(pComma ((l.map (pr m .e)).take i)).length)/\Aside0 (Tw2 w wr (.slice AL nL cL) (pComma ((l.map (pr m .e)).take i))))
 case atStart=>exact⟨0,_,_,_,rfl,rfl,rfl,Nat.zero_le _,⟨rfl⟩,HT⟩
 case round=>
  clear HT;obtain⟨i,AL,cL,nL,rfl,rfl,hk,hi,HNL,HT⟩:=hrel
  by_cases hlt:i<l.length
  case neg=>
   have hltI:¬((i:Int)<(l.length:Int)):=by omega
   go_wp2_with fail;go_ret;have e:pComma ((l.map (pr m .e)).take i)=sList (pr m) l:=by
    unfold sList;rw[List.take_of_length_le (by rw[List.length_map];omega)]
   rw[<-e];exact HT.out.out
  case pos=>
   have hltI:(i:Int)<(l.length:Int):=by omega
   have h0I:(0:Int)<=(i:Int):=by omega
   have qi:IntKind.i64.wrap ((i:Int)+1)=((i+1:Nat):Int):=by rw[IntWalk.i64_in _ (by omega)];omega
   obtain⟨ad,y,Bn,dn,Bk,dk,rfl,hy,hym,x0,x1,x2,x3,x4,x5,x6,hky⟩:=kid_at HC.out (bR w.heap.size w) i hlt;replace x0:=pB HT.out.b x0;replace x1:=pB HT.out.b x1;replace x2:=pB HT.out.b x2;replace x3:=pB HT.out.b x3;replace x4:=pB HT.out.b x4;replace x5:=pB HT.out.b x5;replace x6:=pB HT.out.b x6;have HKW:=aM hky;have ei:((i:Nat):Int).toNat=i:=by omega
   have HK:=aM (hky.below (bA HT.out.b (.cells #[.int .i64 y.k,.string y.s,.float .f64 y.x,.int .i64 y.n,.bool y.b,(.slice Bn y.names.length dn),(.slice Bk y.kids.length dk)] 27)));have HOY:=aM (HO.out y hym);have HWY:=aM (show y.wt<=m by have:=wts_mem hym;have:=HWL.out;omega);have HYL:=aM (show(pr m .e y).length<=60100 by have:=HLN.out .e y;have:=HWY.out;omega);have HYI:=aM (show pComma ((l.map (pr m .e)).take (i+1))=(if i=0 then [] else pComma ((l.map (pr m .e)).take i)++[(⟨#[44]⟩:ByteArray)])++pr m .e y from by
    rw[pComma_take _ i (by rw[List.length_map];exact hlt),List.getElem_map];rw[List.getElem?_eq_getElem hlt] at hy;rw[Option.some.inj hy])
   have HLI:=aM (show(pComma ((l.map (pr m .e)).take i)).length<=70000 by have:=HCT.out i;have:=HWL.out;omega);have HT2:=aM (HT.out.alloc (.cells #[.int .i64 y.k,.string y.s,.float .f64 y.x,.int .i64 y.n,.bool y.b,(.slice Bn y.names.length dn),(.slice Bk y.kids.length dk)] 27));have HV:=aM (Vb.new wr #[.int .i64 y.k,.string y.s,.float .f64 y.x,.int .i64 y.n,.bool y.b,(.slice Bn y.names.length dn),(.slice Bk y.kids.length dk)]);clear HT hky hy hym;go_upto_region 5 with fail;generalize wr.alloc _=w2 at HT2 HK HV|-;generalize wr.heap.size=n7 at HV|-
   by_cases h0:i=0
   case pos=>
    subst h0;obtain⟨v0,v1,v2,v3,v4,v5,v6⟩:=bC7 HV.out;go_wp2_with fail;refine(HP.out.e y HWY.out HOY.out w2 Bn dn Bk dk HK.out).mono ?_;rintro e w8 ⟨u,rfl,hR,hB⟩;obtain⟨Au,cu,rfl⟩:=hR.sl;have HR:=aM hR;have HT3:=aM (HT2.out.below hB);have HN0:=aM (show nL=0 by rw[HNL.out];rfl);clear hR hB HT2 HNL;go_wp2_with (at_builtin;refine Tw2.cat rfl (.tmp 21) (.tmp 24) (by rfl) (by rfl) (by rfl) HT3.out HR.out (by have:=HYL.out;have:=HLI.out;omega) ?_;intro A9 c9 w9 h9 v9;have H9:=aM h9;clear h9 v9)
    go_roundg (l.length-(0+1))
    case measure=>omega
    case rel=>exact⟨0+1,A9,c9,_,rfl,by first|rfl|simp[qi],rfl,by omega,⟨by rw[HYI.out];simp[pComma]⟩,by rw[HYI.out];simpa[pComma] using H9⟩
   case neg=>
    have h0I2:(i:Int)>0:=by omega
    obtain⟨v0,v1,v2,v3,v4,v5,v6⟩:=bC7 HV.out;go_wp2_with (at_builtin;refine Tw2.push rfl (.tmp 18) (.tmp 19) (by rfl) (by rfl) (by rfl) HT2.out (by rfl) ⟨#[44]⟩ (by have:=HLI.out;omega) ?_;intro A8 c8 w9 h9 v9;have H9:=aM h9;have HV9:=aM (v9 _ _ HV.out);have s0:=bC HV9.out 0;have s1:=bC HV9.out 1;have s2:=bC HV9.out 2;have s3:=bC HV9.out 3;have s4:=bC HV9.out 4;have s5:=bC HV9.out 5;have s6:=bC HV9.out 6;clear h9 v9)
    have HK9:=aM (HKW.out.below H9.out.b);refine(HP.out.e y HWY.out HOY.out w9 Bn dn Bk dk HK9.out).mono ?_;rintro e w8 ⟨u,rfl,hR,hB⟩;obtain⟨Au,cu,rfl⟩:=hR.sl;have HR:=aM hR;have HT3:=aM (H9.out.below hB);clear hR hB HT2;go_wp2_with (at_builtin;refine Tw2.cat rfl (.tmp 21) (.tmp 24) (by rfl) (by rfl) (by rfl) HT3.out HR.out (by have:=HYL.out;have:=HLI.out;simp;omega) ?_;intro A7 c7 w7 h7 v7;have H7:=aM h7;clear h7 v7)
    go_roundg (l.length-(i+1))
    case measure=>omega
    case rel=>exact⟨i+1,A7,c7,_,rfl,by first|rfl|simp[qi],rfl,by omega,⟨by rw[HYI.out,if_neg h0,List.length_append,List.length_append,List.length_singleton]⟩,by rw[HYI.out,if_neg h0];simpa using H7⟩
theorem wordy_q(x:Int)(w:World):Calls Tryz.prog 59 #[.int .u8 x] w fun e w'=>e = .returned (.bool (isWy x))/\Below w.heap.size w w':=by
 refine(spec_prIsWordy.calls x (isWy x) w ?_).mono ?_
 ·have h1:spec_lxIsLetter.f x=some (isLt x):=by
   unfold spec_lxIsLetter.f isLt
   by_cases h1:x>=97<;>by_cases h2:x<=122<;>by_cases h3:x>=65<;>by_cases h4:x<=90<;>simp[h1,h2,h3,h4]<;>omega
  have h2:spec_lxIsDigit.f x=some (isDg x):=by
   unfold spec_lxIsDigit.f isDg
   by_cases h:x>=48
   ·rw[if_pos h];simp[h]
   ·rw[if_neg h];simp[h]
  unfold spec_prIsWordy.f isWy;rw[h1,h2];cases isLt x<;>simp
 ·rintro e w' ⟨h1,h2⟩
  refine⟨h1,?_⟩
  first|exact h2|(obtain⟨n,rfl⟩:=h2;exact pD (bR _ _) n)
set_option maxRecDepth 10000 in
set_option maxHeartbeats 4000000 in
theorem isName_pr:IN:=by
 intro y hsz w An cn Ak ck;have HV0:=aM (Vb.new w #[.int .i64 y.k,.string y.s,.float .f64 y.x,.int .i64 y.n,.bool y.b,(.slice An y.names.length cn),(.slice Ak y.kids.length ck)]);have HB:=aM (bA (bR w.heap.size w) (.cells #[.int .i64 y.k,.string y.s,.float .f64 y.x,.int .i64 y.n,.bool y.b,(.slice An y.names.length cn),(.slice Ak y.kids.length ck)] 27));go_enter Tryz.func101,Tryz.ntmps101
 go_upto_region 1 with fail;generalize w.alloc _=w1 at HV0 HB|-;have v0:=bC HV0.out 0;have v1:=bC HV0.out 1;obtain⟨b0,hb0⟩:∃b:Bool,(y.k != 24)=b:=⟨_,rfl⟩
 go_cut [28] from 4 to 28 (fun v wc=>∃b:Bool,v = .bool b/\Aside0 (b=true->pIsName y=false)/\Aside0 (b=false->pIsName y=(bytesOf y.s).all isWy)/\Aside0 (Below w.heap.size w wc)/\Aside0 (Vb wc w.heap.size #[.int .i64 y.k,.string y.s,.float .f64 y.x,.int .i64 y.n,.bool y.b,(.slice An y.names.length cn),(.slice Ak y.kids.length ck)]))
 case first=>
  cases b0 with
  |true=>
   have h:pIsName y=false:=by
    unfold pIsName;have:(y.k==24)=false:=by rw[beq_eq_false_iff_ne];exact bne_iff_ne.1 hb0
    rw[this]
    rfl
   have HN:=aM h;clear h;go_wp2_with fail;go_meet
   case rel=>exact⟨true,rfl,⟨fun _=>HN.out⟩,⟨fun h=>by cases h⟩,HB,HV0⟩
  |false=>
   have hk:(y.k==24)=true:=by
    rw[beq_iff_eq];exact Decidable.of_not_not (fun h=>by rw[bne_iff_ne.2 h] at hb0;cases hb0)
   have HK:=aM hk;clear hk;obtain⟨b1,hb1⟩:∃b:Bool,y.s.toList.isEmpty=b:=⟨_,rfl⟩;have hz:y.s.toList.isEmpty=true->bytesOf y.s=[]:=fun h=>by
    rw[ByteArray.toList_eq,List.isEmpty_iff] at h;unfold bytesOf;rw[h]
    rfl
   have hnz:y.s.toList.isEmpty=false->0<y.s.size:=fun h=>by
    rcases Nat.eq_zero_or_pos y.s.size with h0|h0
    ·have:y.s.data.toList=[]:=by rw[<-List.length_eq_zero_iff,data_length];exact h0
     rw[ByteArray.toList_eq,this] at h;cases h
    ·exact h0
   cases b1 with
   |true=>
    have HN:=aM (show pIsName y=false by unfold pIsName;rw[hz hb1];simp[identB]);clear hz hnz;go_wp2_with fail;go_meet
    case rel=>exact⟨true,rfl,⟨fun _=>HN.out⟩,⟨fun h=>by cases h⟩,HB,HV0⟩
   |false=>
    have h0:=hnz hb1;have h0I:(0:Int)<(y.s.size:Int):=by omega
    clear hz hnz;go_wp2_with fail;refine(Wf.isWord_q y.s w1).mono ?_;rintro e w2 ⟨rfl,hb⟩;replace HB:=aM (HB.out.trans (hb.mono HB.out.size));replace HV0:=aM (HV0.out.below hb);replace v0:=bC HV0.out 0;replace v1:=bC HV0.out 1;clear hb;obtain⟨b2,hb2⟩:∃b:Bool,isw y.s=b:=⟨_,rfl⟩;rw[hb2]
    cases b2 with
    |true=>
     have HN:=aM (show pIsName y=false by unfold pIsName;rw[hb2];simp);clear hb2;go_wp2_with fail;go_meet
     case rel=>exact⟨true,rfl,⟨fun _=>HN.out⟩,⟨fun h=>by cases h⟩,HB,HV0⟩
    |false=>
     have HB2:=aM hb2;have hx:∀h:0<y.s.size,((y.s[0]'h).toNat:Int)=bt y.s 0:=bt_at y.s 0;clear hb2;go_wp2_with fail;refine(letter_q (bt y.s 0) w2).mono ?_;rintro e w3 ⟨rfl,hd⟩;have hb3:Below w2.heap.size w2 w3:=by
      obtain⟨n,rfl⟩:=hd;exact pD (bR _ _) n
     replace HB:=aM (HB.out.trans (hb3.mono HB.out.size));replace HV0:=aM (HV0.out.below hb3);replace v0:=bC HV0.out 0;replace v1:=bC HV0.out 1;clear hb3 hd;obtain⟨b3,hb3⟩:∃b:Bool,isLet (bt y.s 0)=b:=⟨_,rfl⟩;rw[hb3];obtain⟨r,hr⟩:∃r,bytesOf y.s=bt y.s 0::r:=⟨_,by have:=bt_drop y.s 0 h0;rw[List.drop_zero] at this;exact this⟩
     cases b3 with
     |false=>
      have HN:=aM (show pIsName y=false by
       unfold pIsName;have:identB (bytesOf y.s)=false:=by
        rw[hr];have e:isLt (bt y.s 0)=isLet (bt y.s 0):=rfl;simp[identB,e,hb3]
       rw[this]
       simp)
      clear hb3 hr;go_wp2_with fail;go_meet
      case rel=>exact⟨true,rfl,⟨fun _=>HN.out⟩,⟨fun h=>by cases h⟩,HB,HV0⟩
     |true=>
      obtain⟨b4,hb4⟩:∃b:Bool,(y.s.toList==[103,111,116,111])=b:=⟨_,rfl⟩;have HG:=aM (show(bytesOf y.s==gotoL)=b4 by
       have e:([103,111,116,111]:List UInt8)=(⟨#[103,111,116,111]⟩:ByteArray).toList:=by rw[ByteArray.toList_eq]
       rw[<-hb4,Bool.eq_iff_iff,beq_iff_eq,beq_iff_eq,e,toList_iff]
       rfl)
      have HL3:=aM hb3;have HR3:=aM hr;clear hb3 hr
      cases b4 with
      |true=>
       have HN:=aM (show pIsName y=false by unfold pIsName;rw[HG.out];simp);go_wp2_with fail;go_meet
       case rel=>exact⟨true,rfl,⟨fun _=>HN.out⟩,⟨fun h=>by cases h⟩,HB,HV0⟩
      |false=>
       have HN:=aM (show pIsName y=(bytesOf y.s).all isWy by
        have e:isLt (bt y.s 0)=true:=HL3.out;unfold pIsName;rw[HG.out,HK.out,HB2.out,HR3.out];simp[identB,e,isWy])
       go_wp2_with fail;go_meet
       case rel=>exact⟨false,rfl,⟨fun h=>by cases h⟩,⟨fun _=>HN.out⟩,HB,HV0⟩
 clear HV0 HB v0 v1 hb0;obtain⟨b28,rfl,HT,HF,HB,HV0⟩:=hcut
 cases b28 with
 |true=>
  go_wp2_with fail;go_ret
  first|exact⟨by rw[HT.out rfl];rfl,HB.out⟩|exact⟨by rw[HT.out trivial];rfl,HB.out⟩
 |false=>
  have HN:=aM (show pIsName y=(bytesOf y.s).all isWy by first|exact HF.out rfl|exact HF.out trivial);clear HT HF;go_wp2_with fail;go_loopg [3] y.s.size (fun k v wr=>∃i:Nat,v = .int .i64 (i:Int)/\k=y.s.size-i/\i<=y.s.size/\Aside0 (((bytesOf y.s).take i).all isWy=true)/\Aside0 (Below w.heap.size w wr)/\Aside0 (Vb wr w.heap.size #[.int .i64 y.k,.string y.s,.float .f64 y.x,.int .i64 y.n,.bool y.b,(.slice An y.names.length cn),(.slice Ak y.kids.length ck)]))
  case atStart=>exact⟨0,rfl,rfl,Nat.zero_le _,⟨by simp⟩,HB,HV0⟩
  case round=>
   clear HB HV0;obtain⟨i,rfl,hk,hi,HA,HB,HV0⟩:=hrel;have v1:=bC HV0.out 1
   by_cases hlt:i<y.s.size
   case neg=>
    have hltI:¬((i:Int)<(y.s.size:Int)):=by omega
    have e:pIsName y=true:=by
     have h:=HA.out;rw[List.take_of_length_le (by rw[bytesOf_length];omega)] at h;rw[HN.out,h]
    have HE:=aM e;clear e;go_wp2_with fail;go_ret;exact⟨by rw[HE.out];rfl,HB.out⟩
   case pos=>
    have hltI:(i:Int)<(y.s.size:Int):=by omega
    have h0I:(0:Int)<=(i:Int):=by omega
    have ei:((i:Nat):Int).toNat=i:=by omega
    have qi:IntKind.i64.wrap ((i:Int)+1)=((i+1:Nat):Int):=by rw[IntWalk.i64_in _ (by omega)];omega
    have hx:∀h:i<y.s.size,((y.s[i]'h).toNat:Int)=bt y.s (i:Int):=fun h=>bt_at y.s (i:Int) (by rw[ei];exact h)
    go_wp2_with fail;refine(wordy_q (bt y.s (i:Int)) wr).mono ?_;rintro e w3 ⟨rfl,hb⟩;replace HB:=aM (HB.out.trans (hb.mono HB.out.size));replace HV0:=aM (HV0.out.below hb);clear hb;obtain⟨b5,hb5⟩:∃b:Bool,isWy (bt y.s (i:Int))=b:=⟨_,rfl⟩;rw[hb5];have HD:=aM (bt_drop y.s i hlt);have H5:=aM hb5;clear hb5 hx
    cases b5 with
    |false=>
     have e:pIsName y=false:=by
      rw[HN.out,<-List.take_append_drop i (bytesOf y.s),HD.out,List.all_append,List.all_cons,H5.out];simp
     have HE:=aM e;clear e;go_wp2_with fail;go_ret;exact⟨by rw[HE.out];rfl,HB.out⟩
    |true=>
     have HA2:=aM (show((bytesOf y.s).take (i+1)).all isWy=true by
      have hl:i<(bytesOf y.s).length:=by rw[bytesOf_length];exact hlt
      have h:=HD.out;rw[List.drop_eq_getElem_cons hl] at h;have hh:(bytesOf y.s)[i]=bt y.s (i:Int):=(List.cons.inj h).1;rw[List.take_succ_eq_append_getElem hl,List.all_append,HA.out,hh];simp[H5.out])
     go_wp2_with fail;go_roundg (y.s.size-(i+1))
     case measure=>omega
     case rel=>exact⟨i+1,by first|rfl|simp[qi],rfl,by omega,HA2,HB,HV0⟩
theorem Ok.index{g:Prop}{x:Nd}(h:Ok g .e x)(hk:x.k=28):∃y z,x.kids=[y,z]/\Ok g .e y/\Ok g .e z:=by
 cases h with
 |atom h1 _=>omega
 |fn h1 _ _ _=>omega
 |ix h1 _ h3 h4 h5=>exact⟨_,_,h3,h4,h5⟩
 |call h1 _ _ _ _=>omega
 |bin h1 _ _ _ _=>omega
 |un h1 _ _ _=>omega
 |tab h1 _ _=>omega
set_option maxRecDepth 10000 in
set_option maxHeartbeats 4000000 in
theorem isPath_pr(y:Nd)(hO:Ok True .e y)(w:World)(An:Option Addr)(cn:Nat)(Ak:Option Addr)(ck:Nat)(hk:NK w y An cn Ak ck):Calls Tryz.prog 63 #[.agg #[.int .i64 y.k,.string y.s,.float .f64 y.x,.int .i64 y.n,.bool y.b,(.slice An y.names.length cn),(.slice Ak y.kids.length ck)]] w fun e w'=>e = .returned (.bool (pIsPath y.wt y))/\Below w.heap.size w w':=by
 have HO:=aM hO;have HK:=aM hk;clear hO hk;go_enter Tryz.func63,Tryz.ntmps63
 go_wp2_with fail;go_loopg [] y.wt (fun k wr=>∃(z:Nd) (An:Option Addr) (cn:Nat) (Ak:Option Addr) (ck:Nat),k=z.wt/\Aside0 (Ok True .e z)/\Aside0 (NK w z An cn Ak ck)/\Aside0 (∃m,z.wt<=m/\pIsPath y.wt y=pIsPath m z)/\Aside0 (Below w.heap.size w wr)/\Aside0 (Vb wr w.heap.size #[.int .i64 z.k,.string z.s,.float .f64 z.x,.int .i64 z.n,.bool z.b,(.slice An z.names.length cn),(.slice Ak z.kids.length ck)]))
 case atStart=>exact⟨y,An,cn,Ak,ck,rfl,HO,HK,⟨y.wt,Nat.le_refl _,rfl⟩,⟨bA (bR _ _) _⟩,⟨Vb.new _ _⟩⟩
 case round=>
  clear HO HK;obtain⟨z,An,cn,Ak,ck,hk,HO,HK,HM,HB,HV⟩:=hrel;obtain⟨v0,v1,v2,v3,v4,v5,v6⟩:=bC7 HV.out;obtain⟨f0,f1,f2,f3,f4,f5,f6⟩:=bF7 HV.out;have hz1:1<=z.wt:=by have:=wt_eq z;omega
  by_cases h28:z.k=28
  case neg=>
   have hkb:(z.k==28)=false:=beq_eq_false_iff_ne.2 h28;have e:pIsPath y.wt y=(z.k==27):=by
    obtain⟨m,hm,e⟩:=HM.out;obtain⟨m,rfl⟩:∃q,m=q+1:=⟨m-1,by omega⟩;rw[e,pIsPath,hkb];simp
   have HE:=aM e;clear e h28;obtain⟨b27,h27⟩:∃b:Bool,(z.k==27)=b:=⟨_,rfl⟩;go_wp2_with fail;go_ret;exact⟨by rw[HE.out,h27];rfl,HB.out⟩
  case pos=>
   have hkb:(z.k==28)=true:=beq_iff_eq.2 h28;obtain⟨p,q,hpq,op,oq⟩:=HO.out.index h28;have hwz:=wt_eq z;rw[hpq] at hwz;simp only[wts] at hwz;have hl2:z.kids.length=2:=by rw[hpq];rfl
   have hl0:0<z.kids.length:=by omega
   have hl1:1<z.kids.length:=by omega
   have hl0I:(0:Int)<(z.kids.length:Int):=by omega
   have hl1I:(1:Int)<(z.kids.length:Int):=by omega
   obtain⟨ad,p',Bn,dn,Bk,dk,rfl,hp,_,x0,x1,x2,x3,x4,x5,x6,hkp⟩:=kid_at HK.out.kids.2 (bR w.heap.size w) 0 (by omega);obtain⟨ad',q',Cn,en,Ck,ek,had,hq,_,z0,z1,z2,z3,z4,z5,z6,hkq⟩:=kid_at HK.out.kids.2 (bR w.heap.size w) 1 (by omega);cases had
   obtain rfl:p=p':=by rw[hpq] at hp;simpa using hp
   obtain rfl:q=q':=by rw[hpq] at hq;simpa using hq
   simp only[Nat.zero_mul,Addr.add_zero'] at x0 x1 x2 x3 x4 x5 x6;replace x0:=pB HB.out x0;replace x1:=pB HB.out x1;replace x2:=pB HB.out x2;replace x3:=pB HB.out x3;replace x4:=pB HB.out x4;replace x5:=pB HB.out x5;replace x6:=pB HB.out x6;replace z0:wr.cell? ⟨ad.block,ad.off+7,none⟩=some (.int .i64 q.k):=pB HB.out z0;replace z1:wr.cell? ⟨ad.block,ad.off+8,none⟩=some (.string q.s):=pB HB.out z1;replace z2:wr.cell? ⟨ad.block,ad.off+9,none⟩=some (.float .f64 q.x):=pB HB.out z2;replace z3:wr.cell? ⟨ad.block,ad.off+10,none⟩=some (.int .i64 q.n):=pB HB.out z3;replace z4:wr.cell? ⟨ad.block,ad.off+11,none⟩=some (.bool q.b):=pB HB.out z4;replace z5:wr.cell? ⟨ad.block,ad.off+12,none⟩=some (.slice Cn q.names.length en):=pB HB.out z5;replace z6:wr.cell? ⟨ad.block,ad.off+13,none⟩=some (.slice Ck q.kids.length ek):=pB HB.out z6;have HPQ:=aM hpq;have HKP:=aM hkp;have HOP:=aM op;have HQS:=aM (oq.tx trivial).1;have H28:=aM h28;have HWP:=aM (show p.wt<z.wt by omega);clear hpq hl2 hp hq hkp hkq op oq h28 hwz;go_wp2_with fail;refine(isName_pr q HQS.out wr Cn en Ck ek).mono ?_;rintro e w2 ⟨rfl,hb⟩;obtain⟨bn,hbn⟩:∃b,pIsName q=b:=⟨_,rfl⟩;rw[hbn];have HBN:=aM hbn;replace HB:=aM (HB.out.trans (hb.mono HB.out.size));replace HV:=aM (HV.out.below hb);replace v0:=bC HV.out 0;replace v1:=bC HV.out 1;replace v2:=bC HV.out 2;replace v3:=bC HV.out 3;replace v4:=bC HV.out 4;replace v5:=bC HV.out 5;replace v6:=bC HV.out 6;replace f0:=bF HV.out 0;replace f1:=bF HV.out 1;replace f2:=bF HV.out 2;replace f3:=bF HV.out 3;replace f4:=bF HV.out 4;replace f5:=bF HV.out 5;replace f6:=bF HV.out 6;replace x0:=pB hb x0;replace x1:=pB hb x1;replace x2:=pB hb x2;replace x3:=pB hb x3;replace x4:=pB hb x4;replace x5:=pB hb x5;replace x6:=pB hb x6;clear hb hbn z0 z1 z2 z3 z4 z5 z6
   cases bn with
   |false=>
    have e:pIsPath y.wt y=false:=by
     obtain⟨m,hm,e⟩:=HM.out;obtain⟨m,rfl⟩:∃q,m=q+1:=⟨m-1,by omega⟩;have k1:kid z 1=q:=by unfold kid;rw[HPQ.out];rfl
     rw[e,pIsPath,k1,HBN.out,H28.out]
     rfl
    have HE:=aM e;clear e;obtain⟨b27,h27⟩:∃b:Bool,(z.k==27)=b:=⟨_,rfl⟩;have h27f:b27=false:=by rw[<-h27,H28.out];rfl
    have H27:=aM h27f;clear h27f;go_wp2_with fail;go_ret;exact⟨by rw[HE.out];show _=Ending.returned (Value.bool false);rw[<-H27.out,<-h27];rfl,HB.out⟩
   |true=>
    have HM2:=aM (show ∃m,p.wt<=m/\pIsPath y.wt y=pIsPath m p by
     obtain⟨m,hm,e⟩:=HM.out;obtain⟨m,rfl⟩:∃q,m=q+1:=⟨m-1,by omega⟩;have k1:kid z 1=q:=by unfold kid;rw[HPQ.out];rfl
     have k0:kid z 0=p:=by unfold kid;rw[HPQ.out];rfl
     refine⟨m,by have:=HWP.out;omega,?_⟩;rw[e,pIsPath,k1,HBN.out,H28.out,k0]
     rfl)
    go_wp2_with fail;have HF:=aM (set7 HV.out rfl HB.out (Nat.le_refl _) (.int .i64 p.k) (.string p.s) (.float .f64 p.x) (.int .i64 p.n) (.bool p.b) (.slice Bn p.names.length dn) (.slice Bk p.kids.length dk));go_roundg p.wt
    case measure=>rw[hk];exact HWP.out
    case rel=>exact⟨p,Bn,dn,Bk,dk,rfl,HOP,HKP,HM2,⟨HF.out.1⟩,⟨HF.out.2⟩⟩
end Go.Proofs.YtoimaaonloibfaaGreatDoor.Pa
