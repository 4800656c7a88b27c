/- FnTokensSpaced (part 2): joined texts of this seat: Td, Te, Tf, Sh, Leaf3, Leaf4, Leaf6, Leaf7, Tg, Th, Ti, Tj, Tk, Tl, Tm. -/
import Derived.Test.YtoimaaonloibfaaGreatDoorG01
import Derived.Shelf.Bytes.BufferK
import Derived.Shelf.Bytes.String
import Derived.Shelf.Strings.Repeat
import Derived.Shelf.Strconv.ParseIntPublic10
import Derived.Test.YtoimaaonloibfaaGreatDoorProg
import Derived.ScopeJumps
set_option linter.unusedVariables false
set_option linter.unusedSimpArgs false
namespace Go.Proofs.YtoimaaonloibfaaGreatDoor.Tk
open Go.RowKit W1 W2 PF Wf
theorem eof_nil(a:Addr)(w:World):(binOp .eql 65 .nilIface (.iface 181 (.pointer (some a)))).run Tryz.prog w = .ok (.bool false) w:=by kernel_rfl
theorem und181:Tryz.prog.underlying 181=some (.pointer 183):=by kernel_rfl
theorem info181:(Tryz.prog.info? 181).map (·.comparable)=some true:=by kernel_rfl
theorem und65:(Tryz.prog.underlying 65).isSome=true/\∃ms,Tryz.prog.underlying 65=some (.interface ms):=by
 have h:(match Tryz.prog.underlying 65 with|some (.interface _)=>true|_=>false)=true:=by kernel_rfl
 cases hu:Tryz.prog.underlying 65 with
 |none=>rw[hu] at h;cases h
 |some d=>rw[hu] at h;cases d<;>first|exact⟨rfl,_,rfl⟩|cases h
theorem eof_eof(a:Addr)(w:World):(binOp .eql 65 (.iface 181 (.pointer (some a))) (.iface 181 (.pointer (some a)))).run Tryz.prog w = .ok (.bool true) w:=by
 obtain⟨_,ms,ht⟩:=und65;have hc:=info181
 cases hi:Tryz.prog.info? 181 with
 |none=>simp[hi] at hc
 |some i=>
  have hcc:i.comparable=true:=by simpa[hi] using hc
  have h:∀d:Nat,(Op.equalIn (d+2) 65 (.iface 181 (.pointer (some a))) (.iface 181 (.pointer (some a)))).run Tryz.prog w = .ok true w:=fun d=>by
   simp[Op.equalIn,run_underlying ht,run_underlying und181,typeInfo,hi,hcc,sameAddr]
  simp only[binOp];simp[Op.equal,Op.maxDepth,h 9998]
def Gb(w:World)(k:Sk):Prop:=∃(src:ByteArray) (ln col:Int),w.heap[k.g]? = some (.cells #[.string src,.int .i64 ln,.int .i64 col,.pointer (some ⟨k.d,0,none⟩)] 89 (0,0))
structure RS(w:World)(k:Sk)(l:List Int):Prop where
 E:Env w k
 g:Gb w k
 b:∃(i r n:Nat) (lb lr:Int),Bf w k i r n .nilIface lb lr/\Fm k i r n l
 c:∀x∈l,x≠13
structure RJ(w:World)(k:Sk)(c:Int)(l:List Int):Prop where
 E:Env w k
 g:Gb w k
 b:∃(r:Nat) (lr:Int),Bf w k k.t.size (r+1) k.t.size .nilIface (bt k.t (r:Int)) lr/\r<k.t.size/\bt k.t (r:Int)=c/\(bytesOf k.t).drop r=c::l
 c:∀x∈c::l,x≠13
structure Kg(w w':World)(k:Sk):Prop where
 b:Below k.B w w'
 k:Kept w w' k.S
section
variable {w w1 w2:World} {k:Sk} {l:List Int} {c:Int}
theorem Kf.g(h:Kf w w1 k):Kg w w1 k:=⟨h.b,h.k.mono (fun _ hx=>Sk.DS hx)⟩
theorem Kg.refl(w:World)(k:Sk):Kg w w k:=⟨bR _ _,Kept.refl _ _⟩
theorem Kg.trans(h:Kg w w1 k)(h2:Kg w1 w2 k):Kg w w2 k:=⟨h.b.trans h2.b,h.k.then_ h2.k (fun _ hx=> .inl hx)⟩
theorem Kg.set(h:Kg w w1 k)(hE:Env w2 k){p:Addr}(hp:k.S p.block)(u:Value):Kg w (w1.setCell p u) k:=⟨h.b.setCell (hE.b _ hp) u,h.k.setCell (.inl hp) u⟩
theorem Gb.nd(h:Gb w k){i r n:Nat}{er:Value}{lb lr:Int}(hb:Bf w k i r n er lb lr):¬k.D k.g:=by
 obtain⟨s,ln,co,hg⟩:=h;rintro(e|e|e)
 ·rw[e,hb.d] at hg
  simp at hg
 ·obtain⟨A,hA,_⟩:=hb.r
  rw[e,hA] at hg;simp at hg
 ·obtain⟨A,hA⟩:=hb.s
  rw[e,hA] at hg;simp at hg
theorem Gb.on(h:Gb w k)(hk:Kf w w1 k)(hn:¬k.D k.g):Gb w1 k:=by
 obtain⟨s,ln,co,hg⟩:=h;exact⟨s,ln,co,blk_kept hg hk.k hn⟩
theorem Env.kf(h:Env w k)(hk:Kf w w1 k):Env w1 k:=h.on hk.b
theorem RJ.rs(h:RJ w k c l):RS w k l:=by
 obtain⟨r,lr,hb,hr,hc,hd⟩:=h.b;refine⟨h.E,h.g,⟨_,_,_,_,_,hb,.inr (.inl ⟨rfl,rfl,by omega,(bt_list _ _ _ _ hd).2.2.symm⟩)⟩,fun x hx=>h.c x (List.mem_cons_of_mem _ hx)⟩
theorem readByte_cS(h:RS w k (c::l)):Calls Tryz.prog 110 #[.pointer (some ⟨k.d,0,none⟩)] w fun e w'=>e = .returned (.tuple #[.int .u8 c,.nilIface])/\RJ w' k c l/\Kf w w' k:=by
 obtain⟨i,r,n,lb,lr,hb,hf⟩:=h.b;have hn:=h.g.nd hb;rcases hf with⟨rfl,rfl,rfl,hl⟩|⟨rfl,rfl,hr,hl⟩|⟨_,_,_,hl⟩
 ·obtain⟨h1,h2,h3⟩:=bt_list k.t 0 c l (by rw[List.drop_zero];exact hl.symm)
  refine(readByte_c w k 0 0 0 lb lr h.E hb (.inr ⟨rfl,rfl,rfl,h1⟩)).mono ?_;rintro e w' ⟨rfl,hb2,hk⟩;exact⟨by rw[h2],⟨h.E.kf hk,h.g.on hk hn,⟨0,_,hb2,h1,h2,by rw[List.drop_zero];exact hl.symm⟩,h.c⟩,hk⟩
 ·obtain⟨h1,h2,h3⟩:=bt_list k.t r c l hl.symm
  refine(readByte_c w k _ r _ lb lr h.E hb (.inl ⟨rfl,rfl,h1⟩)).mono ?_;rintro e w' ⟨rfl,hb2,hk⟩;exact⟨by rw[h2],⟨h.E.kf hk,h.g.on hk hn,⟨r,_,hb2,h1,h2,hl.symm⟩,h.c⟩,hk⟩
 ·cases hl
theorem readByte_eS(h:RS w k []):Calls Tryz.prog 110 #[.pointer (some ⟨k.d,0,none⟩)] w fun e w'=>e = .returned (.tuple #[.int .u8 0,.iface 181 (.pointer (some k.pe))])/\RS w' k []/\Kf w w' k:=by
 obtain⟨i,r,n,lb,lr,hb,hf⟩:=h.b;have hn:=h.g.nd hb;have hs:=h.E.n;rcases hf with⟨rfl,rfl,rfl,hl⟩|⟨rfl,rfl,hr,hl⟩|⟨rfl,rfl,rfl,_⟩
 ·have h0:k.t.size=0:=by rw[<-bytesOf_length,<-hl];rfl
  refine(readByte_e w k 0 0 lb lr h.E hb (by omega) (by omega) (by omega)).mono ?_;rintro e w' ⟨rfl,hb2,hk⟩;exact⟨rfl,⟨h.E.kf hk,h.g.on hk hn,⟨_,_,_,_,_,hb2,.inl ⟨rfl,rfl,rfl,hl⟩⟩,h.c⟩,hk⟩
 ·have h0:k.t.size<=r:=by
   have:=congrArg List.length hl;rw[List.length_drop,bytesOf_length] at this;simp at this;omega
  have e:r=k.t.size:=by omega
  subst e;refine(readByte_e w k _ _ lb lr h.E hb (by omega) (by omega) (by omega)).mono ?_;rintro e w' ⟨rfl,hb2,hk⟩;exact⟨rfl,⟨h.E.kf hk,h.g.on hk hn,⟨_,_,_,_,_,hb2,.inr (.inr ⟨rfl,rfl,rfl,rfl⟩)⟩,h.c⟩,hk⟩
 ·refine(readByte_e w k _ _ lb lr h.E hb (by omega) (by omega) (by omega)).mono ?_
  rintro e w' ⟨rfl,hb2,hk⟩;exact⟨rfl,⟨h.E.kf hk,h.g.on hk hn,⟨_,_,_,_,_,hb2,.inr (.inr ⟨rfl,rfl,rfl,rfl⟩)⟩,h.c⟩,hk⟩
theorem unread_S(h:RJ w k c l):Calls Tryz.prog 83 #[.pointer (some ⟨k.d,0,none⟩)] w fun e w'=>(∃v,e = .returned v)/\RS w' k (c::l)/\Kf w w' k:=by
 obtain⟨r,lr,hb,hr,hc,hd⟩:=h.b;have hs:=h.E.n;have hn:=h.g.nd hb;refine(unread_q w k _ r _ lr h.E hb hr hr (by omega)).mono ?_;rintro e w' ⟨he,hb2,hk⟩;exact⟨he,⟨h.E.kf hk,h.g.on hk hn,⟨_,_,_,_,_,hb2,.inr (.inl ⟨rfl,rfl,by omega,hd.symm⟩)⟩,h.c⟩,hk⟩
theorem hd_ne{c:Int}{l:List Int}(h:RS w k (c::l)):0<=c/\c<=255:=by
 obtain⟨i,r,n,lb,lr,hb,hf⟩:=h.b;have key:∀q,(bytesOf k.t).drop q=c::l->0<=c/\c<=255:=fun q hq=>by
  rw[<-(bt_list _ _ _ _ hq).2.1];exact bt_range _ _
 rcases hf with⟨_,_,_,hl⟩|⟨_,_,_,hl⟩|⟨_,_,_,hl⟩
 ·exact key 0 (by rw[List.drop_zero];exact hl.symm)
 ·exact key r hl.symm
 ·cases hl
theorem Gb.c3(h:Gb w k):w.cell? ⟨k.g,3,none⟩=some (.pointer (some ⟨k.d,0,none⟩)):=by
 obtain⟨s,ln,co,hg⟩:=h;exact bC hg 3
set_option maxRecDepth 10000 in
theorem readNext_c(h:RS w k (c::l)):Calls Tryz.prog 82 #[.pointer (some ⟨k.g,0,none⟩)] w fun e w'=>e = .returned (.int .i64 c)/\RJ w' k c l/\Kf w w' k:=by
 have g3:=h.g.c3;have HR:=aM (readByte_cS h);have hcw:wrap64 c=c:=IntWalk.wrap64_in _ (by have:=hd_ne h;omega);have hq:=eof_nil;clear h;go_enter Tryz.func82,Tryz.ntmps82
 go_wp2_with (go_at_call 110;refine HR.out.mono ?_;rintro e w5 ⟨rfl,h5,k5⟩;have H5:=aM h5;have K5:=aM k5;have e0:=h5.E.e;clear h5 k5 g3)
 go_ret;exact⟨congrArg (fun x=>Ending.returned (Value.int .i64 x)) hcw,H5.out,K5.out⟩
set_option maxRecDepth 10000 in
theorem readNext_e(h:RS w k []):Calls Tryz.prog 82 #[.pointer (some ⟨k.g,0,none⟩)] w fun e w'=>e = .returned (.int .i64 (-1))/\RS w' k []/\Kf w w' k:=by
 have g3:=h.g.c3;have HR:=aM (readByte_eS h);have hq:=eof_eof;clear h;go_enter Tryz.func82,Tryz.ntmps82
 go_wp2_with (go_at_call 110;refine HR.out.mono ?_;rintro e w5 ⟨rfl,h5,k5⟩;have H5:=aM h5;have K5:=aM k5;have e0:=h5.E.e;clear h5 k5 g3)
 go_ret;exact⟨rfl,H5.out,K5.out⟩
set_option maxRecDepth 10000 in
theorem peek_e(h:RS w k []):Calls Tryz.prog 43 #[.pointer (some ⟨k.g,0,none⟩)] w fun e w'=>e = .returned (.int .i64 (-1))/\RS w' k []/\Kf w w' k:=by
 have HR:=aM (readNext_e h);clear h;go_enter Tryz.func43,Tryz.ntmps43
 go_wp2_with (go_at_call 82;refine HR.out.mono ?_;rintro e w5 ⟨rfl,h5,k5⟩;have H5:=aM h5;have K5:=aM k5;clear h5 k5)
 go_ret;exact⟨rfl,H5.out,K5.out⟩
set_option maxRecDepth 10000 in
theorem peek_c(h:RS w k (c::l))(hc:c≠-1):Calls Tryz.prog 43 #[.pointer (some ⟨k.g,0,none⟩)] w fun e w'=>e = .returned (.int .i64 c)/\RS w' k (c::l)/\Kf w w' k:=by
 have HR:=aM (readNext_c h);have hcb:(c != -1)=true:=bne_iff_ne.mpr hc;clear h;go_enter Tryz.func43,Tryz.ntmps43
 go_wp2_with (first|(go_at_call 82;refine HR.out.mono ?_;rintro e w5 ⟨rfl,h5,k5⟩;have H5:=aM h5;have K5:=aM k5;have g3:=h5.g.c3;have HU:=aM (unread_S h5);clear h5 k5)|(go_at_call 83;refine HU.out.mono ?_;rintro e w6 ⟨⟨v,rfl⟩,h6,k6⟩;have H6:=aM h6;have K6:=aM k6;clear h6 k6))
 go_ret;exact⟨rfl,H6.out,K5.out.trans K6.out⟩
def hd(l:List Int):Int:=l.headD (-1)
theorem peek_q(h:RS w k l):Calls Tryz.prog 43 #[.pointer (some ⟨k.g,0,none⟩)] w fun e w'=>e = .returned (.int .i64 (hd l))/\RS w' k l/\Kf w w' k:=by
 match l,h with
 |[],h=>exact peek_e h
 |c::l,h=>
  have h2:=hd_ne h;have hne:c≠(-1:Int):=by omega
  exact peek_c h hne
end
section
variable {w w1 w2:World} {k:Sk} {l:List Int} {c:Int}
theorem Bf.away{i r n:Nat}{er:Value}{lb lr:Int}(h:Bf w k i r n er lb lr){p:Addr}(hp:¬k.D p.block)(u:Value):Bf (w.setCell p u) k i r n er lb lr:=by
 have h1:k.d≠p.block:=fun e=>hp (.inl e.symm)
 have h2:k.row≠p.block:=fun e=>hp (.inr (.inl e.symm))
 have h3:k.sr≠p.block:=fun e=>hp (.inr (.inr e.symm))
 refine⟨(Below.heap_setCell _ _ _ _ h1).trans h.d,?_,?_⟩
 ·obtain⟨A,a1,a2,a3⟩:=h.r
  exact⟨A,(Below.heap_setCell _ _ _ _ h2).trans a1,a2,a3⟩
 ·obtain⟨q,a1⟩:=h.s
  exact⟨q,(Below.heap_setCell _ _ _ _ h3).trans a1⟩
theorem RS.sg(h:RS w k l)(j:Nat)(u:Value)(hg:Gb (w.setCell ⟨k.g,j,none⟩ u) k):RS (w.setCell ⟨k.g,j,none⟩ u) k l:=by
 obtain⟨i,r,n,lb,lr,hb,hf⟩:=h.b;exact⟨h.E.on ((bR _ _).setCell (h.E.b _ k.Sg) u),hg,⟨i,r,n,lb,lr,hb.away (h.g.nd hb) u,hf⟩,h.c⟩
theorem RS.s1(h:RS w k l)(x:Int):RS (w.setCell ⟨k.g,1,none⟩ (.int .i64 x)) k l:=by
 obtain⟨s,ln,co,hg⟩:=h.g;exact h.sg 1 _ ⟨s,x,co,blk_set hg 1 _⟩
theorem RS.s2(h:RS w k l)(x:Int):RS (w.setCell ⟨k.g,2,none⟩ (.int .i64 x)) k l:=by
 obtain⟨s,ln,co,hg⟩:=h.g;exact h.sg 2 _ ⟨s,ln,x,blk_set hg 2 _⟩
theorem Gb.cs(h:Gb w k):∃(s:ByteArray) (ln co:Int),w.cell? ⟨k.g,0,none⟩=some (.string s)/\w.cell? ⟨k.g,1,none⟩=some (.int .i64 ln)/\w.cell? ⟨k.g,2,none⟩=some (.int .i64 co)/\∀j,w.frozen? ⟨k.g,j,none⟩=false:=by
 obtain⟨s,ln,co,hg⟩:=h;exact⟨s,ln,co,bC hg 0,bC hg 1,bC hg 2,fun j=>bF hg j⟩
set_option maxRecDepth 10000 in
theorem newline_q(h:RS w k l):Calls Tryz.prog 84 #[.pointer (some ⟨k.g,0,none⟩),.int .i64 10] w fun e w'=>e = .returned (.tuple #[])/\RS w' k l/\Kg w w' k:=by
 obtain⟨s,ln,co,c0,c1,c2,hf⟩:=h.g.cs;have f1:=hf 1;have f2:=hf 2;have H0:=aM ((h.s1 (wrap64 (ln+1))).s2 0);have K0:=aM (((Kg.refl w k).set h.E k.Sg (p:=⟨k.g,1,none⟩) (.int .i64 (wrap64 (ln+1)))).set h.E k.Sg (p:=⟨k.g,2,none⟩) (.int .i64 0));have hne:(hd l==13)=false:=by
  rw[beq_eq_false_iff_ne]
  match l,h with
  |[],h=>show(-1:Int)≠13;decide
  |c::l,h=>exact h.c c (by simp)
 have HP:=aM (peek_q H0.out);clear h hf;generalize hd l=q at *;go_enter Tryz.func84,Tryz.ntmps84
 go_wp2_with (go_at_call 43;refine HP.out.mono ?_;rintro e w5 ⟨rfl,h5,k5⟩;have H5:=aM h5;have K5:=aM k5;clear h5 k5)
 go_end0;exact⟨rfl,H5.out,K0.out.trans K5.out.g⟩
set_option maxRecDepth 10000 in
theorem next_e(h:RS w k []):Calls Tryz.prog 45 #[.pointer (some ⟨k.g,0,none⟩)] w fun e w'=>e = .returned (.int .i64 (-1))/\RS w' k []/\Kg w w' k:=by
 have HR:=aM (readNext_e h);clear h;go_enter Tryz.func45,Tryz.ntmps45
 go_wp2_with (go_at_call 82;refine HR.out.mono ?_;rintro e w5 ⟨rfl,h5,k5⟩;have H5:=aM h5;have K5:=aM k5;obtain⟨s,ln,co,c0,c1,c2,hf⟩:=h5.g.cs;have f1:=hf 1;have f2:=hf 2;clear h5 k5 hf)
 go_ret;exact⟨rfl,(H5.out.s1 _).s2 _,(K5.out.g.set H5.out.E k.Sg _).set H5.out.E k.Sg _⟩
set_option maxRecDepth 10000 in
theorem next_n(h:RS w k (10::l)):Calls Tryz.prog 45 #[.pointer (some ⟨k.g,0,none⟩)] w fun e w'=>e = .returned (.int .i64 10)/\RS w' k l/\Kg w w' k:=by
 have HR:=aM (readNext_c h);clear h;go_enter Tryz.func45,Tryz.ntmps45
 go_wp2_with (first|(go_at_call 82;refine HR.out.mono ?_;rintro e w5 ⟨rfl,h5,k5⟩;have H5:=aM h5;have K5:=aM k5;have HN:=aM (newline_q h5.rs);clear h5 k5)|(go_at_call 84;refine HN.out.mono ?_;rintro e w6 ⟨rfl,h6,k6⟩;have H6:=aM h6;have K6:=aM k6;clear h6 k6))
 go_ret;exact⟨rfl,H6.out,K5.out.g.trans K6.out⟩
set_option maxRecDepth 10000 in
theorem next_c(h:RS w k (c::l))(hc:c≠10):Calls Tryz.prog 45 #[.pointer (some ⟨k.g,0,none⟩)] w fun e w'=>e = .returned (.int .i64 c)/\RS w' k l/\Kg w w' k:=by
 have HR:=aM (readNext_c h);have h1:(c==10)=false:=beq_eq_false_iff_ne.mpr hc;have h2:(c==13)=false:=beq_eq_false_iff_ne.mpr (h.c c (by simp));have h4:=hd_ne h;have h3:(c== -1)=false:=beq_eq_false_iff_ne.mpr (by omega);clear h hc h4;go_enter Tryz.func45,Tryz.ntmps45
 go_wp2_with (go_at_call 82;refine HR.out.mono ?_;rintro e w5 ⟨rfl,h5,k5⟩;have H5:=aM h5.rs;have K5:=aM k5;obtain⟨s,ln,co,c0,c1,c2,hf⟩:=h5.g.cs;have f1:=hf 1;have f2:=hf 2;clear h5 k5 hf)
 go_ret;exact⟨rfl,H5.out.s2 _,K5.out.g.set H5.out.E k.Sg _⟩
theorem next_q(h:RS w k l):Calls Tryz.prog 45 #[.pointer (some ⟨k.g,0,none⟩)] w fun e w'=>e = .returned (.int .i64 (hd l))/\RS w' k l.tail/\Kg w w' k:=by
 match l,h with
 |[],h=>exact next_e h
 |c::l,h=>
  by_cases hc:c=10
  ·subst hc
   exact next_n h
  ·exact next_c h hc
end
def tst(ws c:Int):Bool:=bits BinOp.and IntKind.i64 ws (wrap64 (2 ^ min (IntKind.u64.wrap c).toNat 64)) != 0
def tstAll(ws:Int)(ys:List Int):Bool:=(List.range 257).all fun n=>tst ws ((n:Int)-1)==ys.contains ((n:Int)-1)
theorem tst_of{ws:Int}{ys:List Int}(h:tstAll ws ys=true)(c:Int)(h0: -1<=c)(h1:c<=255):tst ws c=ys.contains c:=by
 have:=List.all_eq_true.1 h (c+1).toNat (List.mem_range.2 (by omega));have e:(((c+1).toNat:Nat):Int)-1=c:=by omega
 rw[e] at this;exact beq_iff_eq.1 this
theorem tst1(c:Int)(h0: -1<=c)(h1:c<=255):tst 4294967808 c=[32,9].contains c:=tst_of (by kernel_rfl) c h0 h1
theorem tst2(c:Int)(h0: -1<=c)(h1:c<=255):tst 4294977024 c=[32,9,10,13].contains c:=tst_of (by kernel_rfl) c h0 h1
section
variable {w w1 w2:World} {k:Sk} {l:List Int} {c:Int}
set_option maxRecDepth 10000 in
theorem skipWs_q(h:RS w k l)(ws:Int)(hws:tst ws (-1)=false):Calls Tryz.prog 37 #[.pointer (some ⟨k.g,0,none⟩),.int .i64 ws] w fun e w'=>e = .returned (.int .i64 (hd (l.dropWhile (tst ws))))/\RS w' k (l.dropWhile (tst ws)).tail/\Kg w w' k:=by
 have HN:=aM (next_q h);have HW:=aM hws;clear h hws;go_enter Tryz.func37,Tryz.ntmps37
 go_wp2_with (go_at_call 45;refine HN.out.mono ?_;rintro e w5 ⟨rfl,h5,k5⟩;have H5:=aM h5;have K5:=aM k5;clear h5 k5)
 go_loopg [5] l.length (fun q v5 wr=>∃(l2:List Int) (c:Int),v5 = .int .i64 c/\Aside0 (c=hd l2)/\Aside0 (RS wr k l2.tail)/\Aside0 (Kg w wr k)/\Aside0 (l2.dropWhile (tst ws)=l.dropWhile (tst ws))/\Aside0 (q=l2.length))
 case atStart=>exact⟨l,_,rfl,⟨rfl⟩,H5,K5,⟨rfl⟩,⟨rfl⟩⟩
 case round=>
  obtain⟨l2,c,rfl,HC,HS,HK,HD,HQ⟩:=hrel;clear HN H5 K5
  match l2,HC,HS,HD,HQ with
  |[],HC,HS,HD,HQ=>
   have hc:=HC.out;have hc2:c = -1:=hc;subst hc2;have ht:(bits BinOp.and IntKind.i64 ws (wrap64 (2 ^ min (IntKind.u64.wrap (-1)).toNat 64)) != 0)=false:=HW.out;clear hc HC;go_wp2_with fail;go_ret;rw[<-HD.out];exact⟨rfl,HS.out,HK.out⟩
  |c'::r,HC,HS,HD,HQ=>
   have hc:c=c':=HC.out;subst hc
   by_cases hb:tst ws c=true
   ·have ht:(bits BinOp.and IntKind.i64 ws (wrap64 (2 ^ min (IntKind.u64.wrap c).toNat 64)) != 0)=true:=hb
    have HN:=aM (next_q (l:=r) HS.out);have HB:=aM hb;clear hb HC;go_wp2_with (go_at_call 45;refine HN.out.mono ?_;rintro e w5 ⟨rfl,h5,k5⟩;have H5:=aM h5;have K5:=aM k5;clear h5 k5)
    go_roundg r.length
    case measure=>have:=HQ.out;simp at this;omega
    case rel=>
     refine⟨r,_,rfl,⟨rfl⟩,H5,⟨HK.out.trans K5.out⟩,⟨?_⟩,⟨rfl⟩⟩;rw[<-HD.out,List.dropWhile_cons,if_pos HB.out]
   ·have ht:(bits BinOp.and IntKind.i64 ws (wrap64 (2 ^ min (IntKind.u64.wrap c).toNat 64)) != 0)=false:=by
     have:tst ws c=false:=by simpa using hb
     exact this
    have HB:=aM hb;clear hb HC;go_wp2_with fail;go_ret;rw[<-HD.out,List.dropWhile_cons,if_neg HB.out];exact⟨rfl,HS.out,HK.out⟩
end
end Go.Proofs.YtoimaaonloibfaaGreatDoor.Tk
namespace Go.Proofs
open Go.Shelf
def Tryz.laysM182_ren:Go.Shelf.Ren:=⟨fun|182=>40|n=>n,fun|130=>97|9=>9|4=>4|0=>0|93=>96|37=>41|3=>3|91=>94|5=>5|n=>n,fun|n=>n⟩
theorem Tryz.laysM182:Go.Proofs.LaysM.n182 Tryz.prog Tryz.laysM182_ren:={
 mixed:=by kernel_rfl
 f182:=Tryz.func40.trans (congrArg some (by kernel_rfl))
 t0:=Tryz.underlying0
 a0:=Tryz.isAgg0
 z0:=Tryz.sizeOf0
 v0:=Tryz.zeroValue0
 t3:=Tryz.underlying3
 a3:=Tryz.isAgg3
 z3:=Tryz.sizeOf3
 v3:=Tryz.zeroValue3
 t4:=Tryz.underlying4
 a4:=Tryz.isAgg4
 z4:=Tryz.sizeOf4
 v4:=Tryz.zeroValue4
 t9:=Tryz.underlying9
 a9:=Tryz.isAgg9
 z9:=Tryz.sizeOf9
 v9:=Tryz.zeroValue9
 t37:=Tryz.underlying41
 a37:=Tryz.isAgg41
 z37:=Tryz.sizeOf41
 v37:=Tryz.zeroValue41
 t93:=Tryz.underlying96
 a93:=Tryz.isAgg96
 z93:=Tryz.sizeOf96
 v93:=Tryz.zeroValue96
 t130:=Tryz.underlying97
 a130:=Tryz.isAgg97
 z130:=Tryz.sizeOf97
 v130:=Tryz.zeroValue97
 t5:=Tryz.underlying5
 a5:=Tryz.isAgg5
 z5:=Tryz.sizeOf5
 v5:=Tryz.zeroValue5
 t91:=Tryz.underlying94
 a91:=Tryz.isAgg94
 z91:=Tryz.sizeOf94
 v91:=Tryz.zeroValue94
 i0:=by kernel_rfl
 i3:=by kernel_rfl
 i4:=by kernel_rfl
 i5:=by kernel_rfl
 i9:=by kernel_rfl
 i37:=by kernel_rfl
 i91:=by kernel_rfl
 i93:=by kernel_rfl
 i130:=by kernel_rfl}
open Go.RowKit in
theorem Tryz.Buffer_String(B b:Nat)(l:List UInt8)(w:World)(h:Lib.IsBuffer 96 5 B b (Lib.byteCells l) w):
  Calls Tryz.prog 40 #[.pointer (some ⟨b,0,none⟩)] w fun e w'=>e = .returned (.string ⟨l.toArray⟩)/\∃n,w'=w.drewN n:=Any.Buffer_String Tryz.laysM182 B b l w h
def Tryz.laysM179_ren:Go.Shelf.Ren:=⟨fun|179=>87|251=>112|252=>113|181=>139|184=>140|290=>141|324=>157|n=>n,fun|130=>97|5=>5|75=>65|0=>0|93=>96|91=>94|3=>3|131=>101|4=>4|37=>41|20=>20|80=>100|9=>9|n=>n,fun|14=>4|n=>n⟩
theorem Tryz.laysM179:Go.Proofs.LaysM.n179 Tryz.prog Tryz.laysM179_ren:={
 mixed:=by kernel_rfl
 f179:=Tryz.func87.trans (congrArg some (by kernel_rfl))
 f181:=Tryz.func139.trans (congrArg some (by kernel_rfl))
 f184:=Tryz.func140.trans (congrArg some (by kernel_rfl))
 f251:=Tryz.func112.trans (congrArg some (by kernel_rfl))
 f252:=Tryz.func113.trans (congrArg some (by kernel_rfl))
 f290:=Tryz.func141.trans (congrArg some (by kernel_rfl))
 f324:=Tryz.func157.trans (congrArg some (by kernel_rfl))
 t0:=Tryz.underlying0
 a0:=Tryz.isAgg0
 z0:=Tryz.sizeOf0
 v0:=Tryz.zeroValue0
 t3:=Tryz.underlying3
 a3:=Tryz.isAgg3
 z3:=Tryz.sizeOf3
 v3:=Tryz.zeroValue3
 t4:=Tryz.underlying4
 a4:=Tryz.isAgg4
 z4:=Tryz.sizeOf4
 v4:=Tryz.zeroValue4
 t5:=Tryz.underlying5
 a5:=Tryz.isAgg5
 z5:=Tryz.sizeOf5
 v5:=Tryz.zeroValue5
 t20:=Tryz.underlying20
 a20:=Tryz.isAgg20
 z20:=Tryz.sizeOf20
 v20:=Tryz.zeroValue20
 t37:=Tryz.underlying41
 a37:=Tryz.isAgg41
 z37:=Tryz.sizeOf41
 v37:=Tryz.zeroValue41
 t75:=Tryz.underlying65
 a75:=Tryz.isAgg65
 z75:=Tryz.sizeOf65
 v75:=Tryz.zeroValue65
 t91:=Tryz.underlying94
 a91:=Tryz.isAgg94
 z91:=Tryz.sizeOf94
 v91:=Tryz.zeroValue94
 t93:=Tryz.underlying96
 a93:=Tryz.isAgg96
 z93:=Tryz.sizeOf96
 v93:=Tryz.zeroValue96
 t130:=Tryz.underlying97
 a130:=Tryz.isAgg97
 z130:=Tryz.sizeOf97
 v130:=Tryz.zeroValue97
 t131:=Tryz.underlying101
 a131:=Tryz.isAgg101
 z131:=Tryz.sizeOf101
 v131:=Tryz.zeroValue101
 g14:=by kernel_rfl
 t9:=Tryz.underlying9
 a9:=Tryz.isAgg9
 z9:=Tryz.sizeOf9
 v9:=Tryz.zeroValue9
 t80:=Tryz.underlying100
 a80:=Tryz.isAgg100
 z80:=Tryz.sizeOf100
 v80:=Tryz.zeroValue100
 i0:=by kernel_rfl
 i3:=by kernel_rfl
 i4:=by kernel_rfl
 i5:=by kernel_rfl
 i9:=by kernel_rfl
 i20:=by kernel_rfl
 i37:=by kernel_rfl
 i75:=by kernel_rfl
 i80:=by kernel_rfl
 i91:=by kernel_rfl
 i93:=by kernel_rfl
 i130:=by kernel_rfl
 i131:=by kernel_rfl
 m14:=by kernel_rfl}
open Go.RowKit in
theorem Tryz.Buffer_WriteByte_k(B b:Nat)(bs:List Value)(c:Int)(w:World)(h:Lib.IsBuffer 96 5 B b bs w)(hBw:B<=w.heap.size)(h1:∀v∈bs,v.oneCell'=true)(hlim:bs.length+1<=140737488355328):
  Calls Tryz.prog 87 #[.pointer (some ⟨b,0,none⟩),.int .u8 c] w fun e w'=>e = .returned .nilIface/\Lib.IsBuffer 96 5 B b (bs++[.int .u8 c]) w'/\Below B w w'/\Lib.OthersKept 5 (some b) w w':=Any.Buffer_WriteByte_k Tryz.laysM179 B b bs c w h hBw h1 hlim
def Tryz.laysM178_ren:Go.Shelf.Ren:=⟨fun|178=>88|251=>112|252=>113|181=>139|184=>140|290=>141|324=>157|n=>n,fun|130=>97|9=>9|3=>3|75=>65|0=>0|93=>96|91=>94|131=>101|4=>4|37=>41|20=>20|80=>100|5=>5|n=>n,fun|14=>4|n=>n⟩
theorem Tryz.laysM178:Go.Proofs.LaysM.n178 Tryz.prog Tryz.laysM178_ren:={
 mixed:=by kernel_rfl
 f178:=Tryz.func88.trans (congrArg some (by kernel_rfl))
 f181:=Tryz.func139.trans (congrArg some (by kernel_rfl))
 f184:=Tryz.func140.trans (congrArg some (by kernel_rfl))
 f251:=Tryz.func112.trans (congrArg some (by kernel_rfl))
 f252:=Tryz.func113.trans (congrArg some (by kernel_rfl))
 f290:=Tryz.func141.trans (congrArg some (by kernel_rfl))
 f324:=Tryz.func157.trans (congrArg some (by kernel_rfl))
 t0:=Tryz.underlying0
 a0:=Tryz.isAgg0
 z0:=Tryz.sizeOf0
 v0:=Tryz.zeroValue0
 t3:=Tryz.underlying3
 a3:=Tryz.isAgg3
 z3:=Tryz.sizeOf3
 v3:=Tryz.zeroValue3
 t4:=Tryz.underlying4
 a4:=Tryz.isAgg4
 z4:=Tryz.sizeOf4
 v4:=Tryz.zeroValue4
 t9:=Tryz.underlying9
 a9:=Tryz.isAgg9
 z9:=Tryz.sizeOf9
 v9:=Tryz.zeroValue9
 t20:=Tryz.underlying20
 a20:=Tryz.isAgg20
 z20:=Tryz.sizeOf20
 v20:=Tryz.zeroValue20
 t37:=Tryz.underlying41
 a37:=Tryz.isAgg41
 z37:=Tryz.sizeOf41
 v37:=Tryz.zeroValue41
 t75:=Tryz.underlying65
 a75:=Tryz.isAgg65
 z75:=Tryz.sizeOf65
 v75:=Tryz.zeroValue65
 t91:=Tryz.underlying94
 a91:=Tryz.isAgg94
 z91:=Tryz.sizeOf94
 v91:=Tryz.zeroValue94
 t93:=Tryz.underlying96
 a93:=Tryz.isAgg96
 z93:=Tryz.sizeOf96
 v93:=Tryz.zeroValue96
 t130:=Tryz.underlying97
 a130:=Tryz.isAgg97
 z130:=Tryz.sizeOf97
 v130:=Tryz.zeroValue97
 t131:=Tryz.underlying101
 a131:=Tryz.isAgg101
 z131:=Tryz.sizeOf101
 v131:=Tryz.zeroValue101
 g14:=by kernel_rfl
 t5:=Tryz.underlying5
 a5:=Tryz.isAgg5
 z5:=Tryz.sizeOf5
 v5:=Tryz.zeroValue5
 t80:=Tryz.underlying100
 a80:=Tryz.isAgg100
 z80:=Tryz.sizeOf100
 v80:=Tryz.zeroValue100
 i0:=by kernel_rfl
 i3:=by kernel_rfl
 i4:=by kernel_rfl
 i5:=by kernel_rfl
 i9:=by kernel_rfl
 i20:=by kernel_rfl
 i37:=by kernel_rfl
 i75:=by kernel_rfl
 i80:=by kernel_rfl
 i91:=by kernel_rfl
 i93:=by kernel_rfl
 i130:=by kernel_rfl
 i131:=by kernel_rfl
 m14:=by kernel_rfl}
open Go.RowKit in
theorem Tryz.Buffer_WriteString_k(B b:Nat)(bs:List Value)(s:ByteArray)(w:World)(h:Lib.IsBuffer 96 5 B b bs w)(hBw:B<=w.heap.size)(h1:∀v∈bs,v.oneCell'=true)(hlim:bs.length+s.size<=140737488355328):
  Calls Tryz.prog 88 #[.pointer (some ⟨b,0,none⟩),.string s] w fun e w'=>e = .returned (.tuple #[.int .i64 s.size,.nilIface])/\Lib.IsBuffer 96 5 B b (bs++Lib.byteCells s.data.toList) w'/\Below B w w'/\Lib.OthersKept 5 (some b) w w':=Any.Buffer_WriteString_k Tryz.laysM178 B b bs s w h hBw h1 hlim
def Tryz.laysC174_ren:Go.Shelf.Ren:=⟨fun|174=>111|247=>137|245=>138|287=>152|279=>153|280=>154|281=>155|282=>156|321=>161|322=>162|316=>163|171=>165|205=>164|243=>166|246=>167|283=>168|284=>169|285=>170|286=>171|129=>173|317=>172|318=>174|319=>175|320=>176|337=>177|338=>178|n=>n,fun|9=>9|3=>3|2=>2|75=>65|85=>142|4=>4|167=>168|5=>5|53=>162|175=>169|46=>121|168=>171|37=>41|0=>0|210=>179|21=>21|127=>165|145=>183|143=>181|171=>185|173=>188|212=>191|51=>159|20=>20|213=>192|232=>195|233=>196|80=>100|n=>n,fun|15=>7|16=>8|17=>10|18=>11|19=>12|n=>n⟩
theorem Tryz.laysC174:Go.Proofs.LaysC.n174 Tryz.prog Tryz.laysC174_ren:={
 mixed:=by kernel_rfl
 f129:=Tryz.func173.trans (congrArg some (by kernel_rfl))
 f171:=Tryz.func165.trans (congrArg some (by kernel_rfl))
 f174:=Tryz.func111.trans (congrArg some (by kernel_rfl))
 f205:=Tryz.func164.trans (congrArg some (by kernel_rfl))
 f243:=Tryz.func166.trans (congrArg some (by kernel_rfl))
 f245:=Tryz.func138.trans (congrArg some (by kernel_rfl))
 f246:=Tryz.func167.trans (congrArg some (by kernel_rfl))
 f247:=Tryz.func137.trans (congrArg some (by kernel_rfl))
 f279:=Tryz.func153.trans (congrArg some (by kernel_rfl))
 f280:=Tryz.func154.trans (congrArg some (by kernel_rfl))
 f281:=Tryz.func155.trans (congrArg some (by kernel_rfl))
 f282:=Tryz.func156.trans (congrArg some (by kernel_rfl))
 f283:=Tryz.func168.trans (congrArg some (by kernel_rfl))
 f284:=Tryz.func169.trans (congrArg some (by kernel_rfl))
 f285:=Tryz.func170.trans (congrArg some (by kernel_rfl))
 f286:=Tryz.func171.trans (congrArg some (by kernel_rfl))
 f287:=Tryz.func152.trans (congrArg some (by kernel_rfl))
 f316:=Tryz.func163.trans (congrArg some (by kernel_rfl))
 f317:=Tryz.func172.trans (congrArg some (by kernel_rfl))
 f318:=Tryz.func174.trans (congrArg some (by kernel_rfl))
 f319:=Tryz.func175.trans (congrArg some (by kernel_rfl))
 f320:=Tryz.func176.trans (congrArg some (by kernel_rfl))
 f321:=Tryz.func161.trans (congrArg some (by kernel_rfl))
 f322:=Tryz.func162.trans (congrArg some (by kernel_rfl))
 f337:=Tryz.func177.trans (congrArg some (by kernel_rfl))
 f338:=Tryz.func178.trans (congrArg some (by kernel_rfl))
 t0:=Tryz.underlying0
 a0:=Tryz.isAgg0
 z0:=Tryz.sizeOf0
 v0:=Tryz.zeroValue0
 t2:=Tryz.underlying2
 a2:=Tryz.isAgg2
 z2:=Tryz.sizeOf2
 v2:=Tryz.zeroValue2
 t3:=Tryz.underlying3
 a3:=Tryz.isAgg3
 z3:=Tryz.sizeOf3
 v3:=Tryz.zeroValue3
 t4:=Tryz.underlying4
 a4:=Tryz.isAgg4
 z4:=Tryz.sizeOf4
 v4:=Tryz.zeroValue4
 t5:=Tryz.underlying5
 a5:=Tryz.isAgg5
 z5:=Tryz.sizeOf5
 v5:=Tryz.zeroValue5
 t9:=Tryz.underlying9
 a9:=Tryz.isAgg9
 z9:=Tryz.sizeOf9
 v9:=Tryz.zeroValue9
 t20:=Tryz.underlying20
 a20:=Tryz.isAgg20
 z20:=Tryz.sizeOf20
 v20:=Tryz.zeroValue20
 t21:=Tryz.underlying21
 a21:=Tryz.isAgg21
 z21:=Tryz.sizeOf21
 v21:=Tryz.zeroValue21
 t37:=Tryz.underlying41
 a37:=Tryz.isAgg41
 z37:=Tryz.sizeOf41
 v37:=Tryz.zeroValue41
 t46:=Tryz.underlying121
 a46:=Tryz.isAgg121
 z46:=Tryz.sizeOf121
 v46:=Tryz.zeroValue121
 t51:=Tryz.underlying159
 a51:=Tryz.isAgg159
 z51:=Tryz.sizeOf159
 v51:=Tryz.zeroValue159
 t53:=Tryz.underlying162
 a53:=Tryz.isAgg162
 z53:=Tryz.sizeOf162
 v53:=Tryz.zeroValue162
 t75:=Tryz.underlying65
 a75:=Tryz.isAgg65
 z75:=Tryz.sizeOf65
 v75:=Tryz.zeroValue65
 t85:=Tryz.underlying142
 a85:=Tryz.isAgg142
 z85:=Tryz.sizeOf142
 v85:=Tryz.zeroValue142
 t127:=Tryz.underlying165
 a127:=Tryz.isAgg165
 z127:=Tryz.sizeOf165
 v127:=Tryz.zeroValue165
 t143:=Tryz.underlying181
 a143:=Tryz.isAgg181
 z143:=Tryz.sizeOf181
 v143:=Tryz.zeroValue181
 t145:=Tryz.underlying183
 a145:=Tryz.isAgg183
 z145:=Tryz.sizeOf183
 v145:=Tryz.zeroValue183
 t167:=Tryz.underlying168
 a167:=Tryz.isAgg168
 z167:=Tryz.sizeOf168
 v167:=Tryz.zeroValue168
 t168:=Tryz.underlying171
 a168:=Tryz.isAgg171
 z168:=Tryz.sizeOf171
 v168:=Tryz.zeroValue171
 t171:=Tryz.underlying185
 a171:=Tryz.isAgg185
 z171:=Tryz.sizeOf185
 v171:=Tryz.zeroValue185
 t173:=Tryz.underlying188
 a173:=Tryz.isAgg188
 z173:=Tryz.sizeOf188
 v173:=Tryz.zeroValue188
 t175:=Tryz.underlying169
 a175:=Tryz.isAgg169
 z175:=Tryz.sizeOf169
 v175:=Tryz.zeroValue169
 t210:=Tryz.underlying179
 a210:=Tryz.isAgg179
 z210:=Tryz.sizeOf179
 v210:=Tryz.zeroValue179
 t212:=Tryz.underlying191
 a212:=Tryz.isAgg191
 z212:=Tryz.sizeOf191
 v212:=Tryz.zeroValue191
 t213:=Tryz.underlying192
 a213:=Tryz.isAgg192
 z213:=Tryz.sizeOf192
 t232:=Tryz.underlying195
 a232:=Tryz.isAgg195
 z232:=Tryz.sizeOf195
 v232:=Tryz.zeroValue195
 t233:=Tryz.underlying196
 a233:=Tryz.isAgg196
 z233:=Tryz.sizeOf196
 v233:=Tryz.zeroValue196
 g15:=by kernel_rfl
 g16:=by kernel_rfl
 g17:=by kernel_rfl
 g18:=by kernel_rfl
 g19:=by kernel_rfl
 t80:=Tryz.underlying100
 a80:=Tryz.isAgg100
 z80:=Tryz.sizeOf100
 v80:=Tryz.zeroValue100
 i0:=by kernel_rfl
 i2:=by kernel_rfl
 i3:=by kernel_rfl
 i4:=by kernel_rfl
 i5:=by kernel_rfl
 i9:=by kernel_rfl
 i20:=by kernel_rfl
 i21:=by kernel_rfl
 i37:=by kernel_rfl
 i46:=by kernel_rfl
 i51:=by kernel_rfl
 i53:=by kernel_rfl
 i75:=by kernel_rfl
 i80:=by kernel_rfl
 i85:=by kernel_rfl
 i127:=by kernel_rfl
 i143:=by kernel_rfl
 i145:=by kernel_rfl
 i167:=by kernel_rfl
 i168:=by kernel_rfl
 i171:=by kernel_rfl
 i173:=by kernel_rfl
 i175:=by kernel_rfl
 i210:=by kernel_rfl
 i212:=by kernel_rfl
 i232:=by kernel_rfl
 i233:=by kernel_rfl
 m15:=by kernel_rfl
 m16:=by kernel_rfl
 m17:=by kernel_rfl
 m18:=by kernel_rfl
 m19:=by kernel_rfl
 c0:=by kernel_rfl
 c2:=by kernel_rfl
 c3:=by kernel_rfl
 c4:=by kernel_rfl
 c5:=by kernel_rfl
 c9:=by kernel_rfl
 c20:=by kernel_rfl
 c21:=by kernel_rfl
 c37:=by kernel_rfl
 c46:=by kernel_rfl
 c51:=by kernel_rfl
 c53:=by kernel_rfl
 c75:=by kernel_rfl
 c80:=by kernel_rfl
 c85:=by kernel_rfl
 c127:=by kernel_rfl
 c143:=by kernel_rfl
 c145:=by kernel_rfl
 c167:=by kernel_rfl
 c168:=by kernel_rfl
 c171:=by kernel_rfl
 c173:=by kernel_rfl
 c175:=by kernel_rfl
 c210:=by kernel_rfl
 c212:=by kernel_rfl
 c213:=by kernel_rfl
 c232:=by kernel_rfl
 c233:=by kernel_rfl}
open Go.RowKit in
theorem Tryz.strconv_ParseInt_10_at32_ok(s:ByteArray)(hmax:s.size<=9223372036854775806)(v:Int)(h:Lib.parseIntB 32 s.data.toList = .ok v)(w:World):
  Calls Tryz.prog 111 #[.string s,.int .i64 10,.int .i64 32] w fun e w'=>e = .returned (.tuple #[.int .i64 v,.nilIface])/\(w'=w\/∃t,w'=Lib.bytesWorld w 5 t):=Any.strconv_ParseInt_10_at32_ok Tryz.laysC174 s hmax v h w
def Tryz.lays105_ren:Go.Shelf.Ren:=⟨fun|105=>89|212=>114|99=>115|165=>116|166=>117|170=>118|169=>119|263=>142|264=>143|206=>144|240=>145|241=>146|276=>158|277=>159|n=>n,fun|9=>9|3=>3|4=>4|20=>20|0=>0|46=>121|109=>146|5=>5|72=>150|76=>126|51=>159|146=>160|53=>162|148=>163|70=>148|37=>41|75=>65|127=>165|164=>174|80=>100|n=>n,fun|n=>n⟩
theorem Tryz.lays105:Go.Proofs.Lays.n105 Tryz.prog Tryz.lays105_ren:={
 mixed:=by kernel_rfl
 f99:=Tryz.func115.trans (congrArg some (by kernel_rfl))
 f105:=Tryz.func89.trans (congrArg some (by kernel_rfl))
 f165:=Tryz.func116.trans (congrArg some (by kernel_rfl))
 f166:=Tryz.func117.trans (congrArg some (by kernel_rfl))
 f169:=Tryz.func119.trans (congrArg some (by kernel_rfl))
 f170:=Tryz.func118.trans (congrArg some (by kernel_rfl))
 f206:=Tryz.func144.trans (congrArg some (by kernel_rfl))
 f212:=Tryz.func114.trans (congrArg some (by kernel_rfl))
 f240:=Tryz.func145.trans (congrArg some (by kernel_rfl))
 f241:=Tryz.func146.trans (congrArg some (by kernel_rfl))
 f263:=Tryz.func142.trans (congrArg some (by kernel_rfl))
 f264:=Tryz.func143.trans (congrArg some (by kernel_rfl))
 f276:=Tryz.func158.trans (congrArg some (by kernel_rfl))
 f277:=Tryz.func159.trans (congrArg some (by kernel_rfl))
 t0:=Tryz.underlying0
 a0:=Tryz.isAgg0
 z0:=Tryz.sizeOf0
 v0:=Tryz.zeroValue0
 t3:=Tryz.underlying3
 a3:=Tryz.isAgg3
 z3:=Tryz.sizeOf3
 v3:=Tryz.zeroValue3
 t4:=Tryz.underlying4
 a4:=Tryz.isAgg4
 z4:=Tryz.sizeOf4
 v4:=Tryz.zeroValue4
 t5:=Tryz.underlying5
 a5:=Tryz.isAgg5
 z5:=Tryz.sizeOf5
 v5:=Tryz.zeroValue5
 t9:=Tryz.underlying9
 a9:=Tryz.isAgg9
 z9:=Tryz.sizeOf9
 v9:=Tryz.zeroValue9
 t20:=Tryz.underlying20
 a20:=Tryz.isAgg20
 z20:=Tryz.sizeOf20
 v20:=Tryz.zeroValue20
 t37:=Tryz.underlying41
 a37:=Tryz.isAgg41
 z37:=Tryz.sizeOf41
 v37:=Tryz.zeroValue41
 t46:=Tryz.underlying121
 a46:=Tryz.isAgg121
 z46:=Tryz.sizeOf121
 v46:=Tryz.zeroValue121
 t51:=Tryz.underlying159
 a51:=Tryz.isAgg159
 z51:=Tryz.sizeOf159
 v51:=Tryz.zeroValue159
 t53:=Tryz.underlying162
 a53:=Tryz.isAgg162
 z53:=Tryz.sizeOf162
 v53:=Tryz.zeroValue162
 t70:=Tryz.underlying148
 a70:=Tryz.isAgg148
 z70:=Tryz.sizeOf148
 v70:=Tryz.zeroValue148
 t72:=Tryz.underlying150
 a72:=Tryz.isAgg150
 z72:=Tryz.sizeOf150
 v72:=Tryz.zeroValue150
 t75:=Tryz.underlying65
 a75:=Tryz.isAgg65
 z75:=Tryz.sizeOf65
 v75:=Tryz.zeroValue65
 t76:=Tryz.underlying126
 a76:=Tryz.isAgg126
 z76:=Tryz.sizeOf126
 v76:=Tryz.zeroValue126
 t109:=Tryz.underlying146
 a109:=Tryz.isAgg146
 z109:=Tryz.sizeOf146
 v109:=Tryz.zeroValue146
 t127:=Tryz.underlying165
 a127:=Tryz.isAgg165
 z127:=Tryz.sizeOf165
 v127:=Tryz.zeroValue165
 t146:=Tryz.underlying160
 a146:=Tryz.isAgg160
 z146:=Tryz.sizeOf160
 v146:=Tryz.zeroValue160
 t148:=Tryz.underlying163
 a148:=Tryz.isAgg163
 z148:=Tryz.sizeOf163
 v148:=Tryz.zeroValue163
 t164:=Tryz.underlying174
 a164:=Tryz.isAgg174
 z164:=Tryz.sizeOf174
 v164:=Tryz.zeroValue174}
theorem Tryz.Builder_Extra_105:Builder.Extra Tryz.prog Tryz.lays105_ren:={
 sizeBuilder:=by kernel_rfl
 liesBuilder:=by kernel_rfl
 t5:=Tryz.underlying5
 a5:=Tryz.isAgg5
 z5:=Tryz.sizeOf5
 v5:=Tryz.zeroValue5
 infoByte:=by kernel_rfl
 cellsByte:=by kernel_rfl
 sizeByte:=by kernel_rfl
 neB5:=by decide}
open Go.RowKit Go.Lib in
theorem Tryz.strings_Repeat(s:ByteArray)(c:Nat)(w:World)(hc:c<=9223372036854775807)(hlen:s.size*c<=140737488355328):
  Calls Tryz.prog 89 #[.string s,.int .i64 c] w fun e w'=>e = .returned (.string ⟨(Lib.repeatL s.data.toList c).toArray⟩)/\Below w.heap.size w w':=Any.strings_Repeat Tryz.lays105 Tryz.Builder_Extra_105 s c w hc hlen
end Go.Proofs
namespace Go.Proofs.YtoimaaonloibfaaGreatDoor.PF
open Go.RowKit W1 W2 W3
attribute [local go_sem] max2_int min2_int max_two min_two max_three min_three max_four min_four
def spec_prIsWordy.f(a0:Int):Option (Bool):=(spec_lxIsLetter.f a0).bind fun t169=>(if t169=true then(some true) else((spec_lxIsDigit.f a0).bind fun t170=>(some t170)))
set_option maxHeartbeats 8000000 in
set_option maxRecDepth 100000 in
theorem spec_prIsWordy.calls(a0:Int)(r:Bool)(w:World)(h:spec_prIsWordy.f a0=some r):
  Calls Tryz.prog 59 #[.int .u8 a0] w fun e w'=>e = .returned (.bool r)/\Drawn0 w w':=by
 have H:((spec_lxIsLetter.f a0).bind fun t169=>(if t169=true then(some true) else((spec_lxIsDigit.f a0).bind fun t170=>(some t170))))=some r:=h;clear h;replace H:=Option.bind_eq_some_iff.mp H;obtain⟨t169,A20,H⟩:=H;replace H:(if t169=true then(some true) else((spec_lxIsDigit.f a0).bind fun t170=>(some t170)))=some r:=H;have A2:=aM A20;clear A20
 by_cases c3:t169=true
 ·subst c3
  have H1:(some true)=some r:=by rw[if_pos rfl] at H;exact H
  clear H;have H:=H1;clear H1;obtain rfl:=Option.some.inj H;go_enter Tryz.func59,Tryz.ntmps59
  go_wp2_with (first|((with_reducible refine gate_callee (f:=73) rfl ?_);refine goesL_ (some 4) rfl rfl Tryz.func73 (by kernel_rfl) rfl #[.int .u8 a0] rfl (by(try simp only[List.map_toArray,List.map_cons,List.map_nil]);first|done|rfl|(simp only[List.length_drop,List.length_take];rfl)) ?_;(with_reducible refine(spec_lxIsLetter.calls a0 true _ A2.out).mono ?_);rintro e w' ⟨rfl,⟨nd,rfl⟩⟩;refine⟨_,rfl,?_⟩))
  go_ret;exact⟨by first|rfl|(simp;done)|(simp[*];done),by repeat (first|exact Drawn0.refl _|apply Drawn0.step)⟩
 ·replace c3:=Bool.eq_false_iff.mpr c3
  subst c3;have H1:((spec_lxIsDigit.f a0).bind fun t170=>(some t170))=some r:=by rw[if_neg (show ¬(false=true) by decide)] at H;exact H
  clear H;have H:=H1;clear H1;replace H:=Option.bind_eq_some_iff.mp H;obtain⟨t170,A40,H⟩:=H;replace H:(some t170)=some r:=H;have A4:=aM A40;clear A40;obtain rfl:=Option.some.inj H;go_enter Tryz.func59,Tryz.ntmps59
  go_wp2_with (first|((with_reducible refine gate_callee (f:=73) rfl ?_);refine goesL_ (some 4) rfl rfl Tryz.func73 (by kernel_rfl) rfl #[.int .u8 a0] rfl (by(try simp only[List.map_toArray,List.map_cons,List.map_nil]);first|done|rfl|(simp only[List.length_drop,List.length_take];rfl)) ?_;(with_reducible refine(spec_lxIsLetter.calls a0 false _ A2.out).mono ?_);rintro e w' ⟨rfl,⟨nd,rfl⟩⟩;refine⟨_,rfl,?_⟩)|(go_at_call 75;(with_reducible refine(spec_lxIsDigit.calls a0 t170 _ A4.out).mono ?_);rintro e w' ⟨rfl,⟨nd,rfl⟩⟩))
  go_ret;exact⟨by first|rfl|(simp;done)|(simp[*];done),by repeat (first|exact Drawn0.refl _|apply Drawn0.step)⟩
def spec_prNames.l0:Nat->List ByteArray->List ByteArray->Int->Int->Option (List ByteArray)
 |0,_,_,_,_=>none
 |k+1,x3,x7,x8,x9=>if x9<x8 then(if 0<=x9 then(if x9<(x7.length:Int) then(if x9>0 then(if x3.length<8796093022208 then((some (x3++[(⟨#[44]⟩:ByteArray)]:List ByteArray)).bind fun y205=>(if y205.length<8796093022208 then(spec_prNames.l0 k (y205++[rdOf ByteArray.empty x7 x9]) x7 x8 (wrap64 (x9+1))) else(none))) else(none)) else(if x3.length<8796093022208 then(spec_prNames.l0 k (x3++[rdOf ByteArray.empty x7 x9]) x7 x8 (wrap64 (x9+1))) else(none))) else(none)) else(none)) else(some x3)
def spec_prNames.f(k:Nat)(l0:List ByteArray):Option (List ByteArray):=spec_prNames.l0 k (([]:List ByteArray)) l0 (l0.length:Int) 0
set_option maxHeartbeats 8000000 in
set_option maxRecDepth 100000 in
theorem spec_prNames.calls(k:Nat)(A0:Option Addr)(c0:Nat)(l0:List ByteArray)(r:List ByteArray)(w:World)(hr0:Kd.C Kd.string w A0 l0.length l0)(hc0:l0.length<=c0)(h:spec_prNames.f k l0=some r):
  Calls Tryz.prog 61 #[.slice A0 l0.length c0] w fun e w'=>∃v0_:Value,e = .returned (v0_)/\Kd.R Kd.string 9 w' w.heap.size (fun _=>True) v0_ r/\Below w.heap.size w w':=by
 have HR0:=aM hr0;have HC0:=aM hc0;clear hr0 hc0;have HB:=aM (bR w.heap.size w);have H:(spec_prNames.l0 k (([]:List ByteArray)) l0 (l0.length:Int) 0)=some r:=h;clear h;obtain⟨y201,hy201⟩:∃y_:List ByteArray,y_=(([]:List ByteArray)):=⟨_,rfl⟩;replace H:(spec_prNames.l0 k y201 l0 (l0.length:Int) 0)=some r:=by first|(rw[hy201];with_reducible exact H)|(have H2_:=(Option.bind_some _ _).symm.trans H;rw[hy201];with_reducible exact H2_)|(have H2_:=(Option.bind_some _ _).symm.trans H;with_reducible exact H2_)|with_reducible exact H|(rw[hy201];exact H)|exact H
 have Ny201:=aM hy201;clear hy201;have H':=aM H;clear H;go_enter Tryz.func61,Tryz.ntmps61
 go_wp2_with (first|((with_reducible refine gate_dst (N:=6) rfl ?_);refine Kd.R_lit Kd.string _ 9 ?hg (N:=6) ?hd (xs:=([]:List ByteArray)) (inner:=[]) (ok:=fun _=>True) (okp:=fun _=>True) ?hr ?hp (fun _ hk=>hk) trivial (bR _ _) (Nat.le_refl _) (by simp) ?_;(case hd=>rfl);(case hg=>rfl);(case hr=>first|(go_simp;done)|(go_simp;rfl));(case hp=>exact(Reps.none _ _));intro v202 w2 ho3 hb hg_ hnew_;clear hg_ hnew_;(first|rw[<-Ny201.out] at ho3|(simp only[Int.reduceToNat] at ho3;rw[<-Ny201.out] at ho3));have n0_:=aM (Kd.R_lower ho3 (below_size (by repeat (first|(with_reducible first|exact HB.out|apply bA|apply pD|apply bD)|exact HB.out))));have n1_:=aM (below_step (by repeat (first|(with_reducible first|exact HB.out|apply bA|apply pD|apply bD)|exact HB.out)) hb);clear HB;have HO203:=n0_;have HB:=n1_;clear n0_ n1_;clear hb ho3))
 go_loopg [3,9] k (fun kq v3 v9 w'=>∃(x3_1:List ByteArray) (x9_1:Int),v9 = .int .i64 x9_1/\Aside0 (spec_prNames.l0 kq x3_1 l0 (l0.length:Int) x9_1=some r)/\Aside0 (kq<=k)/\Aside0 (Kd.R Kd.string 9 w' w.heap.size (fun _=>True) v3 x3_1)/\Aside0 (Below w.heap.size w w'))
 case atStart=>exact⟨(y201),(0),(by first|rfl|(simp;done)|(simp[*];done)),H',⟨Nat.le_refl _⟩,⟨by(with_reducible repeat (first|apply Kd.R_alloc|apply Kd.R_drewN|apply Kd.R_drew));exact HO203.out⟩,⟨by repeat (first|(with_reducible first|exact HB.out|apply bA|apply pD|apply bD)|exact HB.out)⟩⟩
 case round=>
  clear H'
  try clear p2
  obtain⟨x3_1,x9_1,rfl,HA,HK1,HO_3,HB⟩:=hrel
  cases gk with
  |zero=>exact absurd HA.out (by simp[spec_prNames.l0])
  |succ k1=>
   have H:=HA.out;clear HA;simp only[spec_prNames.l0] at H
   by_cases c4:x9_1<(l0.length:Int)
   ·rw[if_pos c4] at H
    have c4b0:decide (x9_1<(l0.length:Int))=true:=decide_eq_true c4;clear c4
    by_cases c5:0<=x9_1
    ·rw[if_pos c5] at H
     have c5b0:decide (0<=x9_1)=true:=decide_eq_true c5;clear c5
     by_cases c6:x9_1<(l0.length:Int)
     ·rw[if_pos c6] at H
      have c6b0:decide (x9_1<(l0.length:Int))=true:=decide_eq_true c6;clear c6
      by_cases c7:x9_1>0
      ·rw[if_pos c7] at H
       have c7b0:decide (0<x9_1)=true:=decide_eq_true c7;clear c7
       by_cases c8:x3_1.length<8796093022208
       ·rw[if_pos c8] at H
        have LMc8:=aM c8;clear c8;obtain⟨y205,hy205⟩:∃y_:List ByteArray,y_=(x3_1++[(⟨#[44]⟩:ByteArray)]):=⟨_,rfl⟩;replace H:(if y205.length<8796093022208 then(spec_prNames.l0 k1 (y205++[rdOf ByteArray.empty l0 x9_1]) l0 (l0.length:Int) (wrap64 (x9_1+1))) else(none))=some r:=by first|(rw[hy205];with_reducible exact H)|(have H2_:=(Option.bind_some _ _).symm.trans H;rw[hy205];with_reducible exact H2_)|(have H2_:=(Option.bind_some _ _).symm.trans H;with_reducible exact H2_)|with_reducible exact H|(rw[hy205];exact H)|exact H
        have Ny205:=aM hy205;clear hy205
        by_cases c9:y205.length<8796093022208
        ·rw[if_pos c9] at H
         have LMc9:=aM c9;clear c9;obtain⟨y208,hy208⟩:∃y_:List ByteArray,y_=(y205++[rdOf ByteArray.empty l0 x9_1]):=⟨_,rfl⟩;replace H:(spec_prNames.l0 k1 y208 l0 (l0.length:Int) (wrap64 (x9_1+1)))=some r:=by first|(rw[hy208];with_reducible exact H)|(have H2_:=(Option.bind_some _ _).symm.trans H;rw[hy208];with_reducible exact H2_)|(have H2_:=(Option.bind_some _ _).symm.trans H;with_reducible exact H2_)|with_reducible exact H|(rw[hy208];exact H)|exact H
         have Ny208:=aM hy208;clear hy208;have H':=aM H;clear H;have p204:0<=(x9_1:Int):=of_decide_eq_true (by first|(with_reducible assumption)|assumption);have q204:x9_1<(l0.length:Int):=of_decide_eq_true (by first|(with_reducible assumption)|assumption);obtain⟨ad204,e204,hx204_0⟩:=Kd.at_string HR0.out x9_1 p204 q204
         cases e204
         replace hx204_0:=(HB.out.cell (World.block_lt_of_cell? w _ hx204_0)).trans hx204_0;replace p204:=eq_true p204;replace q204:=eq_true q204;go_wp2_with (first|((with_reducible refine gate_builtin (b:= .append) (xs:= #[.tmp 16,.tmp 17]) rfl ?_);at_builtin;refine Kd.R_append Kd.string (w0:=w) w.heap.size rfl (.tmp 16) (.tmp 17) 24 9 (.string ⟨#[]⟩) 16 rfl Tryz.underlying24 info9 rfl (by decide) (by omega) u3 x3_1 (⟨#[44]⟩:ByteArray) [.string (⟨#[44]⟩:ByteArray)] (fun _=>True) (fun _=>False) rfl rfl ?aP (fun _ hk=>hk.elim) ?aF ?aO ?aB ?aS ?aL ?_;(case aP=>exact rfl);(case aB=>exact(by repeat (first|(with_reducible first|exact HB.out|apply bA|apply pD|apply bD)|exact HB.out)));(case aF=>exact(fun _ _=>trivial));(case aO=>exact(by(with_reducible repeat (first|apply Kd.R_alloc|apply Kd.R_drewN|apply Kd.R_drew));exact HO_3.out));(case aS=>exact(below_size (by repeat (first|(with_reducible first|exact HB.out|apply bA|apply pD|apply bD)|exact HB.out))));(case aL=>have:=LMc8.out;omega);intro v206 w10 ho hb hg hat;rw[<-Ny205.out] at ho;have n0_:=aM (hb);have n1_:=aM (ho);clear HB;clear HO_3;have HB:=n0_;have HO207:=n1_;clear n0_ n1_;clear ho hb hg hat)|((with_reducible refine gate_builtin (b:= .append) (xs:= #[.tmp 19,.tmp 21]) rfl ?_);at_builtin;refine Kd.R_append Kd.string (w0:=w) w.heap.size rfl (.tmp 19) (.tmp 21) 24 9 (.string ⟨#[]⟩) 16 rfl Tryz.underlying24 info9 rfl (by decide) (by omega) v206 y205 (rdOf ByteArray.empty l0 x9_1) [.string (rdOf ByteArray.empty l0 x9_1)] (fun _=>True) (fun _=>False) rfl rfl ?aP (fun _ hk=>hk.elim) ?aF ?aO ?aB ?aS ?aL ?_;(case aP=>exact rfl);(case aB=>exact(by repeat (first|(with_reducible first|exact HB.out|apply bA|apply pD|apply bD)|exact HB.out)));(case aF=>exact(fun _ _=>trivial));(case aO=>exact(by(with_reducible repeat (first|apply Kd.R_alloc|apply Kd.R_drewN|apply Kd.R_drew));exact HO207.out));(case aS=>exact(below_size (by repeat (first|(with_reducible first|exact HB.out|apply bA|apply pD|apply bD)|exact HB.out))));(case aL=>have:=LMc9.out;omega);intro v209 w11 ho hb hg hat;rw[<-Ny208.out] at ho;have n0_:=aM (hb);have n1_:=aM (ho);clear HB;clear HO207;have HB:=n0_;have HO210:=n1_;clear n0_ n1_;clear ho hb hg hat))
         go_roundg k1
         case measure=>have:=HK1.out;omega
         case rel=>exact⟨(y208),(wrap64 (x9_1+1)),(by first|rfl|(simp;done)|(simp[*];done)),H',⟨by have:=HK1.out;omega⟩,⟨by(with_reducible repeat (first|apply Kd.R_alloc|apply Kd.R_drewN|apply Kd.R_drew));exact HO210.out⟩,⟨by repeat (first|(with_reducible first|exact HB.out|apply bA|apply pD|apply bD)|exact HB.out)⟩⟩
        ·rw[if_neg c9] at H
         exact absurd H (by simp)
       ·rw[if_neg c8] at H
        exact absurd H (by simp)
      ·rw[if_neg c7] at H
       have c7b0:decide (0<x9_1)=false:=decide_eq_false c7;clear c7
       by_cases c12:x3_1.length<8796093022208
       ·rw[if_pos c12] at H
        have LMc12:=aM c12;clear c12;obtain⟨y211,hy211⟩:∃y_:List ByteArray,y_=(x3_1++[rdOf ByteArray.empty l0 x9_1]):=⟨_,rfl⟩;replace H:(spec_prNames.l0 k1 y211 l0 (l0.length:Int) (wrap64 (x9_1+1)))=some r:=by first|(rw[hy211];with_reducible exact H)|(have H2_:=(Option.bind_some _ _).symm.trans H;rw[hy211];with_reducible exact H2_)|(have H2_:=(Option.bind_some _ _).symm.trans H;with_reducible exact H2_)|with_reducible exact H|(rw[hy211];exact H)|exact H
        have Ny211:=aM hy211;clear hy211;have H':=aM H;clear H;have p204:0<=(x9_1:Int):=of_decide_eq_true (by first|(with_reducible assumption)|assumption);have q204:x9_1<(l0.length:Int):=of_decide_eq_true (by first|(with_reducible assumption)|assumption);obtain⟨ad204,e204,hx204_0⟩:=Kd.at_string HR0.out x9_1 p204 q204
        cases e204
        replace hx204_0:=(HB.out.cell (World.block_lt_of_cell? w _ hx204_0)).trans hx204_0;replace p204:=eq_true p204;replace q204:=eq_true q204;go_wp2_with (first|((with_reducible refine gate_builtin (b:= .append) (xs:= #[.tmp 19,.tmp 21]) rfl ?_);at_builtin;refine Kd.R_append Kd.string (w0:=w) w.heap.size rfl (.tmp 19) (.tmp 21) 24 9 (.string ⟨#[]⟩) 16 rfl Tryz.underlying24 info9 rfl (by decide) (by omega) u3 x3_1 (rdOf ByteArray.empty l0 x9_1) [.string (rdOf ByteArray.empty l0 x9_1)] (fun _=>True) (fun _=>False) rfl rfl ?aP (fun _ hk=>hk.elim) ?aF ?aO ?aB ?aS ?aL ?_;(case aP=>exact rfl);(case aB=>exact(by repeat (first|(with_reducible first|exact HB.out|apply bA|apply pD|apply bD)|exact HB.out)));(case aF=>exact(fun _ _=>trivial));(case aO=>exact(by(with_reducible repeat (first|apply Kd.R_alloc|apply Kd.R_drewN|apply Kd.R_drew));exact HO_3.out));(case aS=>exact(below_size (by repeat (first|(with_reducible first|exact HB.out|apply bA|apply pD|apply bD)|exact HB.out))));(case aL=>have:=LMc12.out;omega);intro v212 w13 ho hb hg hat;rw[<-Ny211.out] at ho;have n0_:=aM (hb);have n1_:=aM (ho);clear HB;clear HO_3;have HB:=n0_;have HO213:=n1_;clear n0_ n1_;clear ho hb hg hat))
        go_roundg k1
        case measure=>have:=HK1.out;omega
        case rel=>exact⟨(y211),(wrap64 (x9_1+1)),(by first|rfl|(simp;done)|(simp[*];done)),H',⟨by have:=HK1.out;omega⟩,⟨by(with_reducible repeat (first|apply Kd.R_alloc|apply Kd.R_drewN|apply Kd.R_drew));exact HO213.out⟩,⟨by repeat (first|(with_reducible first|exact HB.out|apply bA|apply pD|apply bD)|exact HB.out)⟩⟩
       ·rw[if_neg c12] at H
        exact absurd H (by simp)
     ·rw[if_neg c6] at H
      exact absurd H (by simp)
    ·rw[if_neg c5] at H
     exact absurd H (by simp)
   ·rw[if_neg c4] at H
    have c4b0:decide (x9_1<(l0.length:Int))=false:=decide_eq_false c4;clear c4;obtain rfl:=Option.some.inj H
    go_wp2
    go_ret;exact⟨_,by first|rfl|(simp[errW_none,errW_some]<;>rfl)|(simp[*,errW_none,errW_some]<;>rfl),by(with_reducible repeat (first|apply Kd.R_alloc|apply Kd.R_drewN|apply Kd.R_drew));exact HO_3.out,by repeat (first|(with_reducible first|exact HB.out|apply bA|apply pD|apply bD)|exact HB.out)⟩
def IsS91(w0 W:World)(g:Nat)(f0:ByteArray)(f1:Int)(f2:Int):Prop:=W.heap[g]? = some (.cells #[.string f0,.int .i64 f1,.int .i64 f2] 91 (0,0))/\w0.heap.size<=g
def strings_NewReader.f(a0:ByteArray):Option (ByteArray×Int×Int):=some (a0,0,(-1))
set_option maxHeartbeats 8000000 in
set_option maxRecDepth 100000 in
theorem strings_NewReader.calls(a0:ByteArray)(r1:ByteArray)(r2:Int)(r3:Int)(w0 w:World)(hB:Below w0.heap.size w0 w)(h:strings_NewReader.f a0=some (r1,r2,r3)):
  Calls Tryz.prog 17 #[.string a0] w fun e w'=>∃g_:Nat,e = .returned (.pointer (some ⟨g_,0,none⟩))/\IsS91 w0 w' g_ r1 r2 r3/\Below w0.heap.size w0 w'/\Below w.heap.size w w':=by
 have hu91:=Tryz.underlying91;have HBW:=aM (bR w.heap.size w);have HW0:=aM hB.size;have HB:=aM hB;clear hB;have H:(some (a0,0,(-1)))=some (r1,r2,r3):=h;clear h;simp only[Option.some.injEq,Prod.mk.injEq] at H;obtain⟨rfl,rfl,rfl⟩:=H;go_enter Tryz.func17,Tryz.ntmps17
 go_wp2_with (first|((with_reducible refine gate_dst (N:=5) rfl ?_);refine box_event ?hg (N:=5) ?hd (cs:= #[.string a0,.int .i64 0,.int .i64 (-1)]) (t:=91) ?hr ?_;(case hd=>rfl);(case hg=>rfl);(case hr=>first|(go_simp;done)|(go_simp;rfl));intro gb261 hg w2 hbox hb;have n0_:=aM (below_step HBW.out hb);have n1_:=aM (below_step (by repeat (first|(with_reducible first|exact HB.out|apply bA|apply pD|apply bD)|exact HB.out)) hb);have n2_:=aM (hbox);have n3_:=aM ((by rw[hg];exact(below_size (by repeat (first|(with_reducible first|exact HBW.out|apply bA|apply pD|apply bD)|exact HBW.out))):w.heap.size<=gb261));have n4_:=aM ((Nat.le_trans HW0.out (by rw[hg];exact(below_size (by repeat (first|(with_reducible first|exact HBW.out|apply bA|apply pD|apply bD)|exact HBW.out))):w.heap.size<=gb261):w0.heap.size<=gb261));clear HBW;clear HB;have HBW:=n0_;have HB:=n1_;have BK261:=n2_;have GW261:=n3_;have GE261:=n4_;clear n0_ n1_ n2_ n3_ n4_;clear hb hbox hg))
 go_ret;exact⟨_,rfl,(show IsS91 w0 _ gb261 a0 0 (-1) from⟨by(with_reducible repeat (first|refine blk_drewN ?_ _|refine blk_drew ?_|refine blk_alloc ?_ _));exact BK261.out,GE261.out⟩),by repeat (first|(with_reducible first|exact HB.out|apply bA|apply pD|apply bD|refine below_set ?_ GE261.out)|exact HB.out),by repeat (first|(with_reducible first|exact HBW.out|apply bA|apply pD|apply bD|refine below_set ?_ GW261.out)|exact HBW.out)⟩
def parse_isDecimal.f(a0:Int):Option (Bool):=if 48<=a0 then(some (decide (a0<=57))) else(some false)
set_option maxHeartbeats 8000000 in
set_option maxRecDepth 100000 in
theorem parse_isDecimal.calls(a0:Int)(r:Bool)(w:World)(h:parse_isDecimal.f a0=some r):
  Calls Tryz.prog 41 #[.int .i64 a0] w fun e w'=>e = .returned (.bool r)/\Drawn0 w w':=by
 have H:(if 48<=a0 then(some (decide (a0<=57))) else(some false))=some r:=h;clear h
 by_cases c2:48<=a0
 ·rw[if_pos c2] at H
  have c2b0:decide (48<=a0)=true:=decide_eq_true c2;clear c2;obtain rfl:=Option.some.inj H;go_enter Tryz.func41,Tryz.ntmps41
  go_wp2
  go_ret;exact⟨by first|rfl|(simp;done)|(simp[*];done),by repeat (first|exact Drawn0.refl _|apply Drawn0.step)⟩
 ·rw[if_neg c2] at H
  have c2b0:decide (48<=a0)=false:=decide_eq_false c2;clear c2;obtain rfl:=Option.some.inj H;go_enter Tryz.func41,Tryz.ntmps41
  go_wp2
  go_ret;exact⟨by first|rfl|(simp;done)|(simp[*];done),by repeat (first|exact Drawn0.refl _|apply Drawn0.step)⟩
def parse_isIdent.f(a0:Int)(a1:Int):Option (Bool):=if a0=95 then(some true) else(if 65<=a0 then(if a0<=90 then(some true) else(if 97<=a0 then(if a0<=122 then(some true) else((parse_isDecimal.f a0).bind fun t262=>(if t262=true then(some (decide (a1>0))) else(some false)))) else((parse_isDecimal.f a0).bind fun t263=>(if t263=true then(some (decide (a1>0))) else(some false))))) else(if 97<=a0 then(if a0<=122 then(some true) else((parse_isDecimal.f a0).bind fun t264=>(if t264=true then(some (decide (a1>0))) else(some false)))) else((parse_isDecimal.f a0).bind fun t265=>(if t265=true then(some (decide (a1>0))) else(some false)))))
set_option maxHeartbeats 8000000 in
set_option maxRecDepth 100000 in
theorem parse_isIdent.calls(a0:Int)(a1:Int)(r:Bool)(w:World)(h:parse_isIdent.f a0 a1=some r):
  Calls Tryz.prog 38 #[.int .i64 a0,.int .i64 a1] w fun e w'=>e = .returned (.bool r)/\Drawn0 w w':=by
 have H:(if a0=95 then(some true) else(if 65<=a0 then(if a0<=90 then(some true) else(if 97<=a0 then(if a0<=122 then(some true) else((parse_isDecimal.f a0).bind fun t262=>(if t262=true then(some (decide (a1>0))) else(some false)))) else((parse_isDecimal.f a0).bind fun t263=>(if t263=true then(some (decide (a1>0))) else(some false))))) else(if 97<=a0 then(if a0<=122 then(some true) else((parse_isDecimal.f a0).bind fun t264=>(if t264=true then(some (decide (a1>0))) else(some false)))) else((parse_isDecimal.f a0).bind fun t265=>(if t265=true then(some (decide (a1>0))) else(some false))))))=some r:=h;clear h
 by_cases c3:a0=95
 ·rw[if_pos c3] at H
  have c3b0:(a0==95)=true:=beq_iff_eq.mpr c3;have c3b1:(a0 != 95)=false:=bne_eq_false_iff_eq.mpr c3;clear c3;obtain rfl:=Option.some.inj H;go_enter Tryz.func38,Tryz.ntmps38
  go_wp2
  go_ret;exact⟨by first|rfl|(simp;done)|(simp[*];done),by repeat (first|exact Drawn0.refl _|apply Drawn0.step)⟩
 ·rw[if_neg c3] at H
  have c3b0:(a0==95)=false:=beq_eq_false_iff_ne.mpr c3;have c3b1:(a0 != 95)=true:=bne_iff_ne.mpr c3
  by_cases c4:65<=a0
  ·rw[if_pos c4] at H
   have c4b0:decide (65<=a0)=true:=decide_eq_true c4;clear c4
   by_cases c5:a0<=90
   ·rw[if_pos c5] at H
    have c5b0:decide (a0<=90)=true:=decide_eq_true c5;clear c5;obtain rfl:=Option.some.inj H;go_enter Tryz.func38,Tryz.ntmps38
    go_wp2
    go_ret;exact⟨by first|rfl|(simp;done)|(simp[*];done),by repeat (first|exact Drawn0.refl _|apply Drawn0.step)⟩
   ·rw[if_neg c5] at H
    have c5b0:decide (a0<=90)=false:=decide_eq_false c5;clear c5
    by_cases c6:97<=a0
    ·rw[if_pos c6] at H
     have c6b0:decide (97<=a0)=true:=decide_eq_true c6;clear c6
     by_cases c7:a0<=122
     ·rw[if_pos c7] at H
      have c7b0:decide (a0<=122)=true:=decide_eq_true c7;clear c7;obtain rfl:=Option.some.inj H;go_enter Tryz.func38,Tryz.ntmps38
      go_wp2
      go_ret;exact⟨by first|rfl|(simp;done)|(simp[*];done),by repeat (first|exact Drawn0.refl _|apply Drawn0.step)⟩
     ·rw[if_neg c7] at H
      have c7b0:decide (a0<=122)=false:=decide_eq_false c7;clear c7;replace H:=Option.bind_eq_some_iff.mp H;obtain⟨t262,A80,H⟩:=H;replace H:(if t262=true then(some (decide (a1>0))) else(some false))=some r:=H;have A8:=aM A80;clear A80
      by_cases c9:t262=true
      ·subst c9
       have H1:(some (decide (a1>0)))=some r:=by rw[if_pos rfl] at H;exact H
       clear H;have H:=H1;clear H1;obtain rfl:=Option.some.inj H;go_enter Tryz.func38,Tryz.ntmps38
       go_wp2_with (first|(go_at_call 41;(with_reducible refine(parse_isDecimal.calls a0 true _ A8.out).mono ?_);rintro e w' ⟨rfl,⟨nd,rfl⟩⟩))
       go_ret;exact⟨by first|rfl|(simp;done)|(simp[*];done),by repeat (first|exact Drawn0.refl _|apply Drawn0.step)⟩
      ·replace c9:=Bool.eq_false_iff.mpr c9
       subst c9;have H1:(some false)=some r:=by rw[if_neg (show ¬(false=true) by decide)] at H;exact H
       clear H;have H:=H1;clear H1;obtain rfl:=Option.some.inj H;go_enter Tryz.func38,Tryz.ntmps38
       go_wp2_with (first|(go_at_call 41;(with_reducible refine(parse_isDecimal.calls a0 false _ A8.out).mono ?_);rintro e w' ⟨rfl,⟨nd,rfl⟩⟩))
       go_ret;exact⟨by first|rfl|(simp;done)|(simp[*];done),by repeat (first|exact Drawn0.refl _|apply Drawn0.step)⟩
    ·rw[if_neg c6] at H
     have c6b0:decide (97<=a0)=false:=decide_eq_false c6;clear c6;replace H:=Option.bind_eq_some_iff.mp H;obtain⟨t263,A100,H⟩:=H;replace H:(if t263=true then(some (decide (a1>0))) else(some false))=some r:=H;have A10:=aM A100;clear A100
     by_cases c11:t263=true
     ·subst c11
      have H1:(some (decide (a1>0)))=some r:=by rw[if_pos rfl] at H;exact H
      clear H;have H:=H1;clear H1;obtain rfl:=Option.some.inj H;go_enter Tryz.func38,Tryz.ntmps38
      go_wp2_with (first|(go_at_call 41;(with_reducible refine(parse_isDecimal.calls a0 true _ A10.out).mono ?_);rintro e w' ⟨rfl,⟨nd,rfl⟩⟩))
      go_ret;exact⟨by first|rfl|(simp;done)|(simp[*];done),by repeat (first|exact Drawn0.refl _|apply Drawn0.step)⟩
     ·replace c11:=Bool.eq_false_iff.mpr c11
      subst c11;have H1:(some false)=some r:=by rw[if_neg (show ¬(false=true) by decide)] at H;exact H
      clear H;have H:=H1;clear H1;obtain rfl:=Option.some.inj H;go_enter Tryz.func38,Tryz.ntmps38
      go_wp2_with (first|(go_at_call 41;(with_reducible refine(parse_isDecimal.calls a0 false _ A10.out).mono ?_);rintro e w' ⟨rfl,⟨nd,rfl⟩⟩))
      go_ret;exact⟨by first|rfl|(simp;done)|(simp[*];done),by repeat (first|exact Drawn0.refl _|apply Drawn0.step)⟩
  ·rw[if_neg c4] at H
   have c4b0:decide (65<=a0)=false:=decide_eq_false c4;clear c4
   by_cases c12:97<=a0
   ·rw[if_pos c12] at H
    have c12b0:decide (97<=a0)=true:=decide_eq_true c12;clear c12
    by_cases c13:a0<=122
    ·rw[if_pos c13] at H
     have c13b0:decide (a0<=122)=true:=decide_eq_true c13;clear c13;obtain rfl:=Option.some.inj H;go_enter Tryz.func38,Tryz.ntmps38
     go_wp2
     go_ret;exact⟨by first|rfl|(simp;done)|(simp[*];done),by repeat (first|exact Drawn0.refl _|apply Drawn0.step)⟩
    ·rw[if_neg c13] at H
     have c13b0:decide (a0<=122)=false:=decide_eq_false c13;clear c13;replace H:=Option.bind_eq_some_iff.mp H;obtain⟨t264,A140,H⟩:=H;replace H:(if t264=true then(some (decide (a1>0))) else(some false))=some r:=H;have A14:=aM A140;clear A140
     by_cases c15:t264=true
     ·subst c15
      have H1:(some (decide (a1>0)))=some r:=by rw[if_pos rfl] at H;exact H
      clear H;have H:=H1;clear H1;obtain rfl:=Option.some.inj H;go_enter Tryz.func38,Tryz.ntmps38
      go_wp2_with (first|(go_at_call 41;(with_reducible refine(parse_isDecimal.calls a0 true _ A14.out).mono ?_);rintro e w' ⟨rfl,⟨nd,rfl⟩⟩))
      go_ret;exact⟨by first|rfl|(simp;done)|(simp[*];done),by repeat (first|exact Drawn0.refl _|apply Drawn0.step)⟩
     ·replace c15:=Bool.eq_false_iff.mpr c15
      subst c15;have H1:(some false)=some r:=by rw[if_neg (show ¬(false=true) by decide)] at H;exact H
      clear H;have H:=H1;clear H1;obtain rfl:=Option.some.inj H;go_enter Tryz.func38,Tryz.ntmps38
      go_wp2_with (first|(go_at_call 41;(with_reducible refine(parse_isDecimal.calls a0 false _ A14.out).mono ?_);rintro e w' ⟨rfl,⟨nd,rfl⟩⟩))
      go_ret;exact⟨by first|rfl|(simp;done)|(simp[*];done),by repeat (first|exact Drawn0.refl _|apply Drawn0.step)⟩
   ·rw[if_neg c12] at H
    have c12b0:decide (97<=a0)=false:=decide_eq_false c12;clear c12;replace H:=Option.bind_eq_some_iff.mp H;obtain⟨t265,A160,H⟩:=H;replace H:(if t265=true then(some (decide (a1>0))) else(some false))=some r:=H;have A16:=aM A160;clear A160
    by_cases c17:t265=true
    ·subst c17
     have H1:(some (decide (a1>0)))=some r:=by rw[if_pos rfl] at H;exact H
     clear H;have H:=H1;clear H1;obtain rfl:=Option.some.inj H;go_enter Tryz.func38,Tryz.ntmps38
     go_wp2_with (first|(go_at_call 41;(with_reducible refine(parse_isDecimal.calls a0 true _ A16.out).mono ?_);rintro e w' ⟨rfl,⟨nd,rfl⟩⟩))
     go_ret;exact⟨by first|rfl|(simp;done)|(simp[*];done),by repeat (first|exact Drawn0.refl _|apply Drawn0.step)⟩
    ·replace c17:=Bool.eq_false_iff.mpr c17
     subst c17;have H1:(some false)=some r:=by rw[if_neg (show ¬(false=true) by decide)] at H;exact H
     clear H;have H:=H1;clear H1;obtain rfl:=Option.some.inj H;go_enter Tryz.func38,Tryz.ntmps38
     go_wp2_with (first|(go_at_call 41;(with_reducible refine(parse_isDecimal.calls a0 false _ A16.out).mono ?_);rintro e w' ⟨rfl,⟨nd,rfl⟩⟩))
     go_ret;exact⟨by first|rfl|(simp;done)|(simp[*];done),by repeat (first|exact Drawn0.refl _|apply Drawn0.step)⟩
end Go.Proofs.YtoimaaonloibfaaGreatDoor.PF
namespace Go.Proofs.YtoimaaonloibfaaGreatDoor.Tk
open Go.RowKit W1 W2 PF Wf
def nc(l:List Int):List Value:=l.map fun x=> .int .u8 x
structure Bu(w:World)(k:Sk)(N b:Nat)(l:List Int):Prop where
 i:Lib.IsBuffer 96 5 N b (nc l) w
 n:N<=w.heap.size
 s:∀x,k.S x->x<N
 b:k.B<=N
structure Kb(w w':World)(k:Sk)(N:Nat):Prop where
 b:Below k.B w w'
 k:Kept w w' (fun x=>k.S x\/N<=x)
section
variable {w w1 w2:World} {k:Sk} {N b:Nat} {l l':List Int} {c:Int}
theorem Kg.kb(h:Kg w w1 k):Kb w w1 k N:=⟨h.b,h.k.mono (fun _ hx=> .inl hx)⟩
theorem Kb.of_below(h:Below N w w1)(hb:k.B<=N):Kb w w1 k N:=⟨h.mono hb,⟨h.size,fun i _ hn=>h.block i (Nat.lt_of_not_le fun e=>hn (.inr e))⟩⟩
theorem Kb.trans(h:Kb w w1 k N)(h2:Kb w1 w2 k N):Kb w w2 k N:=⟨h.b.trans h2.b,h.k.then_ h2.k (fun _ hx=> .inl hx)⟩
theorem Kb.refl(w:World)(k:Sk)(N:Nat):Kb w w k N:=⟨bR _ _,Kept.refl _ _⟩
theorem Kb.drewN(h:Kb w w1 k N)(m:Nat):Kb w (w1.drewN m) k N:=⟨pD h.b m,h.k.drewN m⟩
theorem Bu.old(h:Bu w k N b l)(hk:∀x,N<=x->x<w.heap.size->w1.heap[x]? = w.heap[x]?)(hs:w.heap.size<=w1.heap.size):Bu w1 k N b l:=by
 refine⟨?_,Nat.le_trans h.n hs,h.s,h.b⟩;have hlt:=h.i.lt;obtain⟨hB,v,lr,hbk,hown,hne⟩:=h.i;refine⟨hB,v,lr,(hk b hB hlt).trans hbk,⟨hown.1,?_⟩,hne⟩;rcases hown.2 with hn|⟨g,cap,cur,hv,hbg,hg,rest⟩
 ·exact .inl hn
 ·exact .inr ⟨g,cap,cur,hv,hbg,(hk g hbg (Lib.lt_of_heap hg)).trans hg,rest⟩
theorem Bu.kg(h:Bu w k N b l)(hk:Kg w w1 k):Bu w1 k N b l:=h.old (fun x hx hl=>hk.k.2 x hl (fun hs=>by have:=h.s x hs;omega)) hk.b.size
theorem Bu.drewN(h:Bu w k N b l)(m:Nat):Bu (w.drewN m) k N b l:=h.old (fun x _ _=>rfl) (Nat.le_refl _)
theorem RS.low(h:RS w k l)(hb:Below N w w1)(hs:∀x,k.S x->x<N)(hN:k.B<=N):RS w1 k l:=by
 obtain⟨i,r,n,lb,lr,hf,hm⟩:=h.b;have hd:=hb.block k.d (hs _ (Sk.DS k.Sd));have hr:=hb.block k.row (hs _ (Sk.DS k.Sr));have hss:=hb.block k.sr (hs _ (Sk.DS k.Ss));have hg:=hb.block k.g (hs _ k.Sg);refine⟨h.E.on (hb.mono hN),?_,⟨i,r,n,lb,lr,⟨hd.trans hf.d,?_,?_⟩,hm⟩,h.c⟩
 ·obtain⟨s,ln,co,h1⟩:=h.g
  exact⟨s,ln,co,hg.trans h1⟩
 ·obtain⟨A,h1,h2⟩:=hf.r
  exact⟨A,hr.trans h1,h2⟩
 ·obtain⟨p,h1⟩:=hf.s
  exact⟨p,hss.trans h1⟩
theorem RS.bu(h:RS w k l)(hu:Bu w1 k N b l')(hb:Below N w w2):RS w2 k l:=h.low hb hu.s hu.b
theorem RS.drewN(h:RS w k l)(m:Nat):RS (w.drewN m) k l:=⟨h.E.on (pD (bR _ _) m),h.g,by obtain⟨i,r,n,lb,lr,h1,h2⟩:=h.b;exact⟨i,r,n,lb,lr,h1.drewN m,h2⟩,h.c⟩
theorem nc_one(l:List Int):∀v∈nc l,v.oneCell'=true:=fun v hv=>by
 obtain⟨x,_,rfl⟩:=List.mem_map.1 hv
 rfl
theorem nc_len(l:List Int):(nc l).length=l.length:=by simp[nc]
theorem writeByte_b(h:Bu w k N b l)(hl:l.length<=100000):Calls Tryz.prog 87 #[.pointer (some ⟨b,0,none⟩),.int .u8 c] w fun e w'=>e = .returned .nilIface/\Bu w' k N b (l++[c])/\Below N w w':=by
 refine(Tryz.Buffer_WriteByte_k N b (nc l) c w h.i h.n (nc_one l) (by rw[nc_len];omega)).mono ?_;rintro e w' ⟨he,hi,hb,_⟩;exact⟨he,⟨by unfold nc at *;rw[List.map_append];exact hi,Nat.le_trans h.n hb.size,h.s,h.b⟩,hb⟩
set_option maxRecDepth 10000 in
theorem writeChar_q(h:Bu w k N b l)(hl:l.length<=100000)(h0:0<=c)(h1:c<=255):Calls Tryz.prog 49 #[.pointer (some ⟨b,0,none⟩),.int .i64 c] w fun e w'=>e = .returned (.tuple #[])/\Bu w' k N b (l++[c])/\Below N w w':=by
 have HR:=aM (writeByte_b (c:=c) h hl);have hcv:IntKind.u8.wrap c=c:=IntWalk.u8_in _ (by omega);clear h;go_enter Tryz.func49,Tryz.ntmps49
 go_wp2_with (go_at_call 87;refine HR.out.mono ?_;rintro e w5 ⟨rfl,h5,k5⟩;have H5:=aM h5;have K5:=aM k5;clear h5 k5)
 go_end0;exact⟨rfl,H5.out,K5.out⟩
end
theorem dec_f(x:Int):parse_isDecimal.f x=some (isDg x):=by
 unfold parse_isDecimal.f isDg
 repeat' split
 all_goals(congr 1;rw[Bool.eq_iff_iff];simp;try omega)
theorem ident1_f(x:Int):parse_isIdent.f x 1=some (isWy x):=by
 unfold parse_isIdent.f isWy isLt;rw[dec_f];unfold isDg;simp only[Option.bind_some]
 repeat' split
 all_goals(congr 1;rw[Bool.eq_iff_iff];simp_all;try omega)
theorem ident0_f(x:Int):parse_isIdent.f x 0=some (isLt x):=by
 unfold parse_isIdent.f isLt;rw[dec_f];unfold isDg;simp only[Option.bind_some]
 repeat' split
 all_goals(congr 1;rw[Bool.eq_iff_iff];simp_all;try omega)
section
variable {w w1 w2:World} {k:Sk} {N b:Nat} {l u:List Int} {c:Int}
theorem len_of(h:RS w k l):l.length<=2000:=by
 have hn:=h.E.n;obtain⟨i,r,n,lb,lr,hb,hf⟩:=h.b;rcases hf with⟨_,_,_,e⟩|⟨_,_,_,e⟩|⟨_,_,_,e⟩
 ·rw[e,bytesOf_length];exact hn
 ·rw[e,List.length_drop,bytesOf_length];omega
 ·rw[e];simp
theorem cons_of{P:Int->Bool}{r:List Int}(hP:P (-1)=false)(h:P (hd r)=true):∃r',r=hd r::r':=by
 match r,h with
 |[],h=>rw[show hd [] = -1 from rfl,hP] at h;cases h
 |c::r',_=>exact⟨r',rfl⟩
theorem drop_all{P:Int->Bool}:∀(x r:List Int),(∀y∈x,P y=true)->P (hd r)=false->(x++r).dropWhile P=r/\(x++r).takeWhile P=x
 |[],[],_,_=>⟨rfl,rfl⟩
 |[],c::r,_,h=>by
  have:P c=false:=h;simp[this]
 |y::x,r,hx,h=>by
  obtain⟨h1,h2⟩:=drop_all x r (fun z hz=>hx z (List.mem_cons_of_mem _ hz)) h;have:=hx y (by simp);simp[this,h1,h2]
set_option maxRecDepth 10000 in
set_option maxHeartbeats 1000000 in
theorem scanIdent_q(h:RS w k l)(hu:Bu w k N b u)(hl:u.length<=50000)(h0:0<=c)(h1:c<=255):Calls Tryz.prog 39 #[.pointer (some ⟨k.g,0,none⟩),.int .i64 c,.pointer (some ⟨b,0,none⟩)] w fun e w'=>e = .returned .nilIface/\RS w' k (l.dropWhile isWy)/\Bu w' k N b (u++c::l.takeWhile isWy)/\Kb w w' k N:=by
 have HH:=aM h;have HU:=aM hu;have HL:=aM (len_of h);have HW:=aM (writeChar_q (c:=c) hu (by omega) h0 h1);clear h hu;go_enter Tryz.func39,Tryz.ntmps39
 go_wp2_with (go_at_call 49;refine HW.out.mono ?_;rintro e w5 ⟨rfl,h5,k5⟩;have H5:=aM h5;have K5:=aM (Kb.of_below k5 HU.out.b);have R5:=aM (HH.out.bu HU.out k5);clear h5 k5)
 clear HW HU HH;go_loopg [] l.length (fun q wr=>∃(x r:List Int),Aside0 (l=x++r/\(∀y∈x,isWy y=true)/\q=r.length)/\Aside0 (RS wr k r)/\Aside0 (Bu wr k N b (u++[c]++x))/\Aside0 (Kb w wr k N))
 case atStart=>exact⟨[],l,⟨rfl,by simp,rfl⟩,R5,⟨by rw[List.append_nil];exact H5.out⟩,K5⟩
 case round=>
  clear H5 K5 R5;obtain⟨x,r,HX,HS,HB,HK⟩:=hrel;have HP:=aM (peek_q HS.out)
  by_cases hb:isWy (hd r)=true
  ·obtain⟨r',hr⟩:=cons_of (by decide) hb
   have HC:=aM (hd_ne (c:=hd r) (l:=r') (by rw[<-hr];exact HS.out));have HXL:=aM (show x.length<=2000 by have h1:=HX.out.1;have h2:=HL.out;rw[h1,List.length_append] at h2;omega);have HR:=aM hr;clear hr;generalize hq:hd r=q at hb HP HC HR;have HQ:=aM hq;clear hq;go_wp2_with (first|(go_at_call 43;refine HP.out.mono ?_;rintro e w5 ⟨rfl,h5,k5⟩;have H5:=aM h5;have K5:=aM (HK.out.trans k5.g.kb);have B5:=aM (HB.out.kg k5.g);clear h5 k5)|(go_at_call 38;refine(parse_isIdent.calls _ _ _ _ (ident1_f _)).mono ?_;rintro e w6 ⟨rfl,⟨nd,rfl⟩⟩;have HN:=aM (next_q (H5.out.drewN nd));have K6:=aM (K5.out.drewN nd);have B6:=aM (B5.out.drewN nd))|(go_at_call 45;refine HN.out.mono ?_;rw[HQ.out];rintro e w7 ⟨rfl,h7,k7⟩;have H7:=aM h7;have K7:=aM (K6.out.trans k7.kb);have B7:=aM (B6.out.kg k7);have HW:=aM (writeChar_q (c:=q) B7.out (by have:=HXL.out;simp;omega) HC.out.1 HC.out.2);clear h7 k7)|(go_at_call 49;refine HW.out.mono ?_;rintro e w8 ⟨rfl,h8,k8⟩;have H8:=aM h8;have K8:=aM (K7.out.trans (Kb.of_below k8 B7.out.b));have R8:=aM (H7.out.bu B7.out k8);clear h8 k8))
   go_roundg r'.length
   case measure=>have h1:=HX.out.2.2;rw[HR.out] at h1;simp at h1;omega
   case rel=>
    have e1:r.tail=r':=by rw[HR.out];rfl
    refine⟨x++[q],r',⟨?_,?_,rfl⟩,⟨by rw[<-e1];exact R8.out⟩,⟨?_⟩,K8⟩
    ·rw[HX.out.1,HR.out];simp
    ·intro y hy
     rcases List.mem_append.1 hy with hy|hy
     ·exact HX.out.2.1 y hy
     ·rw[List.mem_singleton.1 hy];exact hb
    ·rw[<-List.append_assoc];exact H8.out
  ·have hb2:isWy (hd r)=false:=by simpa using hb
   clear hb;have HB2:=aM hb2;generalize hd r=q at hb2 HP;go_wp2_with (first|(go_at_call 43;refine HP.out.mono ?_;rintro e w5 ⟨rfl,h5,k5⟩;have H5:=aM h5;have K5:=aM (HK.out.trans k5.g.kb);have B5:=aM (HB.out.kg k5.g);clear h5 k5)|(go_at_call 38;refine(parse_isIdent.calls _ _ _ _ (ident1_f _)).mono ?_;rintro e w6 ⟨rfl,⟨nd,rfl⟩⟩))
   go_ret;obtain⟨e1,e2⟩:=drop_all x r HX.out.2.1 HB2.out;rw[HX.out.1,e1,e2];refine⟨rfl,H5.out.drewN _,?_,K5.out.drewN _⟩;have:=B5.out.drewN nd;rw[List.append_assoc] at this;exact this
set_option maxRecDepth 10000 in
set_option maxHeartbeats 1000000 in
theorem scanDecimal_q(h:RS w k l)(hu:Bu w k N b u)(hl:u.length<=50000)(h0:0<=c)(h1:c<=255):Calls Tryz.prog 81 #[.pointer (some ⟨k.g,0,none⟩),.int .i64 c,.pointer (some ⟨b,0,none⟩)] w fun e w'=>e = .returned .nilIface/\RS w' k (l.dropWhile isDg)/\Bu w' k N b (u++c::l.takeWhile isDg)/\Kb w w' k N:=by
 have HH:=aM h;have HU:=aM hu;have HL:=aM (len_of h);have HW:=aM (writeChar_q (c:=c) hu (by omega) h0 h1);clear h hu;go_enter Tryz.func81,Tryz.ntmps81
 go_wp2_with (go_at_call 49;refine HW.out.mono ?_;rintro e w5 ⟨rfl,h5,k5⟩;have H5:=aM h5;have K5:=aM (Kb.of_below k5 HU.out.b);have R5:=aM (HH.out.bu HU.out k5);clear h5 k5)
 clear HW HU HH;go_loopg [] l.length (fun q wr=>∃(x r:List Int),Aside0 (l=x++r/\(∀y∈x,isDg y=true)/\q=r.length)/\Aside0 (RS wr k r)/\Aside0 (Bu wr k N b (u++[c]++x))/\Aside0 (Kb w wr k N))
 case atStart=>exact⟨[],l,⟨rfl,by simp,rfl⟩,R5,⟨by rw[List.append_nil];exact H5.out⟩,K5⟩
 case round=>
  clear H5 K5 R5;obtain⟨x,r,HX,HS,HB,HK⟩:=hrel;have HP:=aM (peek_q HS.out)
  by_cases hb:isDg (hd r)=true
  ·obtain⟨r',hr⟩:=cons_of (by decide) hb
   have HC:=aM (hd_ne (c:=hd r) (l:=r') (by rw[<-hr];exact HS.out));have HXL:=aM (show x.length<=2000 by have h1:=HX.out.1;have h2:=HL.out;rw[h1,List.length_append] at h2;omega);have HR:=aM hr;clear hr;generalize hq:hd r=q at hb HP HC HR;have HQ:=aM hq;clear hq;go_wp2_with (first|(go_at_call 43;refine HP.out.mono ?_;rintro e w5 ⟨rfl,h5,k5⟩;have H5:=aM h5;have K5:=aM (HK.out.trans k5.g.kb);have B5:=aM (HB.out.kg k5.g);clear h5 k5)|(go_at_call 41;refine(parse_isDecimal.calls _ _ _ (dec_f _)).mono ?_;rintro e w6 ⟨rfl,⟨nd,rfl⟩⟩;have HN:=aM (next_q (H5.out.drewN nd));have K6:=aM (K5.out.drewN nd);have B6:=aM (B5.out.drewN nd))|(go_at_call 45;refine HN.out.mono ?_;rw[HQ.out];rintro e w7 ⟨rfl,h7,k7⟩;have H7:=aM h7;have K7:=aM (K6.out.trans k7.kb);have B7:=aM (B6.out.kg k7);have HW:=aM (writeChar_q (c:=q) B7.out (by have:=HXL.out;simp;omega) HC.out.1 HC.out.2);clear h7 k7)|(go_at_call 49;refine HW.out.mono ?_;rintro e w8 ⟨rfl,h8,k8⟩;have H8:=aM h8;have K8:=aM (K7.out.trans (Kb.of_below k8 B7.out.b));have R8:=aM (H7.out.bu B7.out k8);clear h8 k8))
   go_roundg r'.length
   case measure=>have h1:=HX.out.2.2;rw[HR.out] at h1;simp at h1;omega
   case rel=>
    have e1:r.tail=r':=by rw[HR.out];rfl
    refine⟨x++[q],r',⟨?_,?_,rfl⟩,⟨by rw[<-e1];exact R8.out⟩,⟨?_⟩,K8⟩
    ·rw[HX.out.1,HR.out];simp
    ·intro y hy
     rcases List.mem_append.1 hy with hy|hy
     ·exact HX.out.2.1 y hy
     ·rw[List.mem_singleton.1 hy];exact hb
    ·rw[<-List.append_assoc];exact H8.out
  ·have hb2:isDg (hd r)=false:=by simpa using hb
   clear hb;have HB2:=aM hb2;generalize hd r=q at hb2 HP;go_wp2_with (first|(go_at_call 43;refine HP.out.mono ?_;rintro e w5 ⟨rfl,h5,k5⟩;have H5:=aM h5;have K5:=aM (HK.out.trans k5.g.kb);have B5:=aM (HB.out.kg k5.g);clear h5 k5)|(go_at_call 41;refine(parse_isDecimal.calls _ _ _ (dec_f _)).mono ?_;rintro e w6 ⟨rfl,⟨nd,rfl⟩⟩))
   go_ret;obtain⟨e1,e2⟩:=drop_all x r HX.out.2.1 HB2.out;rw[HX.out.1,e1,e2];refine⟨rfl,H5.out.drewN _,?_,K5.out.drewN _⟩;have:=B5.out.drewN nd;rw[List.append_assoc] at this;exact this
end
section
variable {w w1 w2:World} {k:Sk} {N b:Nat} {l u es r:List Int} {c e1:Int}
set_option maxRecDepth 10000 in
set_option maxHeartbeats 1000000 in
theorem scanNumber_d(h:RS w k l)(hu:Bu w k N b u)(hl:u.length<=40000)(h0:0<=c)(h1:c<=255)(hz:c=48->hd l≠120/\hd l≠88/\isDg (hd l)=false)(he:hd (l.dropWhile isDg)≠46/\hd (l.dropWhile isDg)≠101/\hd (l.dropWhile isDg)≠69):Calls Tryz.prog 42 #[.pointer (some ⟨k.g,0,none⟩),.int .i64 c,.pointer (some ⟨b,0,none⟩)] w fun e w'=>e = .returned .nilIface/\RS w' k (l.dropWhile isDg)/\Bu w' k N b (u++c::l.takeWhile isDg)/\Kb w w' k N:=by
 have hz46:c=48->hd l≠46:=fun hc=>by
  have h3:=(hz hc).2.2;have h4:=(drop_all (P:=isDg) [] l (by simp) h3).1;rw[List.nil_append] at h4;rw[h4] at he;exact he.1
 obtain⟨e1,e2,e3⟩:=he;generalize hq2:hd (l.dropWhile isDg)=q2 at e1 e2 e3;have f1:(q2==46)=false:=beq_eq_false_iff_ne.mpr e1;have f2:(q2==101)=false:=beq_eq_false_iff_ne.mpr e2;have f3:(q2==69)=false:=beq_eq_false_iff_ne.mpr e3;clear e1 e2 e3;have HQ2:=aM hq2;have HLL:=aM (len_of h);have HLT:Aside0 ((l.takeWhile isDg).length<=2000):=⟨by have h1:=HLL.out;have h2:=(List.takeWhile_prefix (p:=isDg) (l:=l)).length_le;omega⟩;have HU:=aM hu;have HK:=aM (Kb.refl w k N);have HH:=aM h;clear h hu
 by_cases hc:c=48
 ·obtain⟨z1,z2,z3⟩:=hz hc
  have z4:hd l≠46:=hz46 hc;generalize hq:hd l=q at z1 z2 z3 z4;have HQ:=aM hq;have y1:(q==120)=false:=beq_eq_false_iff_ne.mpr z1;have y2:(q==88)=false:=beq_eq_false_iff_ne.mpr z2;have y4:(q != 46)=true:=bne_iff_ne.mpr z4;have y5:(c==48)=true:=beq_iff_eq.mpr hc;clear hq z1 z2 z4 hz hc hq2;go_enter Tryz.func42,Tryz.ntmps42
  go_wp2_with fail;refine(peek_q HH.out).mono ?_;rw[HQ.out];rintro e w5 ⟨rfl,h5,k5⟩;replace HK:=aM (HK.out.trans k5.g.kb);replace HU:=aM (HU.out.kg k5.g);replace HH:=aM h5;clear h5 k5;go_wp2_with fail;refine(peek_q HH.out).mono ?_;rw[HQ.out];rintro e w5 ⟨rfl,h5,k5⟩;replace HK:=aM (HK.out.trans k5.g.kb);replace HU:=aM (HU.out.kg k5.g);replace HH:=aM h5;clear h5 k5;go_wp2_with fail;refine(peek_q HH.out).mono ?_;rw[HQ.out];rintro e w5 ⟨rfl,h5,k5⟩;replace HK:=aM (HK.out.trans k5.g.kb);replace HU:=aM (HU.out.kg k5.g);replace HH:=aM h5;clear h5 k5;go_wp2_with fail;refine(peek_q HH.out).mono ?_;rw[HQ.out];rintro e w5 ⟨rfl,h5,k5⟩;replace HK:=aM (HK.out.trans k5.g.kb);replace HU:=aM (HU.out.kg k5.g);replace HH:=aM h5;clear h5 k5;go_wp2_with fail;refine(parse_isDecimal.calls _ _ _ (dec_f _)).mono ?_;rintro e w5 ⟨rfl,⟨nd,rfl⟩⟩;replace HK:=aM (HK.out.drewN nd);replace HU:=aM (HU.out.drewN nd);replace HH:=aM (HH.out.drewN nd);go_wp2_with fail;refine(scanDecimal_q HH.out HU.out (by omega) h0 h1).mono ?_;rintro e w5 ⟨rfl,h5,u5,k5⟩;replace HK:=aM (HK.out.trans k5);replace HU:=aM u5;replace HH:=aM h5;clear h5 k5 u5;go_wp2_with fail;refine(peek_q HH.out).mono ?_;rw[HQ2.out];rintro e w5 ⟨rfl,h5,k5⟩;replace HK:=aM (HK.out.trans k5.g.kb);replace HU:=aM (HU.out.kg k5.g);replace HH:=aM h5;clear h5 k5;go_wp2_with fail;refine(peek_q HH.out).mono ?_;rw[HQ2.out];rintro e w5 ⟨rfl,h5,k5⟩;replace HK:=aM (HK.out.trans k5.g.kb);replace HU:=aM (HU.out.kg k5.g);replace HH:=aM h5;clear h5 k5;go_wp2_with fail;go_ret;exact⟨rfl,HH.out,HU.out,HK.out⟩
 ·have y5:(c==48)=false:=beq_eq_false_iff_ne.mpr hc
  clear hc hz hq2;go_enter Tryz.func42,Tryz.ntmps42
  go_wp2_with fail;refine(scanDecimal_q HH.out HU.out (by omega) h0 h1).mono ?_;rintro e w5 ⟨rfl,h5,u5,k5⟩;replace HK:=aM (HK.out.trans k5);replace HU:=aM u5;replace HH:=aM h5;clear h5 k5 u5;go_wp2_with fail;refine(peek_q HH.out).mono ?_;rw[HQ2.out];rintro e w5 ⟨rfl,h5,k5⟩;replace HK:=aM (HK.out.trans k5.g.kb);replace HU:=aM (HU.out.kg k5.g);replace HH:=aM h5;clear h5 k5;go_wp2_with fail;refine(peek_q HH.out).mono ?_;rw[HQ2.out];rintro e w5 ⟨rfl,h5,k5⟩;replace HK:=aM (HK.out.trans k5.g.kb);replace HU:=aM (HU.out.kg k5.g);replace HH:=aM h5;clear h5 k5;go_wp2_with fail;go_ret;exact⟨rfl,HH.out,HU.out,HK.out⟩
set_option maxRecDepth 10000 in
set_option maxHeartbeats 1000000 in
theorem scanNumber_e(h:RS w k l)(hu:Bu w k N b u)(hl:u.length<=40000)(h0:0<=c)(h1:c<=255)(hz:c=48->hd l≠120/\hd l≠88/\isDg (hd l)=false)(he:l.dropWhile isDg=101::e1::(es++r))(hes:∀y∈e1::es,isDg y=true)(hr:isDg (hd r)=false):Calls Tryz.prog 42 #[.pointer (some ⟨k.g,0,none⟩),.int .i64 c,.pointer (some ⟨b,0,none⟩)] w fun e w'=>e = .returned .nilIface/\RS w' k r/\Bu w' k N b (u++c::(l.takeWhile isDg++101::e1::es))/\Kb w w' k N:=by
 have hz46:c=48->hd l≠46:=fun hc=>by
  have h3:=(hz hc).2.2;have h4:=(drop_all (P:=isDg) [] l (by simp) h3).1;rw[List.nil_append] at h4;rw[h4] at he;rw[he];show(101:Int)≠46
  decide
 have hq2:hd (l.dropWhile isDg)=101:=by rw[he];rfl
 have HT:=aM (show(l.dropWhile isDg).tail=e1::(es++r) by rw[he];rfl);have HQ3:=aM (show hd (e1::(es++r))=e1 from rfl);have HT3:=aM (show(e1::(es++r)).tail=es++r from rfl);have HQ4:=aM (show hd (e1::(es++r))=e1 from rfl);have HT4:=aM (show(e1::(es++r)).tail=es++r from rfl);have hd1:=hes e1 (by simp);have hd2:48<=e1/\e1<=57:=by simpa[isDg] using hd1
 have HE1:Aside0 (0<=e1/\e1<=255):=⟨by omega⟩;have HDR:=aM (drop_all (P:=isDg) es r (fun y hy=>hes y (by simp[hy])) hr);have f1:(e1==45)=false:=beq_eq_false_iff_ne.mpr (by omega);have f2:(e1==43)=false:=beq_eq_false_iff_ne.mpr (by omega);clear he hes hr hd1 hd2;have HQ2:=aM hq2;have HLL:=aM (len_of h);have HLT:Aside0 ((l.takeWhile isDg).length<=2000):=⟨by have h1:=HLL.out;have h2:=(List.takeWhile_prefix (p:=isDg) (l:=l)).length_le;omega⟩;have HU:=aM hu;have HK:=aM (Kb.refl w k N);have HH:=aM h;clear h hu
 by_cases hc:c=48
 ·obtain⟨z1,z2,z3⟩:=hz hc
  have z4:hd l≠46:=hz46 hc;generalize hq:hd l=q at z1 z2 z3 z4;have HQ:=aM hq;have y1:(q==120)=false:=beq_eq_false_iff_ne.mpr z1;have y2:(q==88)=false:=beq_eq_false_iff_ne.mpr z2;have y4:(q != 46)=true:=bne_iff_ne.mpr z4;have y5:(c==48)=true:=beq_iff_eq.mpr hc;clear hq z1 z2 z4 hz hc hq2;go_enter Tryz.func42,Tryz.ntmps42
  go_wp2_with fail;refine(peek_q HH.out).mono ?_;rw[HQ.out];rintro e w5 ⟨rfl,h5,k5⟩;replace HK:=aM (HK.out.trans k5.g.kb);replace HU:=aM (HU.out.kg k5.g);replace HH:=aM h5;clear h5 k5;go_wp2_with fail;refine(peek_q HH.out).mono ?_;rw[HQ.out];rintro e w5 ⟨rfl,h5,k5⟩;replace HK:=aM (HK.out.trans k5.g.kb);replace HU:=aM (HU.out.kg k5.g);replace HH:=aM h5;clear h5 k5;go_wp2_with fail;refine(peek_q HH.out).mono ?_;rw[HQ.out];rintro e w5 ⟨rfl,h5,k5⟩;replace HK:=aM (HK.out.trans k5.g.kb);replace HU:=aM (HU.out.kg k5.g);replace HH:=aM h5;clear h5 k5;go_wp2_with fail;refine(peek_q HH.out).mono ?_;rw[HQ.out];rintro e w5 ⟨rfl,h5,k5⟩;replace HK:=aM (HK.out.trans k5.g.kb);replace HU:=aM (HU.out.kg k5.g);replace HH:=aM h5;clear h5 k5;go_wp2_with fail;refine(parse_isDecimal.calls _ _ _ (dec_f _)).mono ?_;rintro e w5 ⟨rfl,⟨nd,rfl⟩⟩;replace HK:=aM (HK.out.drewN nd);replace HU:=aM (HU.out.drewN nd);replace HH:=aM (HH.out.drewN nd);go_wp2_with fail;refine(scanDecimal_q HH.out HU.out (by omega) h0 h1).mono ?_;rintro e w5 ⟨rfl,h5,u5,k5⟩;replace HK:=aM (HK.out.trans k5);replace HU:=aM u5;replace HH:=aM h5;clear h5 k5 u5;go_wp2_with fail;refine(peek_q HH.out).mono ?_;rw[HQ2.out];rintro e w5 ⟨rfl,h5,k5⟩;replace HK:=aM (HK.out.trans k5.g.kb);replace HU:=aM (HU.out.kg k5.g);replace HH:=aM h5;clear h5 k5;go_wp2_with fail;refine(peek_q HH.out).mono ?_;rw[HQ2.out];rintro e w5 ⟨rfl,h5,k5⟩;replace HK:=aM (HK.out.trans k5.g.kb);replace HU:=aM (HU.out.kg k5.g);replace HH:=aM h5;clear h5 k5;go_wp2_with fail;refine(next_q HH.out).mono ?_;rw[HQ2.out];rintro e w5 ⟨rfl,h5,k5⟩;rw[HT.out] at h5;replace HK:=aM (HK.out.trans k5.kb);replace HU:=aM (HU.out.kg k5);replace HH:=aM h5;clear h5 k5;go_wp2_with fail;refine(writeChar_q HU.out (by have:=HLT.out;simp;omega) (by omega) (by omega)).mono ?_;rintro e w5 ⟨rfl,h5,k5⟩;replace HK:=aM (HK.out.trans (Kb.of_below k5 HU.out.b));replace HH:=aM (HH.out.bu HU.out k5);replace HU:=aM h5;clear h5 k5;go_wp2_with fail;refine(peek_q HH.out).mono ?_;rw[HQ3.out];rintro e w5 ⟨rfl,h5,k5⟩;replace HK:=aM (HK.out.trans k5.g.kb);replace HU:=aM (HU.out.kg k5.g);replace HH:=aM h5;clear h5 k5;go_wp2_with fail;refine(next_q HH.out).mono ?_;rw[HQ3.out];rintro e w5 ⟨rfl,h5,k5⟩;rw[HT3.out] at h5;replace HK:=aM (HK.out.trans k5.kb);replace HU:=aM (HU.out.kg k5);replace HH:=aM h5;clear h5 k5;go_wp2_with fail;refine(scanDecimal_q HH.out HU.out (by have:=HLT.out;simp;omega) HE1.out.1 HE1.out.2).mono ?_;rintro e w5 ⟨rfl,h5,u5,k5⟩;replace HK:=aM (HK.out.trans k5);replace HU:=aM u5;replace HH:=aM h5;clear h5 k5 u5;go_wp2_with fail;go_ret;refine⟨rfl,?_,?_,HK.out⟩
  ·have h8:=HH.out
   rw[HDR.out.1] at h8;exact h8
  ·have h8:=HU.out
   rw[HDR.out.2] at h8
   simpa using h8
 ·have y5:(c==48)=false:=beq_eq_false_iff_ne.mpr hc
  clear hc hz hq2;go_enter Tryz.func42,Tryz.ntmps42
  go_wp2_with fail;refine(scanDecimal_q HH.out HU.out (by omega) h0 h1).mono ?_;rintro e w5 ⟨rfl,h5,u5,k5⟩;replace HK:=aM (HK.out.trans k5);replace HU:=aM u5;replace HH:=aM h5;clear h5 k5 u5;go_wp2_with fail;refine(peek_q HH.out).mono ?_;rw[HQ2.out];rintro e w5 ⟨rfl,h5,k5⟩;replace HK:=aM (HK.out.trans k5.g.kb);replace HU:=aM (HU.out.kg k5.g);replace HH:=aM h5;clear h5 k5;go_wp2_with fail;refine(peek_q HH.out).mono ?_;rw[HQ2.out];rintro e w5 ⟨rfl,h5,k5⟩;replace HK:=aM (HK.out.trans k5.g.kb);replace HU:=aM (HU.out.kg k5.g);replace HH:=aM h5;clear h5 k5;go_wp2_with fail;refine(next_q HH.out).mono ?_;rw[HQ2.out];rintro e w5 ⟨rfl,h5,k5⟩;rw[HT.out] at h5;replace HK:=aM (HK.out.trans k5.kb);replace HU:=aM (HU.out.kg k5);replace HH:=aM h5;clear h5 k5;go_wp2_with fail;refine(writeChar_q HU.out (by have:=HLT.out;simp;omega) (by omega) (by omega)).mono ?_;rintro e w5 ⟨rfl,h5,k5⟩;replace HK:=aM (HK.out.trans (Kb.of_below k5 HU.out.b));replace HH:=aM (HH.out.bu HU.out k5);replace HU:=aM h5;clear h5 k5;go_wp2_with fail;refine(peek_q HH.out).mono ?_;rw[HQ3.out];rintro e w5 ⟨rfl,h5,k5⟩;replace HK:=aM (HK.out.trans k5.g.kb);replace HU:=aM (HU.out.kg k5.g);replace HH:=aM h5;clear h5 k5;go_wp2_with fail;refine(next_q HH.out).mono ?_;rw[HQ3.out];rintro e w5 ⟨rfl,h5,k5⟩;rw[HT3.out] at h5;replace HK:=aM (HK.out.trans k5.kb);replace HU:=aM (HU.out.kg k5);replace HH:=aM h5;clear h5 k5;go_wp2_with fail;refine(scanDecimal_q HH.out HU.out (by have:=HLT.out;simp;omega) HE1.out.1 HE1.out.2).mono ?_;rintro e w5 ⟨rfl,h5,u5,k5⟩;replace HK:=aM (HK.out.trans k5);replace HU:=aM u5;replace HH:=aM h5;clear h5 k5 u5;go_wp2_with fail;go_ret;refine⟨rfl,?_,?_,HK.out⟩
  ·have h8:=HH.out
   rw[HDR.out.1] at h8;exact h8
  ·have h8:=HU.out
   rw[HDR.out.2] at h8
   simpa using h8
set_option maxRecDepth 10000 in
set_option maxHeartbeats 1000000 in
theorem scanNumber_m(h:RS w k l)(hu:Bu w k N b u)(hl:u.length<=40000)(h0:0<=c)(h1:c<=255)(hz:c=48->hd l≠120/\hd l≠88/\isDg (hd l)=false)(he:l.dropWhile isDg=101::45::e1::(es++r))(hes:∀y∈e1::es,isDg y=true)(hr:isDg (hd r)=false):Calls Tryz.prog 42 #[.pointer (some ⟨k.g,0,none⟩),.int .i64 c,.pointer (some ⟨b,0,none⟩)] w fun e w'=>e = .returned .nilIface/\RS w' k r/\Bu w' k N b (u++c::(l.takeWhile isDg++101::45::e1::es))/\Kb w w' k N:=by
 have hz46:c=48->hd l≠46:=fun hc=>by
  have h3:=(hz hc).2.2;have h4:=(drop_all (P:=isDg) [] l (by simp) h3).1;rw[List.nil_append] at h4;rw[h4] at he;rw[he];show(101:Int)≠46
  decide
 have hq2:hd (l.dropWhile isDg)=101:=by rw[he];rfl
 have HT:=aM (show(l.dropWhile isDg).tail=45::e1::(es++r) by rw[he];rfl);have HQ3:=aM (show hd (45::e1::(es++r))=45 from rfl);have HT3:=aM (show(45::e1::(es++r)).tail=e1::(es++r) from rfl);have HQ4:=aM (show hd (e1::(es++r))=e1 from rfl);have HT4:=aM (show(e1::(es++r)).tail=es++r from rfl);have hd1:=hes e1 (by simp);have hd2:48<=e1/\e1<=57:=by simpa[isDg] using hd1
 have HE1:Aside0 (0<=e1/\e1<=255):=⟨by omega⟩;have HDR:=aM (drop_all (P:=isDg) es r (fun y hy=>hes y (by simp[hy])) hr);have f1:(e1==45)=false:=beq_eq_false_iff_ne.mpr (by omega);have f2:(e1==43)=false:=beq_eq_false_iff_ne.mpr (by omega);clear he hes hr hd1 hd2;have HQ2:=aM hq2;have HLL:=aM (len_of h);have HLT:Aside0 ((l.takeWhile isDg).length<=2000):=⟨by have h1:=HLL.out;have h2:=(List.takeWhile_prefix (p:=isDg) (l:=l)).length_le;omega⟩;have HU:=aM hu;have HK:=aM (Kb.refl w k N);have HH:=aM h;clear h hu
 by_cases hc:c=48
 ·obtain⟨z1,z2,z3⟩:=hz hc
  have z4:hd l≠46:=hz46 hc;generalize hq:hd l=q at z1 z2 z3 z4;have HQ:=aM hq;have y1:(q==120)=false:=beq_eq_false_iff_ne.mpr z1;have y2:(q==88)=false:=beq_eq_false_iff_ne.mpr z2;have y4:(q != 46)=true:=bne_iff_ne.mpr z4;have y5:(c==48)=true:=beq_iff_eq.mpr hc;clear hq z1 z2 z4 hz hc hq2;go_enter Tryz.func42,Tryz.ntmps42
  go_wp2_with fail;refine(peek_q HH.out).mono ?_;rw[HQ.out];rintro e w5 ⟨rfl,h5,k5⟩;replace HK:=aM (HK.out.trans k5.g.kb);replace HU:=aM (HU.out.kg k5.g);replace HH:=aM h5;clear h5 k5;go_wp2_with fail;refine(peek_q HH.out).mono ?_;rw[HQ.out];rintro e w5 ⟨rfl,h5,k5⟩;replace HK:=aM (HK.out.trans k5.g.kb);replace HU:=aM (HU.out.kg k5.g);replace HH:=aM h5;clear h5 k5;go_wp2_with fail;refine(peek_q HH.out).mono ?_;rw[HQ.out];rintro e w5 ⟨rfl,h5,k5⟩;replace HK:=aM (HK.out.trans k5.g.kb);replace HU:=aM (HU.out.kg k5.g);replace HH:=aM h5;clear h5 k5;go_wp2_with fail;refine(peek_q HH.out).mono ?_;rw[HQ.out];rintro e w5 ⟨rfl,h5,k5⟩;replace HK:=aM (HK.out.trans k5.g.kb);replace HU:=aM (HU.out.kg k5.g);replace HH:=aM h5;clear h5 k5;go_wp2_with fail;refine(parse_isDecimal.calls _ _ _ (dec_f _)).mono ?_;rintro e w5 ⟨rfl,⟨nd,rfl⟩⟩;replace HK:=aM (HK.out.drewN nd);replace HU:=aM (HU.out.drewN nd);replace HH:=aM (HH.out.drewN nd);go_wp2_with fail;refine(scanDecimal_q HH.out HU.out (by omega) h0 h1).mono ?_;rintro e w5 ⟨rfl,h5,u5,k5⟩;replace HK:=aM (HK.out.trans k5);replace HU:=aM u5;replace HH:=aM h5;clear h5 k5 u5;go_wp2_with fail;refine(peek_q HH.out).mono ?_;rw[HQ2.out];rintro e w5 ⟨rfl,h5,k5⟩;replace HK:=aM (HK.out.trans k5.g.kb);replace HU:=aM (HU.out.kg k5.g);replace HH:=aM h5;clear h5 k5;go_wp2_with fail;refine(peek_q HH.out).mono ?_;rw[HQ2.out];rintro e w5 ⟨rfl,h5,k5⟩;replace HK:=aM (HK.out.trans k5.g.kb);replace HU:=aM (HU.out.kg k5.g);replace HH:=aM h5;clear h5 k5;go_wp2_with fail;refine(next_q HH.out).mono ?_;rw[HQ2.out];rintro e w5 ⟨rfl,h5,k5⟩;rw[HT.out] at h5;replace HK:=aM (HK.out.trans k5.kb);replace HU:=aM (HU.out.kg k5);replace HH:=aM h5;clear h5 k5;go_wp2_with fail;refine(writeChar_q HU.out (by have:=HLT.out;simp;omega) (by omega) (by omega)).mono ?_;rintro e w5 ⟨rfl,h5,k5⟩;replace HK:=aM (HK.out.trans (Kb.of_below k5 HU.out.b));replace HH:=aM (HH.out.bu HU.out k5);replace HU:=aM h5;clear h5 k5;go_wp2_with fail;refine(peek_q HH.out).mono ?_;rw[HQ3.out];rintro e w5 ⟨rfl,h5,k5⟩;replace HK:=aM (HK.out.trans k5.g.kb);replace HU:=aM (HU.out.kg k5.g);replace HH:=aM h5;clear h5 k5;go_wp2_with fail;refine(next_q HH.out).mono ?_;rw[HQ3.out];rintro e w5 ⟨rfl,h5,k5⟩;rw[HT3.out] at h5;replace HK:=aM (HK.out.trans k5.kb);replace HU:=aM (HU.out.kg k5);replace HH:=aM h5;clear h5 k5;go_wp2_with fail;refine(writeChar_q HU.out (by have:=HLT.out;simp;omega) (by omega) (by omega)).mono ?_;rintro e w5 ⟨rfl,h5,k5⟩;replace HK:=aM (HK.out.trans (Kb.of_below k5 HU.out.b));replace HH:=aM (HH.out.bu HU.out k5);replace HU:=aM h5;clear h5 k5;go_wp2_with fail;refine(next_q HH.out).mono ?_;rw[HQ4.out];rintro e w5 ⟨rfl,h5,k5⟩;rw[HT4.out] at h5;replace HK:=aM (HK.out.trans k5.kb);replace HU:=aM (HU.out.kg k5);replace HH:=aM h5;clear h5 k5;go_wp2_with fail;refine(scanDecimal_q HH.out HU.out (by have:=HLT.out;simp;omega) HE1.out.1 HE1.out.2).mono ?_;rintro e w5 ⟨rfl,h5,u5,k5⟩;replace HK:=aM (HK.out.trans k5);replace HU:=aM u5;replace HH:=aM h5;clear h5 k5 u5;go_wp2_with fail;go_ret;refine⟨rfl,?_,?_,HK.out⟩
  ·have h8:=HH.out
   rw[HDR.out.1] at h8;exact h8
  ·have h8:=HU.out
   rw[HDR.out.2] at h8
   simpa using h8
 ·have y5:(c==48)=false:=beq_eq_false_iff_ne.mpr hc
  clear hc hz hq2;go_enter Tryz.func42,Tryz.ntmps42
  go_wp2_with fail;refine(scanDecimal_q HH.out HU.out (by omega) h0 h1).mono ?_;rintro e w5 ⟨rfl,h5,u5,k5⟩;replace HK:=aM (HK.out.trans k5);replace HU:=aM u5;replace HH:=aM h5;clear h5 k5 u5;go_wp2_with fail;refine(peek_q HH.out).mono ?_;rw[HQ2.out];rintro e w5 ⟨rfl,h5,k5⟩;replace HK:=aM (HK.out.trans k5.g.kb);replace HU:=aM (HU.out.kg k5.g);replace HH:=aM h5;clear h5 k5;go_wp2_with fail;refine(peek_q HH.out).mono ?_;rw[HQ2.out];rintro e w5 ⟨rfl,h5,k5⟩;replace HK:=aM (HK.out.trans k5.g.kb);replace HU:=aM (HU.out.kg k5.g);replace HH:=aM h5;clear h5 k5;go_wp2_with fail;refine(next_q HH.out).mono ?_;rw[HQ2.out];rintro e w5 ⟨rfl,h5,k5⟩;rw[HT.out] at h5;replace HK:=aM (HK.out.trans k5.kb);replace HU:=aM (HU.out.kg k5);replace HH:=aM h5;clear h5 k5;go_wp2_with fail;refine(writeChar_q HU.out (by have:=HLT.out;simp;omega) (by omega) (by omega)).mono ?_;rintro e w5 ⟨rfl,h5,k5⟩;replace HK:=aM (HK.out.trans (Kb.of_below k5 HU.out.b));replace HH:=aM (HH.out.bu HU.out k5);replace HU:=aM h5;clear h5 k5;go_wp2_with fail;refine(peek_q HH.out).mono ?_;rw[HQ3.out];rintro e w5 ⟨rfl,h5,k5⟩;replace HK:=aM (HK.out.trans k5.g.kb);replace HU:=aM (HU.out.kg k5.g);replace HH:=aM h5;clear h5 k5;go_wp2_with fail;refine(next_q HH.out).mono ?_;rw[HQ3.out];rintro e w5 ⟨rfl,h5,k5⟩;rw[HT3.out] at h5;replace HK:=aM (HK.out.trans k5.kb);replace HU:=aM (HU.out.kg k5);replace HH:=aM h5;clear h5 k5;go_wp2_with fail;refine(writeChar_q HU.out (by have:=HLT.out;simp;omega) (by omega) (by omega)).mono ?_;rintro e w5 ⟨rfl,h5,k5⟩;replace HK:=aM (HK.out.trans (Kb.of_below k5 HU.out.b));replace HH:=aM (HH.out.bu HU.out k5);replace HU:=aM h5;clear h5 k5;go_wp2_with fail;refine(next_q HH.out).mono ?_;rw[HQ4.out];rintro e w5 ⟨rfl,h5,k5⟩;rw[HT4.out] at h5;replace HK:=aM (HK.out.trans k5.kb);replace HU:=aM (HU.out.kg k5);replace HH:=aM h5;clear h5 k5;go_wp2_with fail;refine(scanDecimal_q HH.out HU.out (by have:=HLT.out;simp;omega) HE1.out.1 HE1.out.2).mono ?_;rintro e w5 ⟨rfl,h5,u5,k5⟩;replace HK:=aM (HK.out.trans k5);replace HU:=aM u5;replace HH:=aM h5;clear h5 k5 u5;go_wp2_with fail;go_ret;refine⟨rfl,?_,?_,HK.out⟩
  ·have h8:=HH.out
   rw[HDR.out.1] at h8;exact h8
  ·have h8:=HU.out
   rw[HDR.out.2] at h8
   simpa using h8
end
section
variable {w w1 w2:World} {k:Sk} {N b:Nat} {l u es r:List Int} {c d1 d2 d3 x:Int}
set_option maxRecDepth 10000 in
set_option maxHeartbeats 2000000 in
theorem scanEscape_q(h:RS w k (34::r))(hu:Bu w k N b u)(hl:u.length<=40000):Calls Tryz.prog 85 #[.pointer (some ⟨k.g,0,none⟩),.int .i64 92,.pointer (some ⟨b,0,none⟩)] w fun e w'=>e = .returned .nilIface/\RS w' k r/\Bu w' k N b (u++[34])/\Kb w w' k N:=by
 have HU:=aM hu;have HK:=aM (Kb.refl w k N);have HH:=aM h;have HQ:=aM (show hd (34::r)=34 from rfl);have HT:=aM (show(34::r).tail=r from rfl);clear h hu;go_enter Tryz.func85,Tryz.ntmps85
 go_wp2_with fail;refine(next_q HH.out).mono ?_;rw[HQ.out];rintro e w5 ⟨rfl,h5,k5⟩;rw[HT.out] at h5;replace HK:=aM (HK.out.trans k5.kb);replace HU:=aM (HU.out.kg k5);replace HH:=aM h5;clear h5 k5;go_wp2_with fail;refine(writeByte_b HU.out (by omega)).mono ?_;rintro e w5 ⟨rfl,h5,k5⟩;replace HK:=aM (HK.out.trans (Kb.of_below k5 HU.out.b));replace HH:=aM (HH.out.bu HU.out k5);replace HU:=aM h5;clear h5 k5;go_wp2_with fail;go_ret;exact⟨rfl,HH.out,HU.out,HK.out⟩
set_option maxRecDepth 10000 in
set_option maxHeartbeats 2000000 in
theorem scanEscape_b(h:RS w k (92::r))(hu:Bu w k N b u)(hl:u.length<=40000):Calls Tryz.prog 85 #[.pointer (some ⟨k.g,0,none⟩),.int .i64 92,.pointer (some ⟨b,0,none⟩)] w fun e w'=>e = .returned .nilIface/\RS w' k r/\Bu w' k N b (u++[92])/\Kb w w' k N:=by
 have HU:=aM hu;have HK:=aM (Kb.refl w k N);have HH:=aM h;have HQ:=aM (show hd (92::r)=92 from rfl);have HT:=aM (show(92::r).tail=r from rfl);clear h hu;go_enter Tryz.func85,Tryz.ntmps85
 go_wp2_with fail;refine(next_q HH.out).mono ?_;rw[HQ.out];rintro e w5 ⟨rfl,h5,k5⟩;rw[HT.out] at h5;replace HK:=aM (HK.out.trans k5.kb);replace HU:=aM (HU.out.kg k5);replace HH:=aM h5;clear h5 k5;go_wp2_with fail;refine(writeByte_b HU.out (by omega)).mono ?_;rintro e w5 ⟨rfl,h5,k5⟩;replace HK:=aM (HK.out.trans (Kb.of_below k5 HU.out.b));replace HH:=aM (HH.out.bu HU.out k5);replace HU:=aM h5;clear h5 k5;go_wp2_with fail;go_ret;exact⟨rfl,HH.out,HU.out,HK.out⟩
set_option maxRecDepth 10000 in
set_option maxHeartbeats 2000000 in
theorem scanEscape_n(h:RS w k (110::r))(hu:Bu w k N b u)(hl:u.length<=40000):Calls Tryz.prog 85 #[.pointer (some ⟨k.g,0,none⟩),.int .i64 92,.pointer (some ⟨b,0,none⟩)] w fun e w'=>e = .returned .nilIface/\RS w' k r/\Bu w' k N b (u++[10])/\Kb w w' k N:=by
 have HU:=aM hu;have HK:=aM (Kb.refl w k N);have HH:=aM h;have HQ:=aM (show hd (110::r)=110 from rfl);have HT:=aM (show(110::r).tail=r from rfl);clear h hu;go_enter Tryz.func85,Tryz.ntmps85
 go_wp2_with fail;refine(next_q HH.out).mono ?_;rw[HQ.out];rintro e w5 ⟨rfl,h5,k5⟩;rw[HT.out] at h5;replace HK:=aM (HK.out.trans k5.kb);replace HU:=aM (HU.out.kg k5);replace HH:=aM h5;clear h5 k5;go_wp2_with fail;refine(writeByte_b HU.out (by omega)).mono ?_;rintro e w5 ⟨rfl,h5,k5⟩;replace HK:=aM (HK.out.trans (Kb.of_below k5 HU.out.b));replace HH:=aM (HH.out.bu HU.out k5);replace HU:=aM h5;clear h5 k5;go_wp2_with fail;go_ret;exact⟨rfl,HH.out,HU.out,HK.out⟩
theorem Bu.far(h:Bu w k N b u)(hk:Kb w w1 k w.heap.size):Bu w1 k N b u:=by
 have hlt:=h.i.lt;have key:∀x,N<=x->x<w.heap.size->w1.heap[x]? = w.heap[x]? :=fun x hx hl=>hk.k.2 x hl (fun e=>by
  rcases e with e|e
  ·have:=h.s x e;omega
  ·omega)
 exact h.old key hk.b.size
def num3B:Bool:=(List.range 10).all fun a=>(List.range 10).all fun b=>(List.range 10).all fun c=>match Lib.parseIntB 32 [UInt8.ofNat (48+a),UInt8.ofNat (48+b),UInt8.ofNat (48+c)] with
 | .ok v=>v==((100*a+10*b+c:Nat):Int)
 |_=>false
theorem num3_ok:num3B=true:=by kernel_rfl
theorem num3(h1:48<=d1/\d1<=57)(h2:48<=d2/\d2<=57)(h3:48<=d3/\d3<=57):Lib.parseIntB 32 (strOfNums [d1,d2,d3]).data.toList = .ok (100*(d1-48)+10*(d2-48)+(d3-48)):=by
 obtain⟨a,ha,ha2⟩:∃a:Nat,a<10/\d1=48+(a:Int):=⟨(d1-48).toNat,by omega,by omega⟩;obtain⟨b,hb,hb2⟩:∃a:Nat,a<10/\d2=48+(a:Int):=⟨(d2-48).toNat,by omega,by omega⟩;obtain⟨c,hc,hc2⟩:∃a:Nat,a<10/\d3=48+(a:Int):=⟨(d3-48).toNat,by omega,by omega⟩;subst ha2;subst hb2;subst hc2;have h:=List.all_eq_true.1 (List.all_eq_true.1 (List.all_eq_true.1 num3_ok a (List.mem_range.2 ha)) b (List.mem_range.2 hb)) c (List.mem_range.2 hc);have e:(strOfNums [48+(a:Int),48+(b:Int),48+(c:Int)]).data.toList=[UInt8.ofNat (48+a),UInt8.ofNat (48+b),UInt8.ofNat (48+c)]:=by
  rw[strOfNums_data];simp only[List.map_cons,List.map_nil];rw[show(48+(a:Int)).toNat=48+a by omega,show(48+(b:Int)).toNat=48+b by omega,show(48+(c:Int)).toNat=48+c by omega]
 rw[e]
 split at h
 ·rename_i v hv
  rw[hv];have:=beq_iff_eq.1 h;rw[this]
  congr 1
  omega
 ·cases h
structure Dg(wM wr:World)(k:Sk)(M:Nat)(v:Value)(xs rest:List Int):Prop where
 s:RS wr k rest
 f:Kb wM wr k M
 r:(Kd.int .u8).R 5 wr M (fun x=>M<=x) v xs
 m:M<=wM.heap.size
 n:∀x,k.S x->x<M
 b:k.B<=M
section
variable {wM wr:World} {M:Nat} {v:Value} {xs rest rest':List Int}
variable {ops:Array Oper} {ro:List Oper} {o:Oper} {act:Act} {Q:Exit->Act->World->Prop}
theorem Dg.kg(h:Dg wM wr k M v xs rest)(hs:RS w1 k rest')(hk:Kg wr w1 k):Dg wM w1 k M v xs rest':=
 ⟨hs,h.f.trans hk.kb,Kd.R_kept h.r hk.k (fun x hx hS=>by have:=h.n x hS;omega),h.m,h.n,h.b⟩
theorem Dg.drewN(h:Dg wM wr k M v xs rest)(n:Nat):Dg wM (wr.drewN n) k M v xs rest:=⟨h.s.drewN n,h.f.drewN n,Kd.R_drewN h.r n,h.m,h.n,h.b⟩
theorem Dg.sl(h:Dg wM wr k M v xs rest):∃A c,v = .slice A xs.length c:=Kd.R_slice h.r
theorem Dg.push(hgd:o.guard=none)(s x:Operand)(ho:o.op = .call {callee:= .builtin .append,args:= #[s,x],argTypes:= #[41,41]})
  (hs:act.eval s=v) (hx:act.eval x = .slice (some ⟨wr.heap.size,0,none⟩) 1 1) (h:Dg wM wr k M v xs rest) (d:Int) (hl:xs.length<=100000)
  (hK:∀v1 w1,Dg wM w1 k M v1 (xs++[d]) rest->wpList Tryz.prog ops Q ro (act.put o.dst v1) w1):
  wpList Tryz.prog ops Q (o::ro) act (wr.alloc (.cells #[.int .u8 d] 5)):=by
 have hMr:M<=wr.heap.size:=Nat.le_trans h.m h.f.b.size;refine Kd.R_append (P:=Tryz.prog) (Kd.int .u8) (w0:=wr) M hgd s x 41 5 (.int .u8 0) 1 ho Tryz.underlying41 info5 rfl (by decide) (by decide) v xs d [.int .u8 d] (fun x=>M<=x) (fun _=>False) hs hx
  rfl (fun k hk=>hk.elim) (fun k hk=>Nat.le_trans hMr hk) h.r (bR _ _) hMr (by omega) ?_
 intro v1 w1 hR hb _ _;exact hK v1 w1 ⟨h.s.low hb h.n h.b,h.f.trans (Kb.of_below hb h.b),hR,h.m,h.n,h.b⟩
end
set_option maxRecDepth 10000 in
set_option maxHeartbeats 2000000 in
theorem scanEscape_d(h1:48<=d1/\d1<=57)(h2:48<=d2/\d2<=57)(h3:48<=d3/\d3<=57)(hv:100*(d1-48)+10*(d2-48)+(d3-48)=x)(hx:x<=255)(h:RS w k (d1::d2::d3::r))(hu:Bu w k N b u)(hl:u.length<=40000):Calls Tryz.prog 85 #[.pointer (some ⟨k.g,0,none⟩),.int .i64 92,.pointer (some ⟨b,0,none⟩)] w fun e w'=>e = .returned .nilIface/\RS w' k r/\Bu w' k N b (u++[x])/\Kb w w' k N:=by
 have HU:=aM hu;have HK:=aM (Kb.refl w k N);have HH:=aM h;have HX:Aside0 (0<=x/\x<=255):=⟨by omega⟩;have HQ:=aM (show hd (d1::d2::d3::r)=d1 from rfl);have HT:=aM (show(d1::d2::d3::r).tail=d2::d3::r from rfl);have HP3:=aM (num3 h1 h2 h3);rw[hv] at HP3;have HD:=aM (show(48<=d1/\d1<=57)/\(48<=d2/\d2<=57)/\(48<=d3/\d3<=57) from⟨h1,h2,h3⟩);obtain⟨z1,z2⟩:=h1;clear h2 h3 hv hx;have y0:(d1==97)=false:=beq_eq_false_iff_ne.mpr (by omega);have y1:(d1==98)=false:=beq_eq_false_iff_ne.mpr (by omega);have y2:(d1==102)=false:=beq_eq_false_iff_ne.mpr (by omega);have y3:(d1==110)=false:=beq_eq_false_iff_ne.mpr (by omega);have y4:(d1==114)=false:=beq_eq_false_iff_ne.mpr (by omega);have y5:(d1==116)=false:=beq_eq_false_iff_ne.mpr (by omega);have y6:(d1==118)=false:=beq_eq_false_iff_ne.mpr (by omega);have y7:(d1==92)=false:=beq_eq_false_iff_ne.mpr (by omega);have y8:(d1==34)=false:=beq_eq_false_iff_ne.mpr (by omega);have y9:(d1==39)=false:=beq_eq_false_iff_ne.mpr (by omega);have y10:(d1==10)=false:=beq_eq_false_iff_ne.mpr (by omega);have y11:(d1==13)=false:=beq_eq_false_iff_ne.mpr (by omega);have cv:IntKind.u8.wrap d1=d1:=IntWalk.u8_in _ (by omega);clear h hu;go_enter Tryz.func85,Tryz.ntmps85
 go_wp2_with fail;refine(next_q HH.out).mono ?_;rw[HQ.out];rintro e w5 ⟨rfl,h5,k5⟩;rw[HT.out] at h5;replace HK:=aM (HK.out.trans k5.kb);replace HU:=aM (HU.out.kg k5);replace HH:=aM h5;clear h5 k5;go_wp2_with fail;have HB5:=aM (show k.B<=w5.heap.size/\(∀x,k.S x->x<w5.heap.size) from⟨Nat.le_trans HU.out.b HU.out.n,fun x hx=>Nat.lt_of_lt_of_le (HU.out.s x hx) HU.out.n⟩);have HDg:=aM (show Dg w5 (w5.alloc (.cells #[.int .u8 d1] 5)) k w5.heap.size (.slice (some ⟨w5.heap.size,0,none⟩) 1 1) [d1] (d2::d3::r) from
  ⟨HH.out.low ((bR w5.heap.size w5).alloc (Nat.le_refl _) _) HB5.out.2 HB5.out.1,Kb.of_below ((bR w5.heap.size w5).alloc (Nat.le_refl _) _) HB5.out.1,
   Kd.R_of_own (own_lit w5 w5.heap.size 5 .u8 [d1] (Nat.le_refl _) (by simp)) (fun q hq=>by simp[Value.ownBlock] at hq;omega),Nat.le_refl _,HB5.out.2,HB5.out.1⟩)
 clear y0 y1 y2 y3 y4 y5 y6 y7 y8 y9 y10 y11 cv z1 z2;go_loopg [7,8] 2 (fun q v7 v8 wr=>∃(i:Nat) (xs rest:List Int),v8 = .int .i64 (i:Int)/\Aside0 (xs.length=i+1/\xs++rest=[d1,d2,d3]/\q+i=2)/\Aside0 (Dg w5 wr k w5.heap.size v7 xs (rest++r)))
 case atStart=>exact⟨0,[d1],[d2,d3],rfl,⟨rfl,rfl,rfl⟩,HDg⟩
 case round=>
  obtain⟨i,xs,rest,rfl,HI,HG⟩:=hrel;clear HDg;obtain⟨A,cp,rfl⟩:=HG.out.sl
  match rest,HI,HG with
  |e::rest',HI,HG=>
   have hi2:i<2:=by have h1:=HI.out.1;have h2:=congrArg List.length HI.out.2.1;simp at h2;omega
   have hiI:(i:Int)<2:=by omega
   have qi:IntKind.i64.wrap ((i:Int)+1)=((i+1:Nat):Int):=by rw[IntWalk.i64_in _ (by omega)];omega
   have he:48<=e/\e<=57:=by
    have h1:e∈[d1,d2,d3]:=by rw[<-HI.out.2.1];simp
    have h2:=HD.out;simp at h1;rcases h1 with rfl|rfl|rfl
    ·exact h2.1
    ·exact h2.2.1
    ·exact h2.2.2
   have hde:isDg e=true:=by simp[isDg,he]
   have HQ2:=aM (show hd (e::rest'++r)=e from rfl);have HT2:=aM (show(e::rest'++r).tail=rest'++r from rfl);have cv:IntKind.u8.wrap e=e:=IntWalk.u8_in _ (by omega);have HE:=aM he;clear he hi2;go_wp2_with fail;refine(peek_q HG.out.s).mono ?_;rw[HQ2.out];rintro e5 w6 ⟨rfl,h5,k5⟩;have HG6:=aM (HG.out.kg h5 k5.g);clear h5 k5 HG;go_wp2_with fail;refine(parse_isDecimal.calls _ _ _ (dec_f _)).mono ?_;rintro e6 w7 ⟨rfl,⟨nd,rfl⟩⟩;have HG7:=aM (HG6.out.drewN nd);clear HG6;go_wp2_with fail;refine(next_q HG7.out.s).mono ?_;rw[HQ2.out];rintro e7 w8 ⟨rfl,h5,k5⟩;rw[HT2.out] at h5;have HG8:=aM (HG7.out.kg h5 k5);clear h5 k5 HG7;have HXL:=aM (show xs.length<=100 by have:=HI.out.1;omega);go_wp2_with (at_builtin;refine Dg.push rfl (.tmp 32) (.tmp 36) (by rfl) (by rfl) (by rfl) HG8.out e (by have:=HXL.out;omega) ?_;intro v9 w9 h9;have HG9:=aM h9;clear h9)
   go_roundg (1-i)
   case measure=>have:=HI.out.2.2;omega
   case rel=>
    refine⟨i+1,xs++[e],rest',rfl,⟨?_,?_,?_⟩,HG9⟩
    ·rw[List.length_append,HI.out.1];rfl
    ·rw[<-HI.out.2.1];simp
    ·have:=HI.out.2.2;omega
  |[],HI,HG=>
   have hi2:i=2:=by have h1:=HI.out.1;have h2:=congrArg List.length HI.out.2.1;simp at h2;omega
   subst hi2;have hxs:xs=[d1,d2,d3]:=by have:=HI.out.2.1;rw[List.append_nil] at this;exact this
   subst hxs;have HG2:Aside0 (Dg w5 wr k w5.heap.size (.slice A 3 cp) [d1,d2,d3] r):=HG;clear HG;have hcv:(convert 41 9 (.slice A 3 cp)).run Tryz.prog wr = .ok (.string (strOfNums [d1,d2,d3])) wr:=own_string (P:=Tryz.prog) Tryz.underlying41 Tryz.underlying5 Tryz.underlying9 (Kd.own_of_R HG2.out.r);have HSZ:=aM (show(strOfNums [d1,d2,d3]).size<=3 by rw[strOfNums_size];simp);generalize strOfNums [d1,d2,d3]=sv at hcv HP3 HSZ;clear HI;go_wp2_with fail;refine(Tryz.strconv_ParseInt_10_at32_ok sv (by have:=HSZ.out;omega) x HP3.out wr).mono ?_;rintro e6 w6 ⟨rfl,hw6⟩;have hB6:Below wr.heap.size wr w6:=by
    rcases hw6 with rfl|⟨t,rfl⟩
    ·exact bR _ _
    ·exact Lib.bytesWorld_below _ _ _
   clear hw6;have HM:=aM (show w5.heap.size<=wr.heap.size from HG2.out.f.b.size);have HHn:=aM (HG2.out.s.low hB6 (fun y hy=>Nat.lt_of_lt_of_le (HB5.out.2 y hy) HM.out) (Nat.le_trans HB5.out.1 HM.out));have HKf:=aM (HG2.out.f.trans (Kb.of_below (hB6.mono HM.out) HB5.out.1));have HUn:=aM (HU.out.far HKf.out);have HKn:=aM (HK.out.trans ⟨HKf.out.b,HKf.out.k.mono (fun y hy=>hy.imp id (fun h=>Nat.le_trans HU.out.n h))⟩);clear hB6 HG2 HKf HK HU HH;have HK:=HKn;have HU:=HUn;have HH:=HHn;clear HKn HUn HHn;go_wp2_with fail;refine(writeChar_q HU.out (by omega) HX.out.1 HX.out.2).mono ?_;rintro e w5 ⟨rfl,h5,k5⟩;replace HK:=aM (HK.out.trans (Kb.of_below k5 HU.out.b));replace HH:=aM (HH.out.bu HU.out k5);replace HU:=aM h5;clear h5 k5;go_wp2_with fail;go_ret;exact⟨rfl,HH.out,HU.out,HK.out⟩
end
inductive Esc:List Int->List Int->Prop
 |nil:Esc [] []
 |raw {x:Int} {e d:List Int}:x≠34->x≠92->x≠10->Esc e d->Esc (x::e) (x::d)
 |q {e d:List Int}:Esc e d->Esc (92::34::e) (34::d)
 |b {e d:List Int}:Esc e d->Esc (92::92::e) (92::d)
 |n {e d:List Int}:Esc e d->Esc (92::110::e) (10::d)
 |num {d1 d2 d3 x:Int} {e d:List Int}:(48<=d1/\d1<=57)->(48<=d2/\d2<=57)->(48<=d3/\d3<=57)->100*(d1-48)+10*(d2-48)+(d3-48)=x->x<=255->Esc e d->Esc (92::d1::d2::d3::e) (x::d)
theorem Esc.len{e d:List Int}(h:Esc e d):d.length<=e.length:=by
 induction h with
 |nil=>simp
 |raw _ _ _ _ ih=>simp only[List.length_cons];omega
 |q _ ih=>simp only[List.length_cons];omega
 |b _ ih=>simp only[List.length_cons];omega
 |n _ ih=>simp only[List.length_cons];omega
 |num _ _ _ _ _ _ ih=>simp only[List.length_cons];omega
section
variable {w w1 w2:World} {k:Sk} {N b:Nat} {l u r:List Int}
theorem str_hd{en:List Int}(h:RS w k (en++34::r)):0<=hd (en++34::r)/\hd (en++34::r)<=255/\hd (en++34::r)≠13:=by
 match en,h with
 |[],h=>exact⟨(hd_ne h).1,(hd_ne h).2,h.c _ (by simp[hd])⟩
 |x::en',h=>exact⟨(hd_ne h).1,(hd_ne h).2,h.c _ (by simp[hd])⟩
set_option maxRecDepth 10000 in
set_option maxHeartbeats 4000000 in
theorem scanString_q{enc dec:List Int}(hesc:Esc enc dec)(h:RS w k (enc++34::r))(hu:Bu w k N b u)(hl:u.length<=30000):Calls Tryz.prog 46 #[.pointer (some ⟨k.g,0,none⟩),.int .i64 34,.pointer (some ⟨b,0,none⟩)] w fun e w'=>e = .returned .nilIface/\RS w' k r/\Bu w' k N b (u++dec)/\Kb w w' k N:=by
 have HDL:=aM (show dec.length<=2000 by have h1:=len_of h;have h2:=hesc.len;rw[List.length_append] at h1;omega);have HESC:=aM hesc;have HRG0:=aM (str_hd h);have HU:=aM hu;have HK:=aM (Kb.refl w k N);have HH:=aM h;clear h hu hesc;go_enter Tryz.func46,Tryz.ntmps46
 go_wp2_with fail;refine(next_q HH.out).mono ?_;rintro e w5 ⟨rfl,h5,k5⟩;have HK1:=aM (HK.out.trans k5.kb);have HU1:=aM (HU.out.kg k5);have HH1:=aM h5;clear h5 k5 HK HU HH;go_wp2_with fail;go_loopg [7,8] (enc.length) (fun m v7 v8 wr=>∃(c:Int) (en de dn:List Int),v7 = .int .i64 c/\Aside0 (c=hd (en++34::r))/\Aside0 (Esc en de/\dn++de=dec/\m=en.length)/\Aside0 (0<=c/\c<=255/\c≠13)/\Aside0 (RS wr k (en++34::r).tail)/\Aside0 (Bu wr k N b (u++dn))/\Aside0 (Kb w wr k N))
 case atStart=>exact⟨_,enc,dec,[],rfl,⟨rfl⟩,⟨HESC.out,rfl,rfl⟩,HRG0,HH1,⟨by rw[List.append_nil];exact HU1.out⟩,HK1⟩
 case round=>
  clear HK1 HU1 HH1 HESC HRG0;obtain⟨c,en,de,dn,rfl,HC,HE,HRG,HH,HU,HK⟩:=hrel;have HDN:=aM (show(u++dn).length<=40000 by have h1:=HDL.out;have h2:=congrArg List.length HE.out.2.1;rw[List.length_append] at h2|-;omega);have hc:=HC.out;have hes:=HE.out.1
  cases hes with
  |nil=>
   have hc2:c=34:=hc;subst hc2;clear hc HC;go_wp2_with fail;go_ret;have h1:=HE.out.2.1;rw[List.append_nil] at h1;rw[<-h1];exact⟨rfl,HH.out,HU.out,HK.out⟩
  |raw x1 x2 x3 x4=>
   rename_i x en' de';have hc2:c=x:=hc;subst hc2;have y1:(c != 34)=true:=bne_iff_ne.mpr x1;have y2:(c==92)=false:=beq_eq_false_iff_ne.mpr x2;have y3:(c==10)=false:=beq_eq_false_iff_ne.mpr x3;have y4:(c==13)=false:=beq_eq_false_iff_ne.mpr HRG.out.2.2;have y5:(c<0)=False:=eq_false (by have:=HRG.out.1;omega);have HES:=aM x4;have HH2:Aside0 (RS wr k (en'++34::r)):=HH;clear hc HC x1 x2 x3 HH;have HH:=HH2;clear HH2;go_wp2_with fail;refine(writeChar_q HU.out (by have:=HDN.out;omega) HRG.out.1 HRG.out.2.1).mono ?_;rintro e w5 ⟨rfl,h5,k5⟩;replace HK:=aM (HK.out.trans (Kb.of_below k5 HU.out.b));replace HH:=aM (HH.out.bu HU.out k5);replace HU:=aM h5;clear h5 k5;have HRG2:=aM (str_hd HH.out);go_wp2_with fail;refine(next_q HH.out).mono ?_;rintro e w5 ⟨rfl,h5,k5⟩;replace HK:=aM (HK.out.trans k5.kb);replace HU:=aM (HU.out.kg k5);replace HH:=aM h5;clear h5 k5;go_wp2_with fail;go_roundg en'.length
   case measure=>have:=HE.out.2.2;simp at this;omega
   case rel=>
    refine⟨_,en',de',dn++[c],rfl,⟨rfl⟩,⟨x4,?_,rfl⟩,HRG2,HH,⟨?_⟩,HK⟩
    ·have h1:=HE.out.2.1
     rw[<-h1];simp
    ·have h1:=HU.out
     rw[List.append_assoc] at h1;exact h1
  |q x4=>
   rename_i en' de';have hc2:c=92:=hc;subst hc2;have HES:=aM x4;have HH2:Aside0 (RS wr k (34::(en'++34::r))):=HH;clear hc HC HH;have HH:=HH2;clear HH2;go_wp2_with fail;refine(scanEscape_q HH.out HU.out HDN.out).mono ?_;rintro e w5 ⟨rfl,h5,u5,k5⟩;replace HK:=aM (HK.out.trans k5);replace HU:=aM u5;replace HH:=aM h5;clear h5 k5 u5;have HRG2:=aM (str_hd HH.out);go_wp2_with fail;refine(next_q HH.out).mono ?_;rintro e w5 ⟨rfl,h5,k5⟩;replace HK:=aM (HK.out.trans k5.kb);replace HU:=aM (HU.out.kg k5);replace HH:=aM h5;clear h5 k5;go_wp2_with fail;go_roundg en'.length
   case measure=>have:=HE.out.2.2;simp at this;omega
   case rel=>
    refine⟨_,en',de',dn++[34],rfl,⟨rfl⟩,⟨HES.out,?_,rfl⟩,HRG2,HH,⟨?_⟩,HK⟩
    ·have h1:=HE.out.2.1
     rw[<-h1];simp
    ·have h1:=HU.out
     rw[List.append_assoc] at h1;exact h1
  |b x4=>
   rename_i en' de';have hc2:c=92:=hc;subst hc2;have HES:=aM x4;have HH2:Aside0 (RS wr k (92::(en'++34::r))):=HH;clear hc HC HH;have HH:=HH2;clear HH2;go_wp2_with fail;refine(scanEscape_b HH.out HU.out HDN.out).mono ?_;rintro e w5 ⟨rfl,h5,u5,k5⟩;replace HK:=aM (HK.out.trans k5);replace HU:=aM u5;replace HH:=aM h5;clear h5 k5 u5;have HRG2:=aM (str_hd HH.out);go_wp2_with fail;refine(next_q HH.out).mono ?_;rintro e w5 ⟨rfl,h5,k5⟩;replace HK:=aM (HK.out.trans k5.kb);replace HU:=aM (HU.out.kg k5);replace HH:=aM h5;clear h5 k5;go_wp2_with fail;go_roundg en'.length
   case measure=>have:=HE.out.2.2;simp at this;omega
   case rel=>
    refine⟨_,en',de',dn++[92],rfl,⟨rfl⟩,⟨HES.out,?_,rfl⟩,HRG2,HH,⟨?_⟩,HK⟩
    ·have h1:=HE.out.2.1
     rw[<-h1];simp
    ·have h1:=HU.out
     rw[List.append_assoc] at h1;exact h1
  |n x4=>
   rename_i en' de';have hc2:c=92:=hc;subst hc2;have HES:=aM x4;have HH2:Aside0 (RS wr k (110::(en'++34::r))):=HH;clear hc HC HH;have HH:=HH2;clear HH2;go_wp2_with fail;refine(scanEscape_n HH.out HU.out HDN.out).mono ?_;rintro e w5 ⟨rfl,h5,u5,k5⟩;replace HK:=aM (HK.out.trans k5);replace HU:=aM u5;replace HH:=aM h5;clear h5 k5 u5;have HRG2:=aM (str_hd HH.out);go_wp2_with fail;refine(next_q HH.out).mono ?_;rintro e w5 ⟨rfl,h5,k5⟩;replace HK:=aM (HK.out.trans k5.kb);replace HU:=aM (HU.out.kg k5);replace HH:=aM h5;clear h5 k5;go_wp2_with fail;go_roundg en'.length
   case measure=>have:=HE.out.2.2;simp at this;omega
   case rel=>
    refine⟨_,en',de',dn++[10],rfl,⟨rfl⟩,⟨HES.out,?_,rfl⟩,HRG2,HH,⟨?_⟩,HK⟩
    ·have h1:=HE.out.2.1
     rw[<-h1];simp
    ·have h1:=HU.out
     rw[List.append_assoc] at h1;exact h1
  |num x1 x2 x3 x5 x6 x4=>
   rename_i d1 d2 d3 x en' de';have hc2:c=92:=hc;subst hc2;have HES:=aM x4;have HH2:Aside0 (RS wr k (d1::d2::d3::(en'++34::r))):=HH;clear hc HC HH;have HH:=HH2;clear HH2;have HX:=aM (show(48<=d1/\d1<=57)/\(48<=d2/\d2<=57)/\(48<=d3/\d3<=57)/\100*(d1-48)+10*(d2-48)+(d3-48)=x/\x<=255 from⟨x1,x2,x3,x5,x6⟩);clear x1 x2 x3 x5 x6;go_wp2_with fail;refine(scanEscape_d HX.out.1 HX.out.2.1 HX.out.2.2.1 HX.out.2.2.2.1 HX.out.2.2.2.2 HH.out HU.out HDN.out).mono ?_;rintro e w5 ⟨rfl,h5,u5,k5⟩;replace HK:=aM (HK.out.trans k5);replace HU:=aM u5;replace HH:=aM h5;clear h5 k5 u5;have HRG2:=aM (str_hd HH.out);go_wp2_with fail;refine(next_q HH.out).mono ?_;rintro e w5 ⟨rfl,h5,k5⟩;replace HK:=aM (HK.out.trans k5.kb);replace HU:=aM (HU.out.kg k5);replace HH:=aM h5;clear h5 k5;go_wp2_with fail;go_roundg en'.length
   case measure=>have:=HE.out.2.2;simp at this;omega
   case rel=>
    refine⟨_,en',de',dn++[x],rfl,⟨rfl⟩,⟨HES.out,?_,rfl⟩,HRG2,HH,⟨?_⟩,HK⟩
    ·have h1:=HE.out.2.1
     rw[<-h1];simp
    ·have h1:=HU.out
     rw[List.append_assoc] at h1;exact h1
end
def isEq(x:Int):Bool:=x==61
section
variable {w w1 w2:World} {k:Sk} {N b:Nat} {l u r:List Int}
set_option maxRecDepth 10000 in
set_option maxHeartbeats 1000000 in
theorem countSep_q(L:List Int)(h:RS w k L.tail)(hL:L.length<=2001):Calls Tryz.prog 86 #[.pointer (some ⟨k.g,0,none⟩),.int .i64 (hd L)] w fun e w'=>e = .returned (.tuple #[.int .i64 ((L.takeWhile isEq).length:Int),.int .i64 (hd (L.dropWhile isEq))])/\RS w' k (L.dropWhile isEq).tail/\Kg w w' k:=by
 have HH:=aM h;have HK:=aM (Kg.refl w k);have HL:=aM hL;clear h hL;obtain⟨c,hc⟩:∃c,c=hd L:=⟨_,rfl⟩;have HC:=aM hc;have hcc:Value.int IntKind.i64 (hd L)=Value.int IntKind.i64 c:=by rw[hc]
 rw[hcc];clear hc hcc;go_enter Tryz.func86,Tryz.ntmps86
 go_wp2_with fail;go_loopg [1,6] L.length (fun q v1 v6 wr=>∃(L2:List Int) (c m:Int),v1 = .int .i64 c/\v6 = .int .i64 m/\Aside0 (c=hd L2)/\Aside0 (L2.dropWhile isEq=L.dropWhile isEq/\m+((L2.takeWhile isEq).length:Int)=((L.takeWhile isEq).length:Int)/\0<=m/\q=L2.length)/\Aside0 (RS wr k L2.tail)/\Aside0 (Kg w wr k))
 case atStart=>exact⟨L,c,0,rfl,rfl,HC,⟨rfl,by omega,by omega,rfl⟩,HH,HK⟩
 case round=>
  clear HH HK HC;obtain⟨L2,c,m,rfl,rfl,HC,HD,HH,HK⟩:=hrel
  by_cases hb:isEq c=true
  ·obtain⟨r',hr⟩:=cons_of (P:=isEq) (r:=L2) (by decide) (by rw[<-HC.out];exact hb)
   have HR:=aM hr;have hbb:(c==61)=true:=hb;have HB:=aM hb;have hTL:(L.takeWhile isEq).length<=L.length:=(List.takeWhile_prefix (p:=isEq) (l:=L)).length_le;have qm:IntKind.i64.wrap (m+1)=m+1:=IntWalk.i64_in _ (by have h1:=HD.out.2.1;have h2:=HD.out.2.2.1;have h3:=HL.out;omega);clear hr hb hTL;go_wp2_with fail;refine(next_q HH.out).mono ?_;rintro e w5 ⟨rfl,h5,k5⟩;have HKn:=aM (HK.out.trans k5);have HHn:=aM h5;clear h5 k5 HK HH;go_wp2_with fail;have e1:L2.tail=r':=by rw[HR.out];rfl
   go_roundg r'.length
   case measure=>have:=HD.out.2.2.2;rw[HR.out] at this;simp at this;omega
   case rel=>
    have h1:=HD.out.1;have h2:=HD.out.2.1;have hq:isEq (hd L2)=true:=by rw[<-HC.out];exact HB.out
    rw[HR.out,List.dropWhile_cons,if_pos hq] at h1;rw[HR.out,List.takeWhile_cons,if_pos hq,List.length_cons] at h2;exact⟨r',_,m+1,rfl,rfl,⟨by rw[<-e1]⟩,⟨h1,by omega,by have:=HD.out.2.2.1;omega,rfl⟩,⟨by rw[<-e1];exact HHn.out⟩,HKn⟩
  ·have hb2:isEq c=false:=by simpa using hb
   have hbb:(c==61)=false:=hb2;have HB:=aM hb2;clear hb hb2;go_wp2_with fail
   go_ret2
   have hq:isEq (hd L2)=false:=by rw[<-HC.out];exact HB.out
   obtain⟨e1,e2⟩:=drop_all (P:=isEq) [] L2 (by simp) hq;rw[List.nil_append] at e1 e2;have h1:=HD.out.1;have h2:=HD.out.2.1;rw[e1] at h1;rw[e2] at h2;have h3:m=((L.takeWhile isEq).length:Int):=by simpa using h2
   rw[<-h1,<-h3,<-HC.out];exact⟨rfl,HH.out,HK.out⟩
end
def mend(n:Nat):Option Nat->List Int->Option (List Int)
 |_,[]=>none
 |none,c::l=>if c=93 then mend n (some 0) l else mend n none l
 |some k,c::l=>if c=61 then mend n (some (k+1)) l else if c=93 then(if k=n then some l else mend n (some 0) l) else mend n none l
theorem mend_eq(n:Nat):∀(l:List Int) (j:Nat),mend n (some j) l=mend n (some (j+(l.takeWhile isEq).length)) (l.dropWhile isEq)
 |[],j=>rfl
 |c::l,j=>by
  by_cases h:c=61
  ·have hb:isEq c=true:=by simp[isEq,h]
   rw[List.takeWhile_cons,if_pos hb,List.dropWhile_cons,if_pos hb,List.length_cons,mend,if_pos h,mend_eq n l (j+1)]
   congr 2
   omega
  ·have hb:¬isEq c=true:=by simp[isEq,h]
   rw[List.takeWhile_cons,if_neg hb,List.dropWhile_cons,if_neg hb]
   rfl
theorem frame_lit(n:Nat)(arr:Array Value)(h:arr.size=n):arr=((List.range n).map (fun i=>arr.getD i undef)).toArray:=by
 subst h;apply Array.ext
 ·simp
 ·intro i h1 h2
  simp[Array.getD,h1]
def AtM(g:Nat)(R:World->Prop)(a:Act)(w:World):Prop:=
 a.tmps.size=67/\a.defers=[]/\(a.tmps.getD 0 undef = .pointer (some ⟨g,0,none⟩))/\R w
set_option maxRecDepth 100000 in
theorem AtM.open_{g:Nat}{R:World->Prop}{a:Act}{w:World}(h:AtM g R a w):(∃u:Nat->Value,a=⟨#[.pointer (some ⟨g,0,none⟩),u 1,u 2,u 3,u 4,u 5,u 6,u 7,u 8,u 9,u 10,u 11,u 12,u 13,u 14,u 15,u 16,u 17,u 18,u 19,u 20,u 21,u 22,u 23,u 24,u 25,u 26,u 27,u 28,u 29,u 30,u 31,u 32,u 33,u 34,u 35,u 36,u 37,u 38,u 39,u 40,u 41,u 42,u 43,u 44,u 45,u 46,u 47,u 48,u 49,u 50,u 51,u 52,u 53,u 54,u 55,u 56,u 57,u 58,u 59,u 60,u 61,u 62,u 63,u 64,u 65,u 66],[]⟩)/\R w:=by
 obtain⟨tmps,defers⟩:=a;obtain⟨hs,hd,h0,hR⟩:=h;refine⟨⟨fun i=>tmps.getD i undef,?_⟩,hR⟩;have hd':defers=[]:=hd;subst hd';have k0:tmps.getD 0 undef = .pointer (some ⟨g,0,none⟩):=h0;have h:=frame_lit 67 tmps hs;have h2:((List.range 67).map (fun i=>tmps.getD i undef)).toArray = #[tmps.getD 0 undef,tmps.getD 1 undef,tmps.getD 2 undef,tmps.getD 3 undef,tmps.getD 4 undef,tmps.getD 5 undef,tmps.getD 6 undef,tmps.getD 7 undef,tmps.getD 8 undef,tmps.getD 9 undef,tmps.getD 10 undef,tmps.getD 11 undef,tmps.getD 12 undef,tmps.getD 13 undef,tmps.getD 14 undef,tmps.getD 15 undef,tmps.getD 16 undef,tmps.getD 17 undef,tmps.getD 18 undef,tmps.getD 19 undef,tmps.getD 20 undef,tmps.getD 21 undef,tmps.getD 22 undef,tmps.getD 23 undef,tmps.getD 24 undef,tmps.getD 25 undef,tmps.getD 26 undef,tmps.getD 27 undef,tmps.getD 28 undef,tmps.getD 29 undef,tmps.getD 30 undef,tmps.getD 31 undef,tmps.getD 32 undef,tmps.getD 33 undef,tmps.getD 34 undef,tmps.getD 35 undef,tmps.getD 36 undef,tmps.getD 37 undef,tmps.getD 38 undef,tmps.getD 39 undef,tmps.getD 40 undef,tmps.getD 41 undef,tmps.getD 42 undef,tmps.getD 43 undef,tmps.getD 44 undef,tmps.getD 45 undef,tmps.getD 46 undef,tmps.getD 47 undef,tmps.getD 48 undef,tmps.getD 49 undef,tmps.getD 50 undef,tmps.getD 51 undef,tmps.getD 52 undef,tmps.getD 53 undef,tmps.getD 54 undef,tmps.getD 55 undef,tmps.getD 56 undef,tmps.getD 57 undef,tmps.getD 58 undef,tmps.getD 59 undef,tmps.getD 60 undef,tmps.getD 61 undef,tmps.getD 62 undef,tmps.getD 63 undef,tmps.getD 64 undef,tmps.getD 65 undef,tmps.getD 66 undef]:=rfl;rw[h2] at h;rw[k0] at h;exact congrArg (fun t=>Act.mk t []) h
section
variable {w w1 w2:World} {k:Sk} {N b:Nat} {l u r:List Int}
theorem writeStr_b(s:ByteArray)(h:Bu w k N b u)(hl:u.length+s.size<=100000):Calls Tryz.prog 88 #[.pointer (some ⟨b,0,none⟩),.string s] w fun e w'=>(∃v,e = .returned v)/\Bu w' k N b (u++bytesOf s)/\Below N w w':=by
 refine(Tryz.Buffer_WriteString_k N b (nc u) s w h.i h.n (nc_one u) (by rw[nc_len];omega)).mono ?_;rintro e w' ⟨he,hi,hb,_⟩;have e1:Lib.byteCells s.data.toList=nc (bytesOf s):=by unfold Lib.byteCells nc bytesOf;simp
 rw[e1] at hi;exact⟨⟨_,he⟩,⟨by unfold nc at *;rw[List.map_append];exact hi,Nat.le_trans h.n hb.size,h.s,h.b⟩,hb⟩
theorem rep_size(n:Nat):((⟨(Lib.repeatL [61] n).toArray⟩:ByteArray)).size=n:=by
 simp[ByteArray.size,Lib.repeatL_length]
theorem RS.rng(h:RS w k l):∀x∈l,0<=x/\x<=255:=by
 have key:∀x∈bytesOf k.t,0<=x/\x<=255:=fun y hy=>by
  obtain⟨i,hi,rfl⟩:=List.mem_iff_getElem.1 hy;have:=rd_bytesOf k.t (i:Int);unfold rd at this;have h2:=bt_range k.t (i:Int);rw[<-this] at h2
  simpa[hi] using h2
 obtain⟨i,r,n,lb,lr,hb,hf⟩:=h.b;intro x hx;rcases hf with⟨_,_,_,e⟩|⟨_,_,_,e⟩|⟨_,_,_,e⟩
 ·rw[e] at hx;exact key x hx
 ·rw[e] at hx;exact key x (List.mem_of_mem_drop hx)
 ·rw[e] at hx;simp at hx
theorem drop_hd{P:Int->Bool}(hP:P (-1)=false):∀l:List Int,P (hd (l.dropWhile P))=false
 |[]=>hP
 |c::l=>by
  by_cases h:P c=true
  ·rw[List.dropWhile_cons,if_pos h]
   exact drop_hd hP l
  ·rw[List.dropWhile_cons,if_neg h]
   have h2:P c=false:=by simpa using h
   exact h2
set_option maxRecDepth 100000 in
set_option maxHeartbeats 4000000 in
theorem scanMulti_q(n:Nat)(x:Int)(L:List Int)(hx:x≠10)(hm:mend n none (x::l)=some r)(hL:L=List.replicate n 61++91::x::l)(h:RS w k L.tail)(hLL:L.length<=2001)(hu:Bu w k N b u)(hul:u.length<=30000):Calls Tryz.prog 47 #[.pointer (some ⟨k.g,0,none⟩),.int .i64 (hd L),.pointer (some ⟨b,0,none⟩)] w fun e w'=>e = .returned .nilIface/\RS w' k r/\(∃u',Bu w' k N b u')/\Kb w w' k N:=by
 have hq:=drop_all (P:=isEq) (List.replicate n 61) (91::x::l) (fun y hy=>by rw[List.eq_of_mem_replicate hy];rfl) rfl;rw[<-hL] at hq;have HCS:=aM (countSep_q L h hLL);rw[hq.1,hq.2,List.length_replicate] at HCS;have HLL:=aM (show l.length<=2000 by rw[hL] at hLL;simp at hLL;omega);have HU:=aM hu;have HK:=aM (Kb.refl w k N);have HM:=aM hm;have HX:=aM (beq_eq_false_iff_ne.mpr hx);obtain⟨c0,hc0⟩:∃c0,c0=hd L:=⟨_,rfl⟩;rw[<-hc0] at HCS|-;clear hc0 h hu hm hx hq hL hLL;go_enter Tryz.func47,Tryz.ntmps47
 go_wp2_with fail;refine wp_scope_jumps 0 (AtM k.g (fun wf=>RS wf k r/\(∃u',Bu wf k N b u')/\Kb w wf k N)) (fun _ _=>0) rfl ?_ ?_
 ·go_wp2_with fail
  refine HCS.out.mono ?_;rintro e w5 ⟨rfl,h5,k5⟩;have HKn:=aM (HK.out.trans k5.kb);have HUn:=aM (HU.out.kg k5);have HHn:Aside0 (RS w5 k (x::l)):=⟨h5⟩;clear h5 k5 HK HU HCS;have HK:=HKn;have HU:=HUn;have HH:=HHn;clear HKn HUn HHn;have hhd:hd (91::x::l)=91:=rfl;have HQ:=aM (show hd (x::l)=x from rfl);have HT:=aM (show(x::l).tail=l from rfl);have HR0:=aM (show 0<=x/\x<=255/\x≠13 from⟨(hd_ne HH.out).1,(hd_ne HH.out).2,HH.out.c x (by simp)⟩);have hx10:=HX.out;have hx13:(x==13)=false:=beq_eq_false_iff_ne.mpr HR0.out.2.2;go_wp2_with fail;refine(next_q HH.out).mono ?_;rw[HQ.out];rintro e w5 ⟨rfl,h5,k5⟩;rw[HT.out] at h5;replace HK:=aM (HK.out.trans k5.kb);replace HU:=aM (HU.out.kg k5);replace HH:=aM h5;clear h5 k5;go_wp2_with fail;clear hhd hx10 hx13 HX HQ HT;go_loopg [1,8] (l.length+1) (fun q v1 v8 wr=>∃(c:Int) (l2 u2:List Int),v1 = .int .i64 c/\Aside0 (mend n none (c::l2)=some r/\q=l2.length+1/\u2.length+l2.length<=40000/\l2.length<=2000)/\Aside0 (0<=c/\c<=255/\c≠13)/\Aside0 (RS wr k l2)/\Aside0 (Bu wr k N b u2)/\Aside0 (Kb w wr k N))
  case atStart=>exact⟨x,l,u,rfl,⟨HM.out,rfl,by have:=HLL.out;omega,HLL.out⟩,HR0,HH,HU,HK⟩
  case round=>
   clear HH HU HK HR0 HM;obtain⟨c,l2,u2,rfl,HM,HR0,HH,HU,HK⟩:=hrel;have y0:¬c<0:=by have:=HR0.out.1;omega
   by_cases h93:c=93
   ·subst h93
    have hm:=HM.out.1;rw[mend,if_pos rfl,mend_eq,Nat.zero_add] at hm;have HM2:=aM hm;clear hm;have HTW:=aM (show l2.length=(l2.takeWhile isEq).length+(l2.dropWhile isEq).length by rw[<-List.length_append,List.takeWhile_append_dropWhile]);have HCQ:=aM (fun(wz:World) (hz:RS wz k l2.tail)=>countSep_q (w:=wz) l2 hz (by have:=HM.out.2.2.2;omega));have HDH:=aM (drop_hd (P:=isEq) (by decide) l2);have HDR:=aM (show ∀e l3,l2.dropWhile isEq=e::l3->0<=e/\e<=255/\e≠13 from fun e l3 he=>by
     have hmem:e∈l2:=(List.dropWhile_sublist (p:=isEq) (l:=l2)).mem (by rw[he];simp);exact⟨(HH.out.rng e hmem).1,(HH.out.rng e hmem).2,HH.out.c e hmem⟩)
    generalize (l2.takeWhile isEq).length=m at HM2 HTW HCQ;generalize l2.dropWhile isEq=L3 at HM2 HTW HCQ HDH HDR;go_wp2_with fail;refine(next_q HH.out).mono ?_;rintro e w5 ⟨rfl,h5,k5⟩;replace HK:=aM (HK.out.trans k5.kb);replace HU:=aM (HU.out.kg k5);replace HH:=aM h5;clear h5 k5;go_wp2_with fail;refine(HCQ.out _ HH.out).mono ?_;rintro e w5 ⟨rfl,h5,k5⟩;replace HK:=aM (HK.out.trans k5.kb);replace HU:=aM (HU.out.kg k5);replace HH:=aM h5;clear h5 k5 HCQ
    match L3,HM2,HTW,HDH,HDR,HH with
    |[],HM2,HTW,HDH,HDR,HH=>exact absurd HM2.out (by simp[mend])
    |e::l3,HM2,HTW,HDH,HDR,HH=>
     have he61:e≠61:=by have h1:=HDH.out;simp[isEq,hd] at h1;exact h1
     have hcc:Value.int IntKind.i64 (hd (e::l3))=Value.int IntKind.i64 e:=rfl;have HH2:Aside0 (RS w5 k l3):=HH;clear HH;have HH:=HH2;clear HH2 HDH
     by_cases hA:e=93/\m=n
     ·obtain⟨rfl,rfl⟩:=hA
      have hr:l3=r:=by have h1:=HM2.out;rw[mend,if_neg (by decide),if_pos rfl,if_pos rfl] at h1;exact Option.some.inj h1
      subst hr;have hmm:((m:Int)==(m:Int))=true:=by simp
      rw[hcc];clear hcc he61;go_wp2_with fail
      go_step3
      exact⟨rfl,rfl,rfl,rfl,HH.out,⟨_,HU.out⟩,HK.out⟩
     ·have hlen:m+l3.length+1=l2.length:=by have:=HTW.out;simp at this;omega
      have HLN:=aM hlen;have HM3:=aM (show mend n none (e::l3)=some r by
       have h1:=HM2.out;rw[mend,if_neg he61] at h1;rw[mend]
       by_cases h93:e=93
       ·rw[if_pos h93] at h1|-
        rw[if_neg (fun h=>hA ⟨h93,h⟩)] at h1;exact h1
       ·rw[if_neg h93] at h1|-
        exact h1)
      have HRn:=aM (HDR.out e l3 rfl);rw[hcc];clear hlen he61 hcc HM2 HTW
      by_cases hmn:m=n
      ·subst hmn
       have hmm:((m:Int)==(m:Int))=true:=by simp
       have he3:(e==93)=false:=beq_eq_false_iff_ne.mpr (fun h=>hA ⟨h,rfl⟩);clear hA;go_wp2_with fail;refine(writeByte_b HU.out (by have:=HM.out.2.2.1;omega)).mono ?_;rintro e w5 ⟨rfl,h5,k5⟩;replace HK:=aM (HK.out.trans (Kb.of_below k5 HU.out.b));replace HH:=aM (HH.out.bu HU.out k5);replace HU:=aM h5;clear h5 k5;go_wp2_with fail;refine(Tryz.strings_Repeat ⟨#[61]⟩ m _ (by have:=HLN.out;have:=HM.out.2.2.2;omega) (by have:=HLN.out;have:=HM.out.2.2.2;show 1*m<=_;omega)).mono ?_;rintro e8 w8 ⟨rfl,hb8⟩;replace HK:=aM (HK.out.trans (Kb.of_below (hb8.mono (show N<=_ from HU.out.n)) HU.out.b));replace HH:=aM (HH.out.bu HU.out (hb8.mono HU.out.n));replace HU:=aM (HU.out.old (fun y hy hl=>hb8.block y hl) hb8.size);clear hb8;have HSZ:=aM (rep_size m);have HSB:=aM (show(bytesOf (⟨(Lib.repeatL (⟨#[61]⟩:ByteArray).data.toList m).toArray⟩:ByteArray)).length=m by rw[bytesOf_length];exact rep_size m);have hdl:(⟨#[61]⟩:ByteArray).data.toList=[61]:=rfl;rw[hdl] at HSB|-;generalize (⟨(Lib.repeatL [61] m).toArray⟩:ByteArray)=sv at HSZ HSB|-;clear hdl;go_wp2_with fail;refine(writeStr_b sv HU.out (by have h1:=HSZ.out;have h2:=HM.out.2.2.1;have h3:=HLN.out;simp;omega)).mono ?_;rintro e9 w9 ⟨⟨v9,rfl⟩,h5,k5⟩;have HKn:=aM (HK.out.trans (Kb.of_below k5 HU.out.b));have HHn:=aM (HH.out.bu HU.out k5);have HUn:=aM h5;clear h5 k5 HK HU HH;go_wp2_with fail;go_roundg (l3.length+1)
       case measure=>have h1:=HM.out.2.1;have h2:=HLN.out;omega
       case rel=>exact⟨e,l3,_,rfl,⟨HM3.out,rfl,by have h1:=HM.out.2.2.1;have h2:=HLN.out;have h3:=HSB.out;rw[List.length_append,List.length_append,h3];simp;omega,by have h1:=HM.out.2.2.2;have h2:=HLN.out;omega⟩,HRn,HHn,HUn,HKn⟩
      ·have hmm:((n:Int)==(m:Int))=false:=beq_eq_false_iff_ne.mpr (fun h=>hmn (by omega))
       clear hA hmn;go_wp2_with fail;refine(writeByte_b HU.out (by have:=HM.out.2.2.1;omega)).mono ?_;rintro e w5 ⟨rfl,h5,k5⟩;replace HK:=aM (HK.out.trans (Kb.of_below k5 HU.out.b));replace HH:=aM (HH.out.bu HU.out k5);replace HU:=aM h5;clear h5 k5;go_wp2_with fail;refine(Tryz.strings_Repeat ⟨#[61]⟩ m _ (by have:=HLN.out;have:=HM.out.2.2.2;omega) (by have:=HLN.out;have:=HM.out.2.2.2;show 1*m<=_;omega)).mono ?_;rintro e8 w8 ⟨rfl,hb8⟩;replace HK:=aM (HK.out.trans (Kb.of_below (hb8.mono (show N<=_ from HU.out.n)) HU.out.b));replace HH:=aM (HH.out.bu HU.out (hb8.mono HU.out.n));replace HU:=aM (HU.out.old (fun y hy hl=>hb8.block y hl) hb8.size);clear hb8;have HSZ:=aM (rep_size m);have HSB:=aM (show(bytesOf (⟨(Lib.repeatL (⟨#[61]⟩:ByteArray).data.toList m).toArray⟩:ByteArray)).length=m by rw[bytesOf_length];exact rep_size m);have hdl:(⟨#[61]⟩:ByteArray).data.toList=[61]:=rfl;rw[hdl] at HSB|-;generalize (⟨(Lib.repeatL [61] m).toArray⟩:ByteArray)=sv at HSZ HSB|-;clear hdl;go_wp2_with fail;refine(writeStr_b sv HU.out (by have h1:=HSZ.out;have h2:=HM.out.2.2.1;have h3:=HLN.out;simp;omega)).mono ?_;rintro e9 w9 ⟨⟨v9,rfl⟩,h5,k5⟩;have HKn:=aM (HK.out.trans (Kb.of_below k5 HU.out.b));have HHn:=aM (HH.out.bu HU.out k5);have HUn:=aM h5;clear h5 k5 HK HU HH;go_wp2_with fail;go_roundg (l3.length+1)
       case measure=>have h1:=HM.out.2.1;have h2:=HLN.out;omega
       case rel=>exact⟨e,l3,_,rfl,⟨HM3.out,rfl,by have h1:=HM.out.2.2.1;have h2:=HLN.out;have h3:=HSB.out;rw[List.length_append,List.length_append,h3];simp;omega,by have h1:=HM.out.2.2.2;have h2:=HLN.out;omega⟩,HRn,HHn,HUn,HKn⟩
   ·have y1:(c==93)=false:=beq_eq_false_iff_ne.mpr h93
    have hm:=HM.out.1;rw[mend,if_neg h93] at hm;have HM2:=aM hm;clear hm h93;go_wp2_with fail;refine(writeChar_q HU.out (by have:=HM.out.2.2;omega) HR0.out.1 HR0.out.2.1).mono ?_;rintro e w5 ⟨rfl,h5,k5⟩;replace HK:=aM (HK.out.trans (Kb.of_below k5 HU.out.b));replace HH:=aM (HH.out.bu HU.out k5);replace HU:=aM h5;clear h5 k5
    match l2,HM,HM2,HH with
    |[],HM,HM2,HH=>exact absurd HM2.out (by simp[mend])
    |c2::l3,HM,HM2,HH=>
     have HRn:=aM (show 0<=c2/\c2<=255/\c2≠13 from⟨(hd_ne HH.out).1,(hd_ne HH.out).2,HH.out.c c2 (by simp)⟩);have HQ:=aM (show hd (c2::l3)=c2 from rfl);have HT:=aM (show(c2::l3).tail=l3 from rfl);go_wp2_with fail;refine(next_q HH.out).mono ?_;rw[HQ.out];rintro e w5 ⟨rfl,h5,k5⟩;rw[HT.out] at h5;replace HK:=aM (HK.out.trans k5.kb);replace HU:=aM (HU.out.kg k5);replace HH:=aM h5;clear h5 k5;go_wp2_with fail;go_roundg (l3.length+1)
     case measure=>have h1:=HM.out.2.1;simp at h1;omega
     case rel=>exact⟨c2,l3,u2++[c],rfl,⟨HM2.out,rfl,by have h1:=HM.out.2.2.1;simp at h1|-;omega,by have h1:=HM.out.2.2.2;simp at h1;omega⟩,HRn,HH,HU,HK⟩
 ·intro a wf h
  obtain⟨⟨u,rfl⟩,hw⟩:=h.open_;clear h;have HW:=aM hw;clear hw
  go_wp2
  simp only[Exit.jump];go_ret;exact⟨rfl,HW.out⟩
end
end Go.Proofs.YtoimaaonloibfaaGreatDoor.Tk
