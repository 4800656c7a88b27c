/- FnTokensSpaced returns true at every input: blanks, line breaks and comments between the tokens of a chunk, but for line breaks ahead of a parenthesis, change nothing of its tokens. Conditions: none of ours (the card's own: the listed variables read as the program's text lays them, tied). -/
import Derived.Test.YtoimaaonloibfaaGreatDoorG11
import Derived.Test.YtoimaaonloibfaaGreatDoorTie
import Derived.ProofKit
import Derived.LaidMore
import Derived.OpenShut
import Derived.OpenVars
import Derived.ShutString
import Derived.ChangeSlices
import Derived.Lib.LaidU8
import Derived.Stop.Joined
import Derived.Stop.LaidErr
import Derived.SevenTiedAt
import Derived.Test.YtoimaaonloibfaaGreatDoorCards
set_option linter.unusedVariables false
set_option linter.unusedSimpArgs false
set_option linter.constructorNameAsVariable false
set_option linter.unnecessarySimpa false
namespace Go.Proofs.YtoimaaonloibfaaGreatDoor.Lw
open Go Go.ChangeShapes Go.WideShapes Go.ChangeAt Go.WideMaps Go.WideElems Go.RowKit Go.Lib
open W1 (Kd)
open Tk (Out k0 Sk law_q)
theorem own:ownKnob Tryz.prog.godebug=none:=by kernel_rfl
theorem laidOut:laidOutB Tryz.prog=true:=by kernel_rfl
theorem gR : Tryz.prog.globalNamed "loop.example/pub-g01442/pub/lua/parse.reservedWords" = some 0 := by kernel_rfl
theorem gN : Tryz.prog.globalNamed "loop.example/pub-g01442/pub/lua/parse.yyToknames" = some 1 := by kernel_rfl
theorem gE : Tryz.prog.globalNamed "io.EOF" = some 2 := by kernel_rfl
theorem gB : Tryz.prog.globalNamed "math/bits.deBruijn64tab" = some 12 := by kernel_rfl
theorem tR:(Tryz.prog.globals[0]?).map (·.type)=some 102:=by kernel_rfl
theorem tN:(Tryz.prog.globals[1]?).map (·.type)=some 131:=by kernel_rfl
theorem tE:(Tryz.prog.globals[2]?).map (·.type)=some 65:=by kernel_rfl
theorem cells183:Tryz.prog.cellsOf 183=1:=by kernel_rfl
theorem cells9:Tryz.prog.cellsOf 9=1:=by kernel_rfl
theorem cells3:Tryz.prog.cellsOf 3=1:=by kernel_rfl
theorem cells131:Tryz.prog.cellsOf 131=56:=by kernel_rfl
theorem star : "*" ++ "errors.errorString" = "*errors.errorString" := by decide
theorem row181 (u : TypeId) (h : Tryz.prog.typeName? 3 u = some "*errors.errorString") : u = 181 :=
 typeName_ptr_named (nm := "errors.errorString") (by rw [star]; kernel_rfl) (by kernel_rfl) (by decide) u (by rw [star]; exact h)
theorem law:KeyLaw Tryz.prog 9:=string_law Tryz.underlying9
theorem zero3(w:World):(zeroValue 3).run Tryz.prog w = .ok (.int .i64 0) w:=by kernel_rfl
def words:DataW Unit:=Rows.laid_loop_example_pub_g01442_pub_lua_parse_reservedWords
def res(s:ByteArray):Option Int:=match words.atKey (.string s.data.toList) .nil with
 | .lit (.int .i64 v)=>some v
 |_=>none
theorem var_lt{W:World}{n:String}{g:Nat}{cs:Array Value}(hg:Tryz.prog.globalNamed n=some g)(hv:W.var? Tryz.prog n=some cs):g<W.heap.size:=by
 unfold World.var? at hv;rw[hg] at hv;simp only[Option.bind_some] at hv;rcases Nat.lt_or_ge g W.heap.size with h|h
 ·exact h
 ·rw[Array.getElem?_eq_none h] at hv
  cases hv
theorem plain(W:World)(h:laidMetH Tryz.prog Rows.fnTokensSpacedRow.laid W):laidMet Tryz.prog Rows.fnTokensSpacedRow.laid W:=by
 rw[MakeChecks.laidMetH_plain _ _ _ (by kernel_rfl)] at h;exact h
theorem at_eof{W:World}(h:laidMet Tryz.prog Rows.fnTokensSpacedRow.laid W):∃pe,W.cell? ⟨2,0,none⟩=some (.iface 181 (.pointer (some pe))):=by
 obtain⟨a,s,hv,_,_,_⟩:=laid_sentinel (laidMet.tail (laidMet.tail (laidMet.tail (laidMet.tail (laidMet.tail h))))) gE tE Tryz.underlying65 row181 Tryz.underlying181 Tryz.underlying183 rfl rfl Tryz.underlying9 cells183 cells9;exact⟨a,by simpa using World.var?_cell gE hv 0⟩
theorem at_size{W:World}(h:laidMet Tryz.prog Rows.fnTokensSpacedRow.laid W):12<W.heap.size:=by
 obtain ⟨g, t, cs, fuel, p, hg, ht, hv, _⟩ := laidMet.reads h (n := "math/bits.deBruijn64tab") (d := Rows.laid_math_bits_deBruijn64tab) (List.mem_cons_of_mem _ (List.mem_cons_self ..));obtain rfl := Option.some.inj (gB.symm.trans hg);exact var_lt hg hv
theorem at_names{W:World}(h:laidMet Tryz.prog Rows.fnTokensSpacedRow.laid W):∀j,j<56->∃s,W.cell? ⟨1,j,none⟩=some (.string s):=by
 obtain ⟨g, t, cs, fuel, p, hg, ht, hv, hd⟩ := laidMet.reads h (n := "loop.example/pub-g01442/pub/lua/parse.yyToknames") (d := Rows.laid_loop_example_pub_g01442_pub_lua_parse_yyToknames) (by simp [Rows.fnTokensSpacedRow]);obtain rfl := Option.some.inj (gN.symm.trans hg);obtain rfl := Option.some.inj (tN.symm.trans ht);obtain ⟨xs, m, rfl, hx, hlen, hn, hel⟩ := DataW.trod_array Tryz.underlying131 hd;intro j hj;have h1 := hel j hj;rw [List.getElem?_eq_getElem (by omega)] at h1;obtain ⟨s, hs, _, _⟩ := DataW.trod_string Tryz.underlying9 h1;rw [cells9, Nat.mul_one] at hs;have h2 : cs.toList[j]? = some (.string s) := by
  have:=congrArg (fun l=>l[0]?) hs
  simpa using this
 have h3:=World.var?_cell gN hv j;exact⟨s,by rw[h3];simpa using h2⟩
theorem at_words{W:World}(h:laidMet Tryz.prog Rows.fnTokensSpacedRow.laid W):∃bm,W.cell? ⟨0,0,none⟩=some (.map (some bm))/\∀w',Below W.heap.size W w'->∀s,s.size<=100000->(Instr.lookup 102 (.map (some bm)) (.string s) true).run Tryz.prog w' = .ok (.tuple #[.int .i64 ((res s).getD 0),.bool (res s).isSome]) w':=by
 obtain ⟨g, t, cs, fuel, p, hg, ht, hv, hd⟩ := laidMet.reads h (n := "loop.example/pub-g01442/pub/lua/parse.reservedWords") (d := words) (by simp [Rows.fnTokensSpacedRow, words]);obtain rfl := Option.some.inj (gR.symm.trans hg);obtain rfl := Option.some.inj (tR.symm.trans ht);rcases WideElems.open_map Tryz.underlying102 hd with ⟨_, hx⟩ | ⟨bm, es, clock, m, rfl, hcs, hb, _, F, hx⟩
 ·simp[words,Rows.laid_loop_example_pub_g01442_pub_lua_parse_reservedWords] at hx
 simp only[Prod.mk.injEq] at hx;refine⟨bm,?_,?_⟩
 ·have:=World.var?_cell gR hv 0
  rw[Array.eq_one_of_toList hcs] at this
  simpa using this
 ·intro w' hw' s hs
  have hb':w'.heap[bm]? = some (.map es clock):=(hw'.block bm (Array.getElem?_eq_some_iff.1 hb).1).trans hb;rcases WideElems.fit_lookup_ok (w:=w') law Tryz.underlying102 (zero3 w') hb' F (keyOf_string_mk (s:=s) Tryz.underlying9 (Nat.le_trans hs (by decide))) with⟨hrun,hat⟩|⟨v,y,hrun,hRv,hat,_⟩
  ·have:=hat .nil
   rw[<-hx.1] at this;have e:res s=none:=by unfold res;rw[this]
   rw[e];exact hrun
  ·obtain⟨r,rfl,rfl,_⟩:=elemAt_int Tryz.underlying3 hRv
   have:=hat .nil;rw[<-hx.1] at this;have e:res s=some r:=by unfold res;rw[this]
   rw[e];exact hrun
theorem atKey_in{l:List (Lit×DataW Unit)}(k:Lit):(DataW.map l).atKey k .nil = .nil\/∃p∈l,(DataW.map l).atKey k .nil=p.2:=by
 unfold DataW.atKey;simp only
 cases h:l.find? (fun p=>p.1.sameKey k) with
 |none=>exact .inl rfl
 |some p=>exact .inr ⟨p,List.mem_of_find?_eq_some h,rfl⟩
def okWord(p:Lit×DataW Unit):Bool:=match p.2 with
 | .lit (.int .i64 v)=>decide (0<=v/\v<=100000)
 |_=>false
def wordList:List (Lit×DataW Unit):=match words with
 | .map l=>l
 |_=>[]
theorem words_map:words = .map wordList:=rfl
theorem res_range(s:ByteArray)(v:Int)(h:res s=some v):0<=v/\v<=100000:=by
 have hall:wordList.all okWord=true:=by decide
 unfold res at h;rw[words_map] at h;rcases atKey_in (l:=wordList) (.string s.data.toList) with e|⟨p,hp,e⟩
 ·rw[e] at h
  cases h
 ·rw[e] at h
  have h1:=List.all_eq_true.1 hall p hp;unfold okWord at h1
  split at h
  ·rename_i u hu
   rw[hu] at h1;cases h
   exact of_decide_eq_true h1
  ·cases h
theorem out_of{W:World}(h:laidMet Tryz.prog Rows.fnTokensSpacedRow.laid W):Out W (k0 W.heap.size) res:=⟨at_words h,at_names h,res_range⟩
theorem row_of{H:Type}{enc:TypeId×Value->H}{W:World}{sp:Nat->Bool}{held:Bool}{v:Value}{d:DataW H}{p:List MemPlace}(h:DataW.Trod enc Tryz.prog W 0 sp held 22 v d p)(hv:∃A n c,v = .slice A n c):
  ∃A gs c,v = .slice A gs.length c/\gs.length<=c/\Kd.C (Kd.int .i64) W A gs.length gs:=by
 obtain⟨fuel,hf⟩:=h;obtain⟨A,n,c,rfl⟩:=hv;rcases open_ints Tryz.underlying22 Tryz.underlying3 cells3 hf with⟨hcs,_⟩|⟨a,len,cap,zs,hcs,_,hl,hm,hz,_,hc,_⟩
 ·simp[Value.cells] at hcs
  obtain⟨rfl,rfl,rfl⟩:=hcs;exact⟨none,[],0,rfl,Nat.le_refl _,rfl,by decide,fun h=>absurd h (by decide)⟩
 ·simp[Value.cells] at hcs
  obtain⟨rfl,rfl,rfl⟩:=hcs;have hlz:n<=zs.length:=by
   rw[hz]
   split
   ·exact hl
   ·exact Nat.le_refl _
  have hlen:(zs.take n).length=n:=by rw[List.length_take];exact Nat.min_eq_left hlz
  refine⟨some a,zs.take n,c,by rw[hlen],by rw[hlen];exact hl,rfl,?_,fun _=>⟨a,rfl,fun j x hj=> ?_⟩⟩
  ·rw[hlen];unfold maxLen at hm;omega
  ·have hjn:j<n:=by
    have:=(List.getElem?_eq_some_iff.1 hj).1;rw[hlen] at this;exact this
   have hx:zs.getD j 0=x:=by
    rw[List.getElem?_take_of_lt hjn] at hj;rw[List.getD_eq_getElem?_getD,hj]
    rfl
   refine⟨[.int .i64 x],rfl,rfl,fun i u hi=> ?_⟩
   match i,hi with
   |0,hi=>
    cases hi
    have:=hc j (by omega);rw[hx] at this;show W.cell? (a.add (j*1+0))=_
    rw[Nat.mul_one,Nat.add_zero];exact this
   |i+1,hi=>simp at hi
end Go.Proofs.YtoimaaonloibfaaGreatDoor.Lw
namespace Go.Proofs.YtoimaaonloibfaaGreatDoor.Lw
open Go Go.ChangeShapes Go.WideShapes Go.ChangeAt Go.RowKit
open Go.ChangeMaps (open_string shut_string)
theorem door_met(os:Os)(args:Array Value):laidMetH Tryz.prog Rows.fnTokensSpacedRow.laid ((World.doorLaid Tryz.prog 400 os).forCall (fun _ _=>0) ⟨#[],args,[]⟩).memory:=
 laidMetH_of_parts3 (fuel:=8) (laidMet_of_run' 8 (by kernel_rfl) (by kernel_rfl)) (by kernel_rfl) (by kernel_rfl)
theorem tv{H:Type}{enc:TypeId×Value->H}{W W':World}{gs:List (DataW H)}{q:List MemPlace}(hV:DataW.TrodVars enc Tryz.prog W (fun _=>true) Rows.fnTokensSpacedSpec.vars gs q)(bel:Below W.heap.size W W'):DataW.TrodVars enc Tryz.prog W' (fun b=>decide (b<W.heap.size)) Rows.fnTokensSpacedSpec.vars gs q:=Below.trodVars laidOut bel (by kernel_rfl) hV
set_option maxRecDepth 100000 in
theorem lifted(os:Os)(started:os.Started)(H:Type)(enc:TypeId×Value->H):
  ReturnsInHanded {} Tryz.checked os 3 .any (fun w args=>(Rows.fnTokensSpacedSpec.pre enc Tryz.prog Tryz.f3 [] false w args/\laidMetH Tryz.prog Rows.fnTokensSpacedRow.laid w)/\sizedMet enc Tryz.prog Tryz.f3 (OpenSpec.ofChange Rows.fnTokensSpacedSpec) false w args)
   (Rows.fnTokensSpacedSpec.post enc Tryz.prog Tryz.f3 false true false false):=by
 refine returnsInHanded_of_change_and (C:=Tryz.checked) (X:=fun w _=>laidMetH Tryz.prog Rows.fnTokensSpacedRow.laid w) (fun _ _ _ hh h=>h.of_heap hh) own started (by kernel_rfl) Tryz.func3
  (ChangeSpec.witness_shaped (enc:=enc) (C:=Tryz.checked) (os:=os) (X:=fun w _=>laidMetH Tryz.prog Rows.fnTokensSpacedRow.laid w) false (World.doorLaid Tryz.prog 400 os) #[.string ByteArray.empty,.slice none 0 0] 8 rfl (World.shaped_of_RefB (by kernel_rfl) (by kernel_rfl)) (by kernel_rfl) (by kernel_rfl) (by kernel_rfl) (door_met os _)) ?_
 intro W base args ds gs before hval0 hW _ _ hL _;have hval:∀(j:Nat) t v,Tryz.f3.params[j]? = some t->args[j]? = some v->Value.okWide Tryz.prog W .any base t v:=hval0;have hW':=hW;obtain⟨p,q,hA0,hV,rfl,hfz,hnd⟩:=hW;have hA:DataW.TrodAll enc Tryz.prog W 0 (fun _=>true) true Tryz.f3.params.toList args.toList ds p:=hA0;rw[Tryz.params3] at hA hval;obtain⟨v0,v1,d0,d1,p0,p1,rfl,rfl,rfl,h0,h1⟩:=trodAll_two hA;obtain⟨a0,rfl,rfl,rfl,y0⟩:=open_string Tryz.underlying9 (hval 0 9 v0 rfl rfl) h0;obtain⟨A,zs,c,rfl,hc,hC⟩:=row_of h1 (okWide_slice Tryz.underlying22 (hval 1 22 v1 rfl rfl));obtain⟨g1,g2,rfl⟩:∃a b,gs=[a,b]:=by
  obtain⟨_,_,_,_,x1,_,_,_,_,_,x2,_,e,_⟩:=trodVars_two hV;exact⟨x1,x2,e⟩
 have hP:=plain W hL;obtain⟨pe,hpe⟩:=at_eof hP
 have hlt:∀x∈p1,x.block<W.heap.size:=fun x hx=>by simpa using hW'.lt x (List.mem_append_left _ (List.mem_append_right _ hx))
 clear hA0 hval0;refine(Go.Proofs.YtoimaaonloibfaaGreatDoor.Tk.law_q (w:=W) a0 A c zs pe hC hc (at_size hP) hpe (out_of hP)).mono fun e W' ⟨he,bel⟩=> ?_
 subst he;exact⟨_,rfl,_,_,_,[],_,_,hW',trodAll_mk1 (shut_bool Tryz.underlying4 _),trodAll_mk2 (shut_string Tryz.underlying9 y0) (Below.trod laidOut (by kernel_rfl) (of_decide_eq_true (by kernel_rfl)) h1 bel hlt),tv hV bel,bel.frame _,fun h=>by cases h⟩
theorem holds:Rows.FnTokensSpacedSaid:=
 OpenClaim.holds_of_wide 3 Tryz.f3 rfl rfl rfl rfl rfl rfl rfl ⟨rfl,rfl,rfl,rfl,rfl⟩ rfl rfl rfl rfl rfl (by kernel_rfl) Tryz.func3 (by kernel_rfl)
  (of_decide_eq_true (by kernel_rfl)) (by unfold Func.isWrapper;first|(rw[if_pos (by decide +kernel)];kernel_rfl)|(rw[if_neg (by decide +kernel)];exact⟨rfl,rfl⟩))
  (fun os started H enc _=>lifted os started H enc)
end Go.Proofs.YtoimaaonloibfaaGreatDoor.Lw
namespace Go.Proofs.YtoimaaonloibfaaGreatDoor
open Go
theorem tokens_holds:Rows.FnTokensSpacedCardSaid:=
 Claim7.holds_tied_plain_at .later [] [.data, .data, .data, .sentinel, .sentinel, .sentinel, .sentinel, .sentinel, .sentinel, .sentinel, .mapped, .data] true (true, "0ae6580bfa55f52525181882939aeacc6c3e533d2aa474a748ec097b9a09e0ac") true
  Lw.holds (fun _ h=>by cases h) (by kernel_rfl) (fun _ h=>by cases h) fnTokensSpaced_row_tie rfl ⟨rfl,rfl⟩ (by kernel_rfl) rfl
  (fun f fn hf hfn=>by
   obtain rfl : f = 3 := Option.some.inj ((show Tryz.prog.funcNamed "loop.example/pub-g01442/laws.FnTokensSpaced" = some 3 by kernel_rfl).symm.trans hf) |>.symm
   obtain rfl:fn=Tryz.f3:=(Option.some.inj (Tryz.func3.symm.trans hfn)).symm;exact⟨by kernel_rfl,fun j t ht=>by
    rw[Tryz.params3] at ht;have hm:t∈[9,22]:=by simpa using Array.mem_of_getElem? ht
    have hall:([9,22].all fun u=> !Tryz.prog.wantsStandIn u)=true:=by kernel_rfl
    exact(show Tryz.prog.wantsStandIn t=false by simpa using List.all_eq_true.1 hall t hm)⟩)
  (by kernel_rfl)
#print axioms tokens_holds
end Go.Proofs.YtoimaaonloibfaaGreatDoor
