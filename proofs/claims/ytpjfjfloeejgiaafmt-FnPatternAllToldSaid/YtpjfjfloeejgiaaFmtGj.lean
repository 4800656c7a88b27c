/- Joined texts of this seat: Mdk, Fnd, Mta, Mtb, Ism, Fst. -/
import Derived.Test.YtpjfjfloeejgiaaFmtGh
import Derived.Test.YtpjfjfloeejgiaaFmtGi
import Derived.Test.YtpjfjfloeejgiaaFmtGe
import Derived.Test.YtpjfjfloeejgiaaFmtGf
import Derived.Defers
import Derived.Recover
/- The matches that Find makes, in memory: pointers to captures, as a kind of the printed words; what Find computes, plain. -/
set_option linter.unusedVariables false
set_option linter.unusedSimpArgs false
namespace Go.Proofs.YtpjfjfloeejgiaaFmt.Fnd
open Go.RowKit Go.Proofs.YtpjfjfloeejgiaaFmtW.PrintWords Go.Proofs.YtpjfjfloeejgiaaFmt.Scan Go.Proofs.YtpjfjfloeejgiaaFmt.Cls Go.Proofs.YtpjfjfloeejgiaaFmt.Ins Go.Proofs.YtpjfjfloeejgiaaFmt.Mst Go.Proofs.YtpjfjfloeejgiaaFmt.Vm

/-- Captures in memory, by their pointer. -/
def MdAt (w : World) (base : Nat) (ok : Nat → Prop) (v : Value) (cs : List Int) : Prop :=
  ∃ g s, v = .pointer (some ⟨g, 0, none⟩) ∧ Blk w base ok g #[s] 91 ∧ (Kd.int .u32).R 88 w base (fun k => ok k ∧ k ≠ g) s cs
section
variable {w w1 : World} {base base' : Nat} {ok ok' : Nat → Prop} {v : Value} {cs : List Int}
theorem MdAt.mono (h : MdAt w base ok v cs) (hok : ∀ k, ok k → ok' k) : MdAt w base ok' v cs := by
  obtain ⟨g, s, e, h, h1⟩ := h
  exact ⟨g, s, e, h.mono hok, Kd.R_mono h1 (fun k hk => ⟨hok k hk.1, hk.2⟩)⟩
theorem MdAt.bound (h : MdAt w base ok v cs) : MdAt w base (Bd w base ok [91, 88]) v cs := by
  obtain ⟨g, s, e, h, h1⟩ := h
  refine ⟨g, s, e, h.bound (by simp), Kd.R_mono (Kd.R_bound h1) ?_⟩
  rintro k ⟨k1, k2, k3, q, hq, hc⟩
  refine ⟨⟨k1.1, k2, k3, q, ?_, hc⟩, k1.2⟩
  have hq' : q ∈ [88] := hq
  simp only [List.mem_cons, List.not_mem_nil, or_false] at hq' ⊢
  exact .inr hq'
theorem MdAt.move (h : MdAt w base ok v cs) (hm : ∀ k, ok k → w1.heap[k]? = w.heap[k]?) : MdAt w1 base ok v cs := by
  obtain ⟨g, s, e, h, h1⟩ := h
  exact ⟨g, s, e, h.move hm, Kd.R_move h1 (fun k hk => hm k hk.1)⟩
theorem MdAt.lower (h : MdAt w base ok v cs) (hb : base' ≤ base) : MdAt w base' ok v cs := by
  obtain ⟨g, s, e, h, h1⟩ := h
  exact ⟨g, s, e, h.lower hb, Kd.R_lower h1 hb⟩
theorem MdAt.one (h : MdAt w base ok v cs) : v.oneCell' = true := by obtain ⟨g, s, rfl, h⟩ := h; rfl
end
def mdK : Kd (List Int) := one MdAt [91, 88] MdAt.mono MdAt.bound MdAt.move MdAt.lower MdAt.one
theorem info60 : (Tryf.prog.info? 60).map (fun i => (i.zero, i.size, i.bytes)) = some (some (.pointer none), 1, 8) := by kernel_rfl

/-- The matches found so far. -/
structure MsU (w wr : World) (v : Value) (ms : List (List Int)) : Prop where
  b : Below w.heap.size w wr
  row : mdK.R 60 wr w.heap.size (fun _ => True) v ms
section
variable {w wr w1 : World} {v : Value} {ms : List (List Int)}
variable {ops : Array Oper} {o : Oper} {a : Act} {Q : Exit → Act → World → Prop} {rest : List Oper}
theorem MsU.drewN (h : MsU w wr v ms) (m : Nat) : MsU w (wr.drewN m) v ms := ⟨pw_below_drewN h.b m, Kd.R_drewN h.row m⟩
theorem MsU.below (h : MsU w wr v ms) (hb : Below wr.heap.size wr w1) : MsU w w1 v ms := ⟨h.b.trans (hb.mono h.b.size), Kd.R_below h.row hb⟩
theorem MsU.sl (h : MsU w wr v ms) : ∃ A c, v = .slice A ms.length c := Kd.R_slice h.row
theorem MsU.list (h : MsU w wr v ms) (hgd : o.guard = none) (s y : Operand) (ho : o.op = .call { callee := .builtin .append, args := #[s, y], argTypes := #[55, 55] })
    (hs : a.eval s = v) {u : Value} {cs : List Int} {N : Nat} (hb : Below wr.heap.size wr w1) (hu : MdAt w1 wr.heap.size (fun _ => True) u cs) (hy : a.eval y = .slice (some ⟨N, 0, none⟩) 1 1) (hN : w1.heap.size = N) (hl : ms.length ≤ 100000)
    (hK : ∀ A1 n1 c1 w2, MsU w w2 (.slice A1 n1 c1) (ms ++ [cs]) → wpList Tryf.prog ops Q rest (a.put o.dst (.slice A1 n1 c1)) w2) :
    wpList Tryf.prog ops Q (o :: rest) a (w1.alloc (.cells #[u] 60)) := by
  subst hN
  have h1 := h.below hb
  refine Kd.R_append (P := Tryf.prog) mdK (w0 := w) w.heap.size hgd s y 55 60 (.pointer none) 8 ho Tryf.underlying55 info60 rfl (Nat.zero_lt_one) (by decide) v ms cs [u] (fun _ => True) (fun k => wr.heap.size ≤ k) hs hy
    ⟨u, rfl, ((hu.bound.mono (fun k hk => hk.2.1)).lower h.b.size)⟩ (fun k hk => ⟨trivial, fun e => ?_⟩) (fun _ _ => trivial) h1.row h1.b h1.b.size (by omega) ?_
  · have := Kd.R_lt h.row k e.symm
    omega
  · intro v2 w2 hR hb2 hg _
    obtain ⟨A1, c1, rfl⟩ := Kd.R_slice hR
    exact hK _ _ _ _ ⟨hb2, hR⟩
end
def nextMs (r : Option Nat) (cs : List Int) (ms : List (List Int)) : List (List Int) := match r with | none => ms | some _ => ms ++ [cs]
def nextSp (r : Option Nat) (sp : Nat) : Nat := match r with | none => sp + 1 | some e => if sp + 1 < e then e else sp + 1
/-- What Find's loop computes: the captures of the matches, rounds being left. -/
def finds (src : List Int) (P : List Ins) (mh : Bool) (limit : Int) (K : Nat) : Nat → Nat → List (List Int) → Option (List (List Int))
  | 0, _, _ => none
  | n + 1, sp, ms =>
    if sp ≤ src.length then
      match vm src P K 1 0 sp [] with
      | none => none
      | some (r, cs) => if ((nextMs r cs ms).length : Int) = limit ∨ mh = true then some (nextMs r cs ms) else finds src P mh limit K n (nextSp r sp) (nextMs r cs ms)
    else some ms
end Go.Proofs.YtpjfjfloeejgiaaFmt.Fnd
/- Find of package pm: the walk. -/
set_option linter.unusedVariables false
set_option linter.unusedSimpArgs false
namespace Go.Proofs.YtpjfjfloeejgiaaFmt.Fnd
open Go.RowKit Go.Proofs.YtpjfjfloeejgiaaFmtW.PrintWords Go.Proofs.YtpjfjfloeejgiaaFmt.Scan Go.Proofs.YtpjfjfloeejgiaaFmt.Cls Go.Proofs.YtpjfjfloeejgiaaFmt.Pat Go.Proofs.YtpjfjfloeejgiaaFmt.Ins Go.Proofs.YtpjfjfloeejgiaaFmt.Mst Go.Proofs.YtpjfjfloeejgiaaFmt.Vm

/-- At the head of Find's loop. -/
def AtFind (D : List Deferred) (p : ByteArray) (A B : Option Addr) (n c1 m c2 sp q eb : Nat) (limit : Int) (v : Value) (R : World → Prop) (a : Act) (w : World) : Prop :=
  a.tmps.size = 59 ∧ a.defers = D ∧ (a.tmps.getD 0 undef = .string p ∧ a.tmps.getD 1 undef = .slice A n c1 ∧ a.tmps.getD 3 undef = .int .i64 limit ∧ a.tmps.getD 8 undef = v ∧ a.tmps.getD 9 undef = .pointer (some ⟨eb, 0, none⟩) ∧ a.tmps.getD 10 undef = .pointer (some ⟨q, 0, none⟩) ∧ a.tmps.getD 11 undef = .slice B m c2 ∧ a.tmps.getD 12 undef = .int .i64 (sp : Int)) ∧ R w
set_option maxRecDepth 100000 in
theorem AtFind.open_ {D : List Deferred} {p : ByteArray} {A B : Option Addr} {n c1 m c2 sp q eb : Nat} {limit : Int} {v : Value} {R : World → Prop} {a : Act} {w : World} (h : AtFind D p A B n c1 m c2 sp q eb limit v R a w) : (∃ u : Nat → Value, a = ⟨#[.string p, .slice A n c1, u 2, .int .i64 limit, u 4, u 5, u 6, u 7, v, .pointer (some ⟨eb, 0, none⟩), .pointer (some ⟨q, 0, none⟩), .slice B m c2, .int .i64 (sp : Int), u 13, u 14, u 15, u 16, u 17, u 18, u 19, u 20, u 21, u 22, u 23, u 24, u 25, u 26, u 27, u 28, u 29, u 30, u 31, u 32, u 33, u 34, u 35, u 36, u 37, u 38, u 39, u 40, u 41, u 42, u 43, u 44, u 45, u 46, u 47, u 48, u 49, u 50, u 51, u 52, u 53, u 54, u 55, u 56, u 57, u 58], D⟩) ∧ R w := by
  obtain ⟨tmps, defers⟩ := a
  obtain ⟨hs, hd, ⟨h0, h1, h3, h8, h9, h10, h11, h12⟩, hR⟩ := h
  refine ⟨⟨fun i => tmps.getD i undef, ?_⟩, hR⟩
  have hd' : defers = D := hd
  subst hd'
  have k0 : tmps.getD 0 undef = .string p := h0
  have k1 : tmps.getD 1 undef = .slice A n c1 := h1
  have k3 : tmps.getD 3 undef = .int .i64 limit := h3
  have k8 : tmps.getD 8 undef = v := h8
  have k9 : tmps.getD 9 undef = .pointer (some ⟨eb, 0, none⟩) := h9
  have k10 : tmps.getD 10 undef = .pointer (some ⟨q, 0, none⟩) := h10
  have k11 : tmps.getD 11 undef = .slice B m c2 := h11
  have k12 : tmps.getD 12 undef = .int .i64 (sp : Int) := h12
  have h := frame_lit 59 tmps hs
  have h2 : ((List.range 59).map (fun i => tmps.getD i undef)).toArray = #[tmps.getD 0 undef, tmps.getD 1 undef, tmps.getD 2 undef, tmps.getD 3 undef, tmps.getD 4 undef, tmps.getD 5 undef, tmps.getD 6 undef, tmps.getD 7 undef, tmps.getD 8 undef, tmps.getD 9 undef, tmps.getD 10 undef, tmps.getD 11 undef, tmps.getD 12 undef, tmps.getD 13 undef, tmps.getD 14 undef, tmps.getD 15 undef, tmps.getD 16 undef, tmps.getD 17 undef, tmps.getD 18 undef, tmps.getD 19 undef, tmps.getD 20 undef, tmps.getD 21 undef, tmps.getD 22 undef, tmps.getD 23 undef, tmps.getD 24 undef, tmps.getD 25 undef, tmps.getD 26 undef, tmps.getD 27 undef, tmps.getD 28 undef, tmps.getD 29 undef, tmps.getD 30 undef, tmps.getD 31 undef, tmps.getD 32 undef, tmps.getD 33 undef, tmps.getD 34 undef, tmps.getD 35 undef, tmps.getD 36 undef, tmps.getD 37 undef, tmps.getD 38 undef, tmps.getD 39 undef, tmps.getD 40 undef, tmps.getD 41 undef, tmps.getD 42 undef, tmps.getD 43 undef, tmps.getD 44 undef, tmps.getD 45 undef, tmps.getD 46 undef, tmps.getD 47 undef, tmps.getD 48 undef, tmps.getD 49 undef, tmps.getD 50 undef, tmps.getD 51 undef, tmps.getD 52 undef, tmps.getD 53 undef, tmps.getD 54 undef, tmps.getD 55 undef, tmps.getD 56 undef, tmps.getD 57 undef, tmps.getD 58 undef] := rfl
  rw [h2] at h
  rw [k0, k1, k3, k8, k9, k10, k11, k12] at h
  exact congrArg (fun t => Act.mk t _) h

theorem catch_idle (p : Addr) (w : World) :
    CallsD Tryf.prog 25 #[.pointer (some p)] .returning w fun e u' w' => e = .returned (.tuple #[]) ∧ u' = .returning ∧ w' = w := by
  refine callsD_of_wpS Tryf.func25 rfl fun c₀ cs hu => ?_
  apply wpS_seq
  apply wpS_region
  simp [wpOpsS, go_sem, recoverD, hu, Tryf.ntmps25, Exit.thenS]
  apply wpS_seq
  apply wpS_region
  simp [wpOpsS, go_sem, Exit.thenS]
  refine wpS_cond (t := false) (by simp [Act.eval, Array.replicate]) ?_
  simp only [Bool.false_eq_true, if_false]
  refine wpS_of_wp (wp_skip ?_)
  cases c₀
  simp_all [bodyPostS, results, Tryf.results25, Exit.thenS]
/-- What Find's loop leaves. -/
structure FndR (wP wr : World) (src : List Int) (P : List Ins) (mh : Bool) (limit : Int) (K : Nat) (k sp : Nat) (v : Value) (res : List (List Int)) : Prop where
  ms : ∃ ms, MsU wP wr v ms ∧ finds src P mh limit K k sp ms = some res ∧ ms.length ≤ sp
theorem Src.below {w w1 : World} {A : Option Addr} {src : List Int} (h : Src w A src) (hb : Below w.heap.size w w1) : Src w1 A src := ⟨Kd.C_below h.c hb, h.n, h.r⟩
theorem nextMs_len (r : Option Nat) (cs : List Int) (ms : List (List Int)) : (nextMs r cs ms).length ≤ ms.length + 1 := by cases r <;> simp [nextMs]
theorem nextSp_le (r : Option Nat) (sp : Nat) : sp + 1 ≤ nextSp r sp := by
  cases r with
  | none => exact Nat.le_refl _
  | some e =>
    simp only [nextSp]
    split <;> omega
/-- What the matcher wants of the instructions. -/
structure InsOk (P : List Ins) : Prop where
  len : P.length ≤ 900000
  sets : ∀ c, Ins.chr c ∈ P → ∀ neg al, c = .set neg al → al.length ≤ 1000000
  ops : ∀ o a b, Ins.op o a b ∈ P → (o = 3 ∨ o = 4 → 0 ≤ a ∧ a ≤ 1000000 ∧ (o = 4 → 0 ≤ b ∧ b ≤ 1000000)) ∧ (o = 5 ∨ o = 6 ∨ o = 8 → 0 ≤ a ∧ a ≤ 900)
theorem bytes_src (W : World) (p : ByteArray) (hp : p.size ≤ 1000) : Src (Lib.bytesWorld W 5 p) (some ⟨W.heap.size, 0, none⟩) (bytesOf p) := by
  refine ⟨?_, by rw [bytesOf_length]; exact hp, fun x hx => ?_⟩
  · have h := bytes_reads W 5 p (by omega)
    rw [← bytesOf_length p] at h
    exact Kd.C_of_reads (enc := Value.int .u8) (d := (0 : Int)) (h1 := fun _ => rfl) h
  · unfold bytesOf at hx
    obtain ⟨b, _, rfl⟩ := List.mem_map.1 hx
    have := b.toNat_lt
    omega
theorem scan_new (W : World) (A : Option Addr) (n cap : Nat) : Sc (W.alloc (.cells (scells A n cap 0 false 0 false) 133)) W.heap.size A n cap 0 none :=
  ⟨0, false, 0, false, ⟨Nat.zero_le _, .inl ⟨rfl, rfl, rfl⟩⟩, trivial, ⟨blk_new _ _⟩⟩
theorem fin_pos (mt : Bool) (l : List Ins) : 0 < (fin true mt l).length := by unfold fin; simp
theorem MU.md {wr w' : World} {g : Nat} {cs : List Int} {v : Value} (h : MU ⟨wr, wr, fun _ => False⟩ w' g cs v) : MdAt w' wr.heap.size (fun _ => True) (.pointer (some ⟨g, 0, none⟩)) cs :=
  ⟨g, v, rfl, ⟨trivial, h.lt, h.hv⟩, Kd.R_mono h.row (fun k hk => ⟨trivial, hk.1⟩)⟩
theorem MsU.lower {w w4 wr : World} {v : Value} {ms : List (List Int)} (h : MsU w4 wr v ms) (hb : Below w.heap.size w w4) : MsU w wr v ms :=
  ⟨hb.trans (h.b.mono hb.size), Kd.R_lower h.row hb.size⟩
theorem MsU.new {w wr : World} (hB : Below w.heap.size w wr) : MsU w (wr.alloc (.cells #[] 60)) (.slice (some ⟨wr.heap.size, 0, none⟩) 0 0) [] := by
  refine ⟨below_alloc hB _, fun k hk => trivial, _, World.ownsRow_lit (base := w.heap.size) (e := 60) (size := 1) wr #[] 0 hB.size (by decide) rfl, Reps.none _ _⟩
section
variable {w : World} {A : Option Addr} {src : List Int} {c1 off : Nat} {p : ByteArray} {ps : List Pat} {mt : Bool} {c' : Nat} {limit : Int}
set_option maxHeartbeats 40000000 in
set_option maxRecDepth 100000 in
theorem find_any {K n : Nat} {res : List (List Int)} (hs : Src w A src) (hcap : src.length ≤ c1) (hp : ptop (bytesOf p) = some (ps, mt, c')) (hpn : p.size ≤ 1000) (ho : okps ps) (hl : (codes ps 1 2).1.length ≤ 800000) (hcp : (codes ps 1 2).2 ≤ 1000000)
    (hI : InsOk (fin true mt (.op 5 0 (-1) :: (codes ps 1 2).1))) (hoff : off ≤ src.length)
    (hf : finds src (fin true mt (.op 5 0 (-1) :: (codes ps 1 2).1)) (chr (bytesOf p) 0 == 94) limit K n off [] = some res) :
    Calls Tryf.prog 18 #[.string p, .slice A src.length c1, .int .i64 off, .int .i64 limit] w fun e w' => ∃ v, e = .returned (.tuple #[v, .nilIface]) ∧ MsU w w' v res := by
  have hmf : ∀ (fn : Fn) (first cap : Array Value) (w : World), (Instr.makeFunc fn first cap).run Tryf.prog w = .ok (.func fn first cap) w := fun _ _ _ _ => rfl
  have HS := Aside0.mk hs
  have HP := Aside0.mk hp
  have HO := Aside0.mk ho
  have HL := Aside0.mk hl
  have HCP := Aside0.mk hcp
  have HI := Aside0.mk hI
  have HF := Aside0.mk hf
  have HPN := Aside0.mk hpn
  have HC := Aside0.mk hcap
  have HOFF := Aside0.mk hoff
  have hcv := fun (W : World) => Lib.run_convert_string_bytes (P := Tryf.prog) W 9 46 5 p Tryf.underlying9 Tryf.underlying46 Tryf.underlying5
  clear hs hp ho hl hcp hI hf hpn hcap hoff
  go_enter_defers Tryf.func18, Tryf.ntmps18
  go_wp2_with fail
  refine (newScanner_any _ _ _ _).mono ?_
  rintro e w2 ⟨he, hw2⟩
  subst he hw2
  go_wp2_with fail
  have hbs := bytes_src (w.alloc (.cells #[.nilIface] 57)) p HPN.out
  have hsc := scan_new (Lib.bytesWorld (w.alloc (.cells #[.nilIface] 57)) 5 p) (some ⟨(w.alloc (.cells #[.nilIface] 57)).heap.size, 0, none⟩) p.size (grownCap (w.alloc (.cells #[.nilIface] 57)) p.size 0 5)
  rw [← bytesOf_length p] at hsc
  have hpt := parse_top hbs (below_alloc (Below.refl _ _) _) (Nat.le_refl _) hsc HP.out
  rw [World.size_alloc, bytesOf_length] at hpt
  have HPT := Aside0.mk hpt
  clear hpt hbs hsc
  refine HPT.out.mono ?_
  rintro e w3 ⟨q, he, hSq, _, hk⟩
  subst he
  generalize hW1 : Lib.bytesWorld (w.alloc (.cells #[.nilIface] 57)) 5 p = W1 at *
  have hb1 : Below w.heap.size w W1 := by
    rw [← hW1]
    exact bytes_below (below_alloc (Below.refl _ _) _) (by simp) _ _
  have he1 : W1.heap[w.heap.size]? = some (.cells #[.nilIface] 57 (0, 0)) := by
    rw [← hW1, Lib.bytesWorld_at_old _ _ _ _ (by simp)]
    exact blk_new _ _
  have hle1 := blk_lt he1
  have hb3 : Below W1.heap.size W1 w3 := hk.b
  have HCT := Aside0.mk (compile_top hk.k.1 hSq HO.out (by have := HL.out; omega) HCP.out)
  have hbm : (chr (bytesOf p) 0 == 94) = (chr (bytesOf p) 0 == 94) := rfl
  obtain ⟨vsq, hbq, _⟩ := hSq
  have HQ := Aside0.mk hbq.h
  have hqlt := blk_lt hbq.h
  have HB3 := Aside0.mk (hb1.trans (hb3.mono hb1.size))
  have he3 : w3.heap[w.heap.size]? = some (.cells #[.nilIface] 57 (0, 0)) := (hb3.block _ hle1).trans he1
  have HE3 := Aside0.mk he3
  have hS0 := scan_new
  clear hW1 he1 he3 hbq hk hb3 hb1 hle1 HPT hS0 hcv HO HCP
  go_wp2_with fail
  refine HCT.out.mono ?_
  rintro e w4 ⟨v4, he, hC⟩
  subst he
  obtain ⟨r, c2, hv4, _⟩ := Kd.R_form hC.row (fin_pos mt _)
  subst hv4
  have HROW := Aside0.mk hC.row
  have HB4 := Aside0.mk (HB3.out.trans (hC.b.mono HB3.out.size))
  have HE4 := Aside0.mk ((hC.b.block _ (blk_lt HE3.out)).trans HE3.out)
  have HQ4 := Aside0.mk ((hC.b.block _ hqlt).trans HQ.out)
  clear hC HCT HE3 HQ HB3 hqlt
  go_wp2_with fail
  have hms := MsU.new (Below.refl w4.heap.size w4)
  generalize hP : fin true mt (.op 5 0 (-1) :: (codes ps 1 2).1) = P at *
  generalize hmh : (chr (bytesOf p) 0 == 94) = mh at *
  refine wp_loop_ghost_k (fun k a wr => ∃ (sp : Nat) (v : Value), AtFind [⟨.fn (.func 25) #[.pointer (some ⟨w.heap.size, 0, none⟩)], #[]⟩] p A (some ⟨r, 0, none⟩) src.length c1 P.length c2 sp q w.heap.size limit v (fun wr => FndR w4 wr src P mh limit K k sp v res) a wr) n ⟨off, _, rfl, rfl, ⟨rfl, rfl, rfl, rfl, rfl, rfl, rfl, rfl⟩, ⟨[], hms, HF.out, Nat.zero_le _⟩⟩ ?_
  clear hP hmh hms HF HP HL HOFF
  intro gk a wr hI2 J K' hJ hK
  obtain ⟨sp, v, hI2⟩ := hI2
  obtain ⟨⟨u, rfl⟩, ms, hms, hfi, hml⟩ := hI2.open_
  have hb := hms.b
  clear hI2
  have hn := HS.out.n
  cases gk with
  | zero => exact absurd hfi (by simp [finds])
  | succ gk =>
    simp only [finds] at hfi
    by_cases hlt : sp ≤ src.length
    · rw [if_pos hlt] at hfi
      have hltI : (sp : Int) ≤ (src.length : Int) := by omega
      cases hvm : vm src P K 1 0 sp [] with
      | none => rw [hvm] at hfi; cases hfi
      | some y =>
        obtain ⟨ro, cs⟩ := y
        rw [hvm] at hfi
        simp only at hfi
        have hE : Vm.Env wr _ _ A src c1 r c2 P := ⟨HC.out, Src.below HS.out (HB4.out.trans (hb.mono HB4.out.size)), Kd.R_below HROW.out hb, HI.out.len, HI.out.sets, HI.out.ops⟩
        have hcall := vm_top (Z := fun _ => False) (u0 := wr) (wr := wr) (pc := 0) hE (Below.refl _ _) (fun k hk => hk.elim) (by omega) hlt hvm
        rw [show ((0 : Nat) : Int) = 0 from rfl] at hcall
        have HCALL := Aside0.mk hcall
        have e8 := blk_cell ((hb.block _ (blk_lt HQ4.out)).trans HQ4.out) 0
        have e9 := blk_cell ((hb.block _ (blk_lt HE4.out)).trans HE4.out) 0
        have q1 : IntKind.i64.wrap ((sp : Int) + 1) = (sp : Int) + 1 := IntWalk.i64_in _ (by omega)
        obtain ⟨vA, vc, hv⟩ := hms.sl
        subst hv
        have HMS := Aside0.mk hms
        have HB := Aside0.mk hb
        have HFI := Aside0.mk hfi
        have HML := Aside0.mk hml
        clear hE hcall hms hb hfi hml hvm
        go_upto_region 7 with (fail)
        go_cut [13, 14, 15] from 30 to 38 (fun a b c wc => a = .bool ro.isSome ∧ (∃ n : Nat, b = .int .i64 n ∧ ∀ m, ro = some m → n = m) ∧ c = .pointer (some ⟨wr.heap.size + 1, 0, none⟩) ∧ ∃ v5, MU ⟨wr, wr, fun _ => False⟩ wc (wr.heap.size + 1) cs v5)
        case first =>
          go_wp2_with fail
          refine HCALL.out.mono ?_
          rintro e w5 ⟨v5, n5, he5, hn5, h5⟩
          subst he5
          have H5 := Aside0.mk h5
          have HN5 := Aside0.mk hn5
          clear h5 hn5 HCALL
          go_wp2_with fail
          go_meet
          case rel => exact ⟨rfl, ⟨n5, rfl, HN5.out⟩, rfl, v5, H5.out⟩
        obtain ⟨rfl, ⟨n5, rfl, hn5⟩, rfl, v5, h5⟩ := hcut
        have HN5 := Aside0.mk hn5
        have e8' := pw_cell_below h5.b e8
        have H5 := Aside0.mk h5
        clear hn5 h5 HCALL e8 e9
        go_upto_if 40 with (fail)
        have HMD := Aside0.mk (MU.md H5.out)
        have hbw := H5.out.b
        have HBW := Aside0.mk hbw
        clear hbw
        go_cut [8, 12] from 41 to 49 (fun a b wc => b = .int .i64 (nextSp ro sp : Nat) ∧ MsU w4 wc a (nextMs ro cs ms) ∧ wc.cell? ⟨q, 0, none⟩ = some (.bool mh))
        case first =>
          cases ro with
          | none =>
            have HC8 := Aside0.mk e8'
            clear e8'
            go_wp2
            go_meet
            case rel => exact ⟨congrArg (Value.int .i64) (Int.natCast_succ sp).symm, HMS.out.below HBW.out, HC8.out⟩
          | some e =>
            obtain rfl := HN5.out e rfl
            have HC8 := Aside0.mk (fun (W : World) (h : Below w4.heap.size w4 W) => blk_cell ((h.block _ (blk_lt HQ4.out)).trans HQ4.out) 0)
            clear HN5 e8' HFI
            have hl3 : ms.length ≤ 100000 := by have := HML.out; omega
            by_cases hgt : sp + 1 < n5
            · have hgtI : (sp : Int) + 1 < (n5 : Int) := by omega
              have hns : nextSp (some n5) sp = n5 := by simp [nextSp, hgt]
              have HNS := Aside0.mk hns
              clear hns hgt
              go_wp2_with (at_builtin; refine MsU.list (HMS.out) rfl (.tmp 45) (.tmp 47) rfl rfl (HBW.out) (HMD.out) rfl (by rfl) hl3 ?_; intro A7 n7 c7 w7 hS7)
              go_meet
              case rel => exact ⟨by rw [HNS.out], hS7, HC8.out _ hS7.b⟩
            · have hgtI : ¬ ((sp : Int) + 1 < (n5 : Int)) := by omega
              have hns : nextSp (some n5) sp = sp + 1 := by simp [nextSp, hgt]
              have HNS := Aside0.mk hns
              clear hns hgt
              go_wp2_with (at_builtin; refine MsU.list (HMS.out) rfl (.tmp 45) (.tmp 47) rfl rfl (HBW.out) (HMD.out) rfl (by rfl) hl3 ?_; intro A7 n7 c7 w7 hS7)
              go_meet
              case rel => exact ⟨by rw [HNS.out]; exact congrArg (Value.int .i64) (Int.natCast_succ sp).symm, hS7, HC8.out _ hS7.b⟩
        obtain ⟨rfl, hS, hc8⟩ := hcut
        obtain ⟨vA2, vc2, hv2⟩ := hS.sl
        rename_i _ _ _ v8 _
        subst hv2
        have hl8 : (nextMs ro cs ms).length ≤ nextSp ro sp := by have := HML.out; have := nextMs_len ro cs ms; have := nextSp_le ro sp; omega
        have HL8 := Aside0.mk hl8
        have HS8 := Aside0.mk hS
        clear hl8 hS HMS HB HML HN5 e8' H5 HMD HBW
        generalize nextMs ro cs ms = ms2 at *
        generalize nextSp ro sp = sp2 at *
        have hfi := HFI.out
        by_cases hstop : (ms2.length : Int) = limit ∨ mh = true
        · rw [if_pos hstop] at hfi
          have hres := Option.some.inj hfi
          subst hres
          clear hfi HFI
          have HST := Aside0.mk hstop
          clear hstop
          have herr := blk_cell ((HS8.out.b.block _ (blk_lt HE4.out)).trans HE4.out) 0
          have HSF := Aside0.mk (HS8.out.lower HB4.out)
          by_cases hlim : (ms2.length : Int) = limit
          · subst hlim
            go_wp2
            refine leaves_cons (f := 25) (args := #[.pointer (some ⟨w.heap.size, 0, none⟩)]) (by simp) (by simp [go_sem]) ?_
            refine (catch_idle ⟨w.heap.size, 0, none⟩ _).mono ?_
            rintro e u' w'' ⟨rfl, rfl, rfl⟩
            simp only [Leaves, settle, results, Tryf.results18]
            simp [go_sem, herr]
            exact HSF.out
          · have hmh : mh = true := HST.out.resolve_left hlim
            subst hmh
            have hlb : ((ms2.length : Int) == limit) = false := beq_eq_false_iff_ne.mpr hlim
            clear hlim HST
            go_wp2
            refine leaves_cons (f := 25) (args := #[.pointer (some ⟨w.heap.size, 0, none⟩)]) (by simp) (by simp [go_sem]) ?_
            refine (catch_idle ⟨w.heap.size, 0, none⟩ _).mono ?_
            rintro e u' w'' ⟨rfl, rfl, rfl⟩
            simp only [Leaves, settle, results, Tryf.results18]
            simp [go_sem, herr]
            exact HSF.out
        · rw [if_neg hstop] at hfi
          have HF2 := Aside0.mk hfi
          have hlim : ¬ (ms2.length : Int) = limit := fun h => hstop (.inl h)
          have hmh : mh = false := by cases mh with | false => rfl | true => exact absurd (.inr rfl) hstop
          subst hmh
          have hlb : ((ms2.length : Int) == limit) = false := beq_eq_false_iff_ne.mpr hlim
          clear hlim hstop hfi HFI
          go_wp2
          exact Handed.intro gk (by omega) (hJ _ _ _ ⟨sp2, _, rfl, rfl, ⟨rfl, rfl, rfl, rfl, rfl, rfl, rfl, rfl⟩, ⟨ms2, HS8.out, HF2.out, HL8.out⟩⟩)
    · rw [if_neg hlt] at hfi
      have hres := Option.some.inj hfi
      subst hres
      have hltI : ¬ (sp : Int) ≤ (src.length : Int) := by omega
      have herr := blk_cell ((hms.b.block _ (blk_lt HE4.out)).trans HE4.out) 0
      have HSF := Aside0.mk (hms.lower HB4.out)
      obtain ⟨vA, vc, hv⟩ := hms.sl
      subst hv
      clear hfi hms hb hml hlt
      go_wp2
      refine leaves_cons (f := 25) (args := #[.pointer (some ⟨w.heap.size, 0, none⟩)]) (by simp) (by simp [go_sem]) ?_
      refine (catch_idle ⟨w.heap.size, 0, none⟩ _).mono ?_
      rintro e u' w'' ⟨rfl, rfl, rfl⟩
      simp only [Leaves, settle, results, Tryf.results18]
      simp [go_sem, herr]
      exact HSF.out
end
end Go.Proofs.YtpjfjfloeejgiaaFmt.Fnd
/- The matches as package impl hands them back, in memory: kinds of the printed words; the state of Matches' rounds. -/
set_option linter.unusedVariables false
set_option linter.unusedSimpArgs false
namespace Go.Proofs.YtpjfjfloeejgiaaFmt.Mtc
open Go.RowKit Go.Proofs.YtpjfjfloeejgiaaFmtW.PrintWords Go.Proofs.YtpjfjfloeejgiaaFmt.PFnPatternFirst Go.Proofs.YtpjfjfloeejgiaaFmt.Cls Go.Proofs.YtpjfjfloeejgiaaFmt.Mst Go.Proofs.YtpjfjfloeejgiaaFmt.Vm Go.Proofs.YtpjfjfloeejgiaaFmt.Fnd

/-- A match of package impl. -/
structure S37 where
  b : Int
  e : Int
  cs : List S33
  ps : List Bool
def k37 : Kd S37 := Kd.iso (Kd.pair (Kd.int .i64) (Kd.pair (Kd.int .i64) (Kd.pair (Kd.slice 33 k33) (Kd.slice 4 Kd.bool)))) (fun x : S37 => (x.b, x.e, x.cs, x.ps))
theorem k37_open {w : World} {x : S37} {cs : List Value} (h : k37.K w x cs) : ∃ A1 c1 A2 c2, cs = [.int .i64 x.b, .int .i64 x.e, .slice A1 x.cs.length c1, .slice A2 x.ps.length c2] ∧ (x.cs.length ≤ c1 ∧ k33.C w A1 x.cs.length x.cs) ∧ (x.ps.length ≤ c2 ∧ Kd.bool.C w A2 x.ps.length x.ps) := by
  obtain ⟨_, _, rfl, rfl, ⟨_, _, rfl, rfl, ⟨_, _, rfl, ⟨A1, c1, rfl, l1, g1⟩, ⟨A2, c2, rfl, l2, g2⟩⟩⟩⟩ := h
  exact ⟨A1, c1, A2, c2, rfl, ⟨l1, g1⟩, ⟨l2, g2⟩⟩
theorem k37_mkM (w : World) (base : Nat) (ok : Nat → Prop) (x : S37) {v1 v2 : Value} (g1 : k33.R 33 w base ok v1 x.cs) (g2 : Kd.bool.R 4 w base ok v2 x.ps) : k37.M w base ok x [.int .i64 x.b, .int .i64 x.e, v1, v2] :=
  ⟨[.int .i64 x.b], [.int .i64 x.e, v1, v2], rfl, rfl, ⟨[.int .i64 x.e], [v1, v2], rfl, rfl, ⟨[v1], [v2], rfl, ⟨v1, rfl, g1⟩, ⟨v2, rfl, g2⟩⟩⟩⟩
theorem info33 : (Tryf.prog.info? 33).map (fun i => (i.zero, i.size, i.bytes)) = some (some (.agg #[.int .i64 0, .int .i64 0]), 2, 16) := by kernel_rfl
theorem info37 : (Tryf.prog.info? 37).map (fun i => (i.zero, i.size, i.bytes)) = some (some (.agg #[.int .i64 0, .int .i64 0, .slice none 0 0, .slice none 0 0]), 4, 64) := by kernel_rfl

/-- A row stays where another block is written, told apart by its type. -/
theorem R_apart {α : Type} {d : Kd α} {e base : Nat} {ok : Nat → Prop} {w w1 : World} {v : Value} {xs : List α} (h : d.R e w base ok v xs) {S : Nat → Prop} (hk : Kept w w1 S)
    (hS : ∀ k, S k → k < w.heap.size → ∃ q cells, w.heap[k]? = some (.cells cells q (0, 0)) ∧ q ∉ e :: d.E) : d.R e w1 base ok v xs := by
  refine Kd.R_mono (Kd.R_kept (Kd.R_bound h) hk ?_) (fun k hk => hk.1)
  rintro k ⟨_, _, hlt, q, hq, cells, hc⟩ hSk
  obtain ⟨q', cells', hc', hne⟩ := hS k hSk hlt
  rw [hc] at hc'
  cases hc'
  exact hne hq
/-- The block that holds a row is of the row's type. -/
theorem R_block {α : Type} {d : Kd α} {e base : Nat} {ok : Nat → Prop} {w : World} {v : Value} {xs : List α} (h : d.R e w base ok v xs) {k : Nat} (hk : v.ownBlock = some k) : ∃ cells, w.heap[k]? = some (.cells cells e (0, 0)) := by
  obtain ⟨inner, ho⟩ := Kd.R_own h
  exact own_typed ho k hk

/-- The match being made: its variable, its rows. -/
structure OwnU (W wr : World) (g : Nat) (b e : Int) (cs : List S33) (ps : List Bool) (v1 v2 : Value) : Prop where
  bl : Below W.heap.size W wr
  lt : W.heap.size ≤ g
  hv : wr.heap[g]? = some (.cells #[.int .i64 b, .int .i64 e, v1, v2] 37 (0, 0))
  r1 : k33.R 33 wr W.heap.size (fun _ => True) v1 cs
  r2 : Kd.bool.R 4 wr W.heap.size (fun _ => True) v2 ps
section
variable {W wr w1 : World} {g : Nat} {b e : Int} {cs : List S33} {ps : List Bool} {v1 v2 : Value}
variable {ops : Array Oper} {o : Oper} {a : Act} {Q : Exit → Act → World → Prop} {K : Act → World → Prop} {rest : List Oper}
theorem OwnU.drewN (h : OwnU W wr g b e cs ps v1 v2) (m : Nat) : OwnU W (wr.drewN m) g b e cs ps v1 v2 := ⟨pw_below_drewN h.bl m, h.lt, h.hv, Kd.R_drewN h.r1 m, Kd.R_drewN h.r2 m⟩
theorem OwnU.below (h : OwnU W wr g b e cs ps v1 v2) (hb : Below wr.heap.size wr w1) : OwnU W w1 g b e cs ps v1 v2 :=
  ⟨h.bl.trans (hb.mono h.bl.size), h.lt, (hb.block _ (blk_lt h.hv)).trans h.hv, Kd.R_below h.r1 hb, Kd.R_below h.r2 hb⟩
theorem OwnU.alloc (h : OwnU W wr g b e cs ps v1 v2) (ob : Obj) : OwnU W (wr.alloc ob) g b e cs ps v1 v2 := h.below (below_alloc (Below.refl _ _) _)
theorem OwnU.sl (h : OwnU W wr g b e cs ps v1 v2) : ∃ A1 c1 A2 c2, v1 = .slice A1 cs.length c1 ∧ v2 = .slice A2 ps.length c2 := by
  obtain ⟨A1, c1, h1⟩ := Kd.R_slice h.r1
  obtain ⟨A2, c2, h2⟩ := Kd.R_slice h.r2
  exact ⟨A1, c1, A2, c2, h1, h2⟩
/-- A store into a block of another type, above W. -/
theorem OwnU.far (h : OwnU W wr g b e cs ps v1 v2) {p : Addr} {q : Nat} {cells : Array Value} (hp : W.heap.size ≤ p.block) (hne : p.block ≠ g) (hq : wr.heap[p.block]? = some (.cells cells q (0, 0))) (h33 : q ≠ 33) (h4 : q ≠ 4) (u : Value) : OwnU W (wr.setCell p u) g b e cs ps v1 v2 := by
  have hk : Kept wr (wr.setCell p u) (fun k => k = p.block) := (Kept.refl wr (fun k => k = p.block)).setCell (p := p) (.inl rfl) u
  refine ⟨h.bl.setCell hp u, h.lt, blk_far h.hv (Ne.symm hne) _, R_apart h.r1 hk ?_, R_apart h.r2 hk ?_⟩
  · rintro k rfl _
    refine ⟨q, cells, hq, ?_⟩
    intro hm
    have : q ∈ [33] := hm
    simp at this
    exact h33 this
  · rintro k rfl _
    refine ⟨q, cells, hq, ?_⟩
    intro hm
    have : q ∈ [4] := hm
    simp at this
    exact h4 this
theorem OwnU.after1 (h : OwnU W wr g b e cs ps v1 v2) {v' : Value} {cs' : List S33} (hR : k33.R 33 w1 W.heap.size (fun _ => True) v' cs') (hb : Below W.heap.size W w1) (hg : wr.grownBy w1 v1.ownBlock) :
    ∃ A1 n1 c1, v' = .slice A1 n1 c1 ∧ OwnU W (w1.setCell ⟨g, 2, none⟩ v') g b e cs' ps v' v2 ∧ w1.cell? ⟨g, 2, none⟩ = some v1 ∧ w1.frozen? ⟨g, 2, none⟩ = false := by
  obtain ⟨A1, c1, rfl⟩ := Kd.R_slice hR
  have hgs : some g ≠ v1.ownBlock := by
    intro e'
    obtain ⟨cells, hc⟩ := R_block h.r1 e'.symm
    have := h.hv.symm.trans hc
    cases this
  have hv1 : w1.heap[g]? = some (.cells #[.int .i64 b, .int .i64 e, v1, v2] 37 (0, 0)) := blk_grown h.hv hg hgs
  have hk : Kept wr w1 (fun k => v1.ownBlock = some k) := Kept.of_grown hg (Kept.refl wr _) (fun k hk => .inl hk)
  have h2 : Kd.bool.R 4 w1 W.heap.size (fun _ => True) v2 ps := R_apart h.r2 hk (fun k hk _ => by
    obtain ⟨cells, hc⟩ := R_block h.r1 hk
    exact ⟨33, cells, hc, by simp [show Kd.bool.E = [] from rfl]⟩)
  have hkg : Kept w1 (w1.setCell ⟨g, 2, none⟩ (.slice A1 cs'.length c1)) (fun k => k = g) := (Kept.refl w1 (fun k => k = g)).setCell (p := ⟨g, 2, none⟩) (.inl rfl) _
  refine ⟨_, _, _, rfl, ⟨below_set hb h.lt, h.lt, blk_set hv1 2 _, R_apart hR hkg ?_, R_apart h2 hkg ?_⟩, blk_cell hv1 2, blk_frozen hv1 2⟩
  · rintro k rfl _
    exact ⟨37, _, hv1, by simp [show k33.E = [] from rfl]⟩
  · rintro k rfl _
    exact ⟨37, _, hv1, by simp [show Kd.bool.E = [] from rfl]⟩
theorem OwnU.after2 (h : OwnU W wr g b e cs ps v1 v2) {v' : Value} {ps' : List Bool} (hR : Kd.bool.R 4 w1 W.heap.size (fun _ => True) v' ps') (hb : Below W.heap.size W w1) (hg : wr.grownBy w1 v2.ownBlock) :
    ∃ A1 n1 c1, v' = .slice A1 n1 c1 ∧ OwnU W (w1.setCell ⟨g, 3, none⟩ v') g b e cs ps' v1 v' ∧ w1.cell? ⟨g, 3, none⟩ = some v2 ∧ w1.frozen? ⟨g, 3, none⟩ = false := by
  obtain ⟨A1, c1, rfl⟩ := Kd.R_slice hR
  have hgs : some g ≠ v2.ownBlock := by
    intro e'
    obtain ⟨cells, hc⟩ := R_block h.r2 e'.symm
    have := h.hv.symm.trans hc
    cases this
  have hv1 : w1.heap[g]? = some (.cells #[.int .i64 b, .int .i64 e, v1, v2] 37 (0, 0)) := blk_grown h.hv hg hgs
  have hk : Kept wr w1 (fun k => v2.ownBlock = some k) := Kept.of_grown hg (Kept.refl wr _) (fun k hk => .inl hk)
  have h2 : k33.R 33 w1 W.heap.size (fun _ => True) v1 cs := R_apart h.r1 hk (fun k hk _ => by
    obtain ⟨cells, hc⟩ := R_block h.r2 hk
    exact ⟨4, cells, hc, by simp [show k33.E = [] from rfl]⟩)
  have hkg : Kept w1 (w1.setCell ⟨g, 3, none⟩ (.slice A1 ps'.length c1)) (fun k => k = g) := (Kept.refl w1 (fun k => k = g)).setCell (p := ⟨g, 3, none⟩) (.inl rfl) _
  refine ⟨_, _, _, rfl, ⟨below_set hb h.lt, h.lt, blk_set hv1 3 _, R_apart h2 hkg ?_, R_apart hR hkg ?_⟩, blk_cell hv1 3, blk_frozen hv1 3⟩
  · rintro k rfl _
    exact ⟨37, _, hv1, by simp [show k33.E = [] from rfl]⟩
  · rintro k rfl _
    exact ⟨37, _, hv1, by simp [show Kd.bool.E = [] from rfl]⟩
/-- append(own.Captures, c). -/
theorem OwnU.list1 (h : OwnU W wr g b e cs ps v1 v2) (hgd : o.guard = none) (s y : Operand) (ho : o.op = .call { callee := .builtin .append, args := #[s, y], argTypes := #[34, 34] })
    (hs : a.eval s = v1) {N : Nat} (hy : a.eval y = .slice (some ⟨N, 0, none⟩) 1 1) (hN : wr.heap.size = N) (hl : cs.length ≤ 100000) (x : S33)
    (hK : ∀ A1 n1 c1 w1, OwnU W (w1.setCell ⟨g, 2, none⟩ (.slice A1 n1 c1)) g b e (cs ++ [x]) ps (.slice A1 n1 c1) v2 → w1.cell? ⟨g, 2, none⟩ = some v1 → w1.frozen? ⟨g, 2, none⟩ = false → wpList Tryf.prog ops Q rest (a.put o.dst (.slice A1 n1 c1)) w1) :
    wpList Tryf.prog ops Q (o :: rest) a (wr.alloc (.cells #[.int .i64 x.f0, .int .i64 x.f1] 33)) := by
  subst hN
  refine Kd.R_append (P := Tryf.prog) k33 (w0 := W) W.heap.size hgd s y 34 33 (.agg #[.int .i64 0, .int .i64 0]) 16 ho Tryf.underlying34 info33 rfl (by decide) (by decide) v1 cs x [.int .i64 x.f0, .int .i64 x.f1] (fun _ => True) (fun _ => False) hs hy
    (k33_mkM _ _ _ _) (fun k hk => hk.elim) (fun k hk => trivial) h.r1 h.bl h.bl.size (by omega) ?_
  intro v' w1 hR hb hg _
  obtain ⟨A1, n1, c1, rfl, k1, k2, k3⟩ := h.after1 hR hb hg
  exact hK _ _ _ _ k1 k2 k3
/-- append(own.Places, p), as a step of a region that draws. -/
theorem OwnU.step2 (h : OwnU W wr g b e cs ps v1 v2) (hw : Region.wanted o (yielded ops a.tmps) = true) (s y : Operand) (ho : o.op = .call { callee := .builtin .append, args := #[s, y], argTypes := #[35, 35] })
    (hs : a.eval s = v2) (hy : a.eval y = .slice (some ⟨wr.heap.size, 0, none⟩) 1 1) (hl : ps.length ≤ 100000) (x : Bool)
    (hK : ∀ A1 n1 c1 w1, OwnU W (w1.setCell ⟨g, 3, none⟩ (.slice A1 n1 c1)) g b e cs (ps ++ [x]) v1 (.slice A1 n1 c1) → w1.cell? ⟨g, 3, none⟩ = some v2 → w1.frozen? ⟨g, 3, none⟩ = false → K (a.put o.dst (.slice A1 n1 c1)) w1) :
    if Region.wanted o (yielded ops a.tmps) = true then Oper.wp Tryf.prog o a (wr.alloc (.cells #[.bool x] 4)) K Q else K (a.put o.dst undef) (wr.alloc (.cells #[.bool x] 4)) := by
  refine Kd.R_append_step (P := Tryf.prog) Kd.bool (w0 := W) W.heap.size hw s y 35 4 (.bool false) 1 ho Tryf.underlying35 info4 rfl (by decide) (by decide) v2 ps x [.bool x] (fun _ => True) (fun _ => False) hs hy
    rfl (fun k hk => hk.elim) (fun k hk => trivial) h.r2 h.bl h.bl.size (by omega) ?_
  intro v' w1 hR hb hg _
  obtain ⟨A1, n1, c1, rfl, k1, k2, k3⟩ := h.after2 hR hb hg
  exact hK _ _ _ _ k1 k2 k3
end
/-- The matches made so far. -/
structure OutU (W wr : World) (v : Value) (ms : List S37) : Prop where
  b : Below W.heap.size W wr
  row : k37.R 37 wr W.heap.size (fun _ => True) v ms
section
variable {W wr w1 : World} {v : Value} {ms : List S37}
variable {ops : Array Oper} {o : Oper} {a : Act} {Q : Exit → Act → World → Prop} {rest : List Oper}
theorem OutU.below (h : OutU W wr v ms) (hb : Below wr.heap.size wr w1) : OutU W w1 v ms := ⟨h.b.trans (hb.mono h.b.size), Kd.R_below h.row hb⟩
theorem OutU.sl (h : OutU W wr v ms) : ∃ A c, v = .slice A ms.length c := Kd.R_slice h.row
theorem OutU.list (h : OutU W wr v ms) (hgd : o.guard = none) (s y : Operand) (ho : o.op = .call { callee := .builtin .append, args := #[s, y], argTypes := #[25, 25] })
    (hs : a.eval s = v) {x : S37} {v1 v2 : Value} {N : Nat} (hb : Below wr.heap.size wr w1) (r1 : k33.R 33 w1 wr.heap.size (fun _ => True) v1 x.cs) (r2 : Kd.bool.R 4 w1 wr.heap.size (fun _ => True) v2 x.ps) (hy : a.eval y = .slice (some ⟨N, 0, none⟩) 1 1) (hN : w1.heap.size = N) (hl : ms.length ≤ 100000)
    (hK : ∀ A1 n1 c1 w2, OutU W w2 (.slice A1 n1 c1) (ms ++ [x]) → wpList Tryf.prog ops Q rest (a.put o.dst (.slice A1 n1 c1)) w2) :
    wpList Tryf.prog ops Q (o :: rest) a (w1.alloc (.cells #[.int .i64 x.b, .int .i64 x.e, v1, v2] 37)) := by
  subst hN
  have h1 := h.below hb
  refine Kd.R_append (P := Tryf.prog) k37 (w0 := W) W.heap.size hgd s y 25 37 (.agg #[.int .i64 0, .int .i64 0, .slice none 0 0, .slice none 0 0]) 64 ho Tryf.underlying25 info37 rfl (by decide) (by decide) v ms x [.int .i64 x.b, .int .i64 x.e, v1, v2] (fun _ => True) (fun k => wr.heap.size ≤ k) hs hy
    (k37_mkM _ _ _ _ (Kd.R_mono (Kd.R_lower (Kd.R_bound r1) h.b.size) (fun k hk => hk.2.1)) (Kd.R_mono (Kd.R_lower (Kd.R_bound r2) h.b.size) (fun k hk => hk.2.1))) (fun k hk => ⟨trivial, fun e => ?_⟩) (fun _ _ => trivial) h1.row h1.b h1.b.size (by omega) ?_
  · have := Kd.R_lt h.row k e.symm
    omega
  · intro v2 w2 hR hb2 hg _
    obtain ⟨A1, c1, rfl⟩ := Kd.R_slice hR
    exact hK _ _ _ _ ⟨hb2, hR⟩
end
/-- A capture of a match, and whether it is a place. -/
def capAt (cs : List Int) (j : Nat) : S33 := ⟨cs.getD (2 + 2 * j) 0 / 2, if cs.getD (2 + 2 * j) 0 % 2 = 1 then 0 else cs.getD (3 + 2 * j) 0 / 2⟩
def plAt (cs : List Int) (j : Nat) : Bool := cs.getD (2 + 2 * j) 0 % 2 == 1
def toM (cs : List Int) : S37 := ⟨cs.getD 0 0 / 2, cs.getD 1 0 / 2, (List.range ((cs.length - 2) / 2)).map (capAt cs), (List.range ((cs.length - 2) / 2)).map (plAt cs)⟩
end Go.Proofs.YtpjfjfloeejgiaaFmt.Mtc
/- Matches of package impl: the walk. -/
set_option linter.unusedVariables false
set_option linter.unusedSimpArgs false
namespace Go.Proofs.YtpjfjfloeejgiaaFmt.Mtc
open Go.RowKit Go.Proofs.YtpjfjfloeejgiaaFmtW.PrintWords Go.Proofs.YtpjfjfloeejgiaaFmt.PFnPatternFirst Go.Proofs.YtpjfjfloeejgiaaFmt.Scan Go.Proofs.YtpjfjfloeejgiaaFmt.Cls Go.Proofs.YtpjfjfloeejgiaaFmt.Mst Go.Proofs.YtpjfjfloeejgiaaFmt.Vm Go.Proofs.YtpjfjfloeejgiaaFmt.Fnd

/-- At the head of Matches' loop. -/
def AtOut (A : Option Addr) (n c i : Nat) (v : Value) (R : World → Prop) (a : Act) (w : World) : Prop :=
  a.tmps.size = 83 ∧ a.defers = [] ∧ (a.tmps.getD 12 undef = v ∧ a.tmps.getD 30 undef = .slice A n c ∧ a.tmps.getD 31 undef = .int .i64 (n : Int) ∧ a.tmps.getD 32 undef = .int .i64 (i : Int)) ∧ R w
set_option maxRecDepth 100000 in
theorem AtOut.open_ {A : Option Addr} {n c i : Nat} {v : Value} {R : World → Prop} {a : Act} {w : World} (h : AtOut A n c i v R a w) : (∃ u : Nat → Value, a = ⟨#[u 0, u 1, u 2, u 3, u 4, u 5, u 6, u 7, u 8, u 9, u 10, u 11, v, u 13, u 14, u 15, u 16, u 17, u 18, u 19, u 20, u 21, u 22, u 23, u 24, u 25, u 26, u 27, u 28, u 29, .slice A n c, .int .i64 (n : Int), .int .i64 (i : Int), u 33, u 34, u 35, u 36, u 37, u 38, u 39, u 40, u 41, u 42, u 43, u 44, u 45, u 46, u 47, u 48, u 49, u 50, u 51, u 52, u 53, u 54, u 55, u 56, u 57, u 58, u 59, u 60, u 61, u 62, u 63, u 64, u 65, u 66, u 67, u 68, u 69, u 70, u 71, u 72, u 73, u 74, u 75, u 76, u 77, u 78, u 79, u 80, u 81, u 82], []⟩) ∧ R w := by
  obtain ⟨tmps, defers⟩ := a
  obtain ⟨hs, hd, ⟨h12, h30, h31, h32⟩, hR⟩ := h
  refine ⟨⟨fun i => tmps.getD i undef, ?_⟩, hR⟩
  have hd' : defers = [] := hd
  subst hd'
  have k12 : tmps.getD 12 undef = v := h12
  have k30 : tmps.getD 30 undef = .slice A n c := h30
  have k31 : tmps.getD 31 undef = .int .i64 (n : Int) := h31
  have k32 : tmps.getD 32 undef = .int .i64 (i : Int) := h32
  have h := frame_lit 83 tmps hs
  have h2 : ((List.range 83).map (fun i => tmps.getD i undef)).toArray = #[tmps.getD 0 undef, tmps.getD 1 undef, tmps.getD 2 undef, tmps.getD 3 undef, tmps.getD 4 undef, tmps.getD 5 undef, tmps.getD 6 undef, tmps.getD 7 undef, tmps.getD 8 undef, tmps.getD 9 undef, tmps.getD 10 undef, tmps.getD 11 undef, tmps.getD 12 undef, tmps.getD 13 undef, tmps.getD 14 undef, tmps.getD 15 undef, tmps.getD 16 undef, tmps.getD 17 undef, tmps.getD 18 undef, tmps.getD 19 undef, tmps.getD 20 undef, tmps.getD 21 undef, tmps.getD 22 undef, tmps.getD 23 undef, tmps.getD 24 undef, tmps.getD 25 undef, tmps.getD 26 undef, tmps.getD 27 undef, tmps.getD 28 undef, tmps.getD 29 undef, tmps.getD 30 undef, tmps.getD 31 undef, tmps.getD 32 undef, tmps.getD 33 undef, tmps.getD 34 undef, tmps.getD 35 undef, tmps.getD 36 undef, tmps.getD 37 undef, tmps.getD 38 undef, tmps.getD 39 undef, tmps.getD 40 undef, tmps.getD 41 undef, tmps.getD 42 undef, tmps.getD 43 undef, tmps.getD 44 undef, tmps.getD 45 undef, tmps.getD 46 undef, tmps.getD 47 undef, tmps.getD 48 undef, tmps.getD 49 undef, tmps.getD 50 undef, tmps.getD 51 undef, tmps.getD 52 undef, tmps.getD 53 undef, tmps.getD 54 undef, tmps.getD 55 undef, tmps.getD 56 undef, tmps.getD 57 undef, tmps.getD 58 undef, tmps.getD 59 undef, tmps.getD 60 undef, tmps.getD 61 undef, tmps.getD 62 undef, tmps.getD 63 undef, tmps.getD 64 undef, tmps.getD 65 undef, tmps.getD 66 undef, tmps.getD 67 undef, tmps.getD 68 undef, tmps.getD 69 undef, tmps.getD 70 undef, tmps.getD 71 undef, tmps.getD 72 undef, tmps.getD 73 undef, tmps.getD 74 undef, tmps.getD 75 undef, tmps.getD 76 undef, tmps.getD 77 undef, tmps.getD 78 undef, tmps.getD 79 undef, tmps.getD 80 undef, tmps.getD 81 undef, tmps.getD 82 undef] := rfl
  rw [h2] at h
  rw [k12, k30, k31, k32] at h
  exact congrArg (fun t => Act.mk t _) h
/-- At the head of its inner loop. -/
def AtIn (A : Option Addr) (n c i g o k : Nat) (v : Value) (R : World → Prop) (a : Act) (w : World) : Prop :=
  a.tmps.size = 83 ∧ a.defers = [] ∧ (a.tmps.getD 12 undef = v ∧ a.tmps.getD 14 undef = .pointer (some ⟨g, 0, none⟩) ∧ a.tmps.getD 15 undef = .pointer (some ⟨o, 0, none⟩) ∧ a.tmps.getD 16 undef = .int .i64 (k : Int) ∧ a.tmps.getD 30 undef = .slice A n c ∧ a.tmps.getD 31 undef = .int .i64 (n : Int) ∧ a.tmps.getD 32 undef = .int .i64 (i : Int)) ∧ R w
set_option maxRecDepth 100000 in
theorem AtIn.open_ {A : Option Addr} {n c i g o k : Nat} {v : Value} {R : World → Prop} {a : Act} {w : World} (h : AtIn A n c i g o k v R a w) : (∃ u : Nat → Value, a = ⟨#[u 0, u 1, u 2, u 3, u 4, u 5, u 6, u 7, u 8, u 9, u 10, u 11, v, u 13, .pointer (some ⟨g, 0, none⟩), .pointer (some ⟨o, 0, none⟩), .int .i64 (k : Int), u 17, u 18, u 19, u 20, u 21, u 22, u 23, u 24, u 25, u 26, u 27, u 28, u 29, .slice A n c, .int .i64 (n : Int), .int .i64 (i : Int), u 33, u 34, u 35, u 36, u 37, u 38, u 39, u 40, u 41, u 42, u 43, u 44, u 45, u 46, u 47, u 48, u 49, u 50, u 51, u 52, u 53, u 54, u 55, u 56, u 57, u 58, u 59, u 60, u 61, u 62, u 63, u 64, u 65, u 66, u 67, u 68, u 69, u 70, u 71, u 72, u 73, u 74, u 75, u 76, u 77, u 78, u 79, u 80, u 81, u 82], []⟩) ∧ R w := by
  obtain ⟨tmps, defers⟩ := a
  obtain ⟨hs, hd, ⟨h12, h14, h15, h16, h30, h31, h32⟩, hR⟩ := h
  refine ⟨⟨fun i => tmps.getD i undef, ?_⟩, hR⟩
  have hd' : defers = [] := hd
  subst hd'
  have k12 : tmps.getD 12 undef = v := h12
  have k14 : tmps.getD 14 undef = .pointer (some ⟨g, 0, none⟩) := h14
  have k15 : tmps.getD 15 undef = .pointer (some ⟨o, 0, none⟩) := h15
  have k16 : tmps.getD 16 undef = .int .i64 (k : Int) := h16
  have k30 : tmps.getD 30 undef = .slice A n c := h30
  have k31 : tmps.getD 31 undef = .int .i64 (n : Int) := h31
  have k32 : tmps.getD 32 undef = .int .i64 (i : Int) := h32
  have h := frame_lit 83 tmps hs
  have h2 : ((List.range 83).map (fun i => tmps.getD i undef)).toArray = #[tmps.getD 0 undef, tmps.getD 1 undef, tmps.getD 2 undef, tmps.getD 3 undef, tmps.getD 4 undef, tmps.getD 5 undef, tmps.getD 6 undef, tmps.getD 7 undef, tmps.getD 8 undef, tmps.getD 9 undef, tmps.getD 10 undef, tmps.getD 11 undef, tmps.getD 12 undef, tmps.getD 13 undef, tmps.getD 14 undef, tmps.getD 15 undef, tmps.getD 16 undef, tmps.getD 17 undef, tmps.getD 18 undef, tmps.getD 19 undef, tmps.getD 20 undef, tmps.getD 21 undef, tmps.getD 22 undef, tmps.getD 23 undef, tmps.getD 24 undef, tmps.getD 25 undef, tmps.getD 26 undef, tmps.getD 27 undef, tmps.getD 28 undef, tmps.getD 29 undef, tmps.getD 30 undef, tmps.getD 31 undef, tmps.getD 32 undef, tmps.getD 33 undef, tmps.getD 34 undef, tmps.getD 35 undef, tmps.getD 36 undef, tmps.getD 37 undef, tmps.getD 38 undef, tmps.getD 39 undef, tmps.getD 40 undef, tmps.getD 41 undef, tmps.getD 42 undef, tmps.getD 43 undef, tmps.getD 44 undef, tmps.getD 45 undef, tmps.getD 46 undef, tmps.getD 47 undef, tmps.getD 48 undef, tmps.getD 49 undef, tmps.getD 50 undef, tmps.getD 51 undef, tmps.getD 52 undef, tmps.getD 53 undef, tmps.getD 54 undef, tmps.getD 55 undef, tmps.getD 56 undef, tmps.getD 57 undef, tmps.getD 58 undef, tmps.getD 59 undef, tmps.getD 60 undef, tmps.getD 61 undef, tmps.getD 62 undef, tmps.getD 63 undef, tmps.getD 64 undef, tmps.getD 65 undef, tmps.getD 66 undef, tmps.getD 67 undef, tmps.getD 68 undef, tmps.getD 69 undef, tmps.getD 70 undef, tmps.getD 71 undef, tmps.getD 72 undef, tmps.getD 73 undef, tmps.getD 74 undef, tmps.getD 75 undef, tmps.getD 76 undef, tmps.getD 77 undef, tmps.getD 78 undef, tmps.getD 79 undef, tmps.getD 80 undef, tmps.getD 81 undef, tmps.getD 82 undef] := rfl
  rw [h2] at h
  rw [k12, k14, k15, k16, k30, k31, k32] at h
  exact congrArg (fun t => Act.mk t _) h
/-- Captures that Matches can read. -/
structure MtOk (cs : List Int) : Prop where
  few : Few cs
  two : 2 ≤ cs.length
  even : cs.length % 2 = 0
theorem md_mu {W0 wr : World} {u : Value} {cs : List Int} {ok : Nat → Prop} (h : MdAt wr W0.heap.size ok u cs) (hb : Below W0.heap.size W0 wr) : ∃ g s, u = .pointer (some ⟨g, 0, none⟩) ∧ MU ⟨W0, W0, fun _ => False⟩ wr g cs s := by
  obtain ⟨g, s, rfl, h1, h2⟩ := h
  exact ⟨g, s, rfl, ⟨hb, h1.base, h1.h, Kd.R_mono h2 (fun k hk => ⟨hk.2, fun hf => hf⟩), fun k hk => hk.elim⟩⟩
theorem MU.step {W0 wr w1 : World} {g : Nat} {cs : List Int} {s : Value} (h : MU ⟨W0, W0, fun _ => False⟩ wr g cs s) (hb : Below wr.heap.size wr w1) : MU ⟨W0, W0, fun _ => False⟩ w1 g cs s :=
  ⟨h.b.trans (hb.mono h.b.size), h.lt, (hb.block _ (blk_lt h.hv)).trans h.hv, Kd.R_below h.row hb, fun k hk => hk.elim⟩
/-- What a capture is, read as a number. -/
theorem few_nat {cs : List Int} (h : Few cs) (i : Nat) : ∃ x : Nat, cs.getD i 0 = x ∧ x < 4294967296 ∧ x ≤ 100000 := by
  have := h.getD i
  exact ⟨(cs.getD i 0).toNat, by omega, by omega, by omega⟩
/-- Behind i rounds. -/
structure OutR (W0 W1 wr : World) (v1 v : Value) (res : List (List Int)) (i : Nat) : Prop where
  ms : MsU W0 W1 v1 res
  out : OutU W1 wr v ((res.take i).map toM)
structure InR (W0 WI wr : World) (g o : Nat) (bq eq : Int) (cs : List Int) (j : Nat) : Prop where
  mu : ∃ s, MU ⟨W0, W0, fun _ => False⟩ wr g cs s
  own : ∃ v1 v2, OwnU WI wr o bq eq ((List.range j).map (capAt cs)) ((List.range j).map (plAt cs)) v1 v2
theorem OutU.new {w wr : World} (hB : Below w.heap.size w wr) : OutU w (wr.alloc (.cells #[] 37)) (.slice (some ⟨wr.heap.size, 0, none⟩) 0 0) [] := by
  refine ⟨below_alloc hB _, fun k hk => trivial, _, World.ownsRow_lit (base := w.heap.size) (e := 37) (size := 4) wr #[] 0 hB.size (by decide) rfl, Reps.none _ _⟩
theorem OutU.lower {w w4 wr : World} {v : Value} {ms : List S37} (h : OutU w4 wr v ms) (hb : Below w.heap.size w w4) : OutU w wr v ms :=
  ⟨hb.trans (h.b.mono hb.size), Kd.R_lower h.row hb.size⟩
/-- The match being made, as it is made. -/
theorem OwnU.new (W : World) (b e : Int) : OwnU W (((W.alloc (.cells #[] 33)).alloc (.cells #[] 4)).alloc (.cells #[.int .i64 b, .int .i64 e, .slice (some ⟨W.heap.size, 0, none⟩) 0 0, .slice (some ⟨W.heap.size + 1, 0, none⟩) 0 0] 37)) (W.heap.size + 2) b e [] [] (.slice (some ⟨W.heap.size, 0, none⟩) 0 0) (.slice (some ⟨W.heap.size + 1, 0, none⟩) 0 0) := by
  have h1 : k33.R 33 (W.alloc (.cells #[] 33)) W.heap.size (fun _ => True) (.slice (some ⟨W.heap.size, 0, none⟩) 0 0) [] :=
    ⟨fun k hk => trivial, _, World.ownsRow_lit (base := W.heap.size) (e := 33) (size := 2) W #[] 0 (Nat.le_refl _) (by decide) rfl, Reps.none _ _⟩
  have hs : (W.alloc (.cells #[] 33)).heap.size = W.heap.size + 1 := by simp
  have h2 : Kd.bool.R 4 ((W.alloc (.cells #[] 33)).alloc (.cells #[] 4)) W.heap.size (fun _ => True) (.slice (some ⟨W.heap.size + 1, 0, none⟩) 0 0) [] := by
    rw [← hs]
    exact ⟨fun k hk => trivial, _, World.ownsRow_lit (base := W.heap.size) (e := 4) (size := 1) (W.alloc (.cells #[] 33)) #[] 0 (by simp) (by decide) rfl, Reps.none _ _⟩
  refine ⟨below_alloc (below_alloc (below_alloc (Below.refl _ _) _) _) _, by omega, ?_, Kd.R_alloc (Kd.R_alloc h1 _) _, Kd.R_alloc h2 _⟩
  have := blk_new ((W.alloc (.cells #[] 33)).alloc (.cells #[] 4)) (.cells #[.int .i64 b, .int .i64 e, .slice (some ⟨W.heap.size, 0, none⟩) 0 0, .slice (some ⟨W.heap.size + 1, 0, none⟩) 0 0] 37)
  rw [World.size_alloc, hs] at this
  exact this
section
variable {w : World} {p s : ByteArray} {off : Nat} {limit : Int}
set_option maxHeartbeats 40000000 in
set_option maxRecDepth 100000 in
theorem matches_any {res : List (List Int)} (hF : ∀ (W : World) (A : Option Addr) (c1 : Nat), Src W A (bytesOf s) → (bytesOf s).length ≤ c1 → Calls Tryf.prog 18 #[.string p, .slice A (bytesOf s).length c1, .int .i64 off, .int .i64 limit] W fun e w' => ∃ v, e = .returned (.tuple #[v, .nilIface]) ∧ MsU W w' v res)
    (hs : s.size ≤ 1000) (hres : ∀ cs ∈ res, MtOk cs) (hn : res.length ≤ 100000) :
    Calls Tryf.prog 9 #[.string p, .string s, .int .i64 off, .int .i64 limit] w fun e w' => ∃ v, e = .returned (.tuple #[v, .bool true]) ∧ OutU w w' v (res.map toM) := by
  have HF := Aside0.mk hF
  have HS := Aside0.mk hs
  have HR := Aside0.mk hres
  have HN := Aside0.mk hn
  have hcv := fun (W : World) => Lib.run_convert_string_bytes (P := Tryf.prog) W 9 46 5 s Tryf.underlying9 Tryf.underlying46 Tryf.underlying5
  clear hF hs hres hn
  go_enter Tryf.func9, Tryf.ntmps9
  go_wp2_with fail
  have hb0 := bytes_below (Below.refl w.heap.size w) (Nat.le_refl _) 5 s
  have hcall := HF.out _ _ (grownCap w s.size 0 5) (bytes_src w s HS.out) (by rw [bytesOf_length]; exact grownCap_ge _ _ _ _)
  rw [bytesOf_length] at hcall
  have HB0 := Aside0.mk hb0
  refine hcall.mono ?_
  rintro e w1 ⟨v, he, hm⟩
  subst he
  obtain ⟨A, c, hv⟩ := hm.sl
  subst hv
  have HB1 := Aside0.mk (HB0.out.trans (hm.b.mono HB0.out.size))
  have HM := Aside0.mk hm
  clear hcall hm hb0 hcv HF
  go_wp2_with fail
  refine wp_loop_ghost_k (fun k a wr => ∃ (i : Nat) (v : Value), i + k = res.length ∧ AtOut A res.length c i v (fun wr => OutU w1 wr v ((res.take i).map toM)) a wr) res.length ⟨0, _, by omega, rfl, rfl, ⟨rfl, rfl, rfl, rfl⟩, OutU.new (Below.refl w1.heap.size w1)⟩ ?_
  intro gk a wr hI J K hJ hK
  obtain ⟨i, v, hik, hI⟩ := hI
  obtain ⟨⟨u, rfl⟩, ho⟩ := hI.open_
  clear hI
  have HO := Aside0.mk ho
  obtain ⟨vA, vc, hv⟩ := ho.sl
  generalize hvl : ((res.take i).map toM).length = vl at hv
  subst hv
  clear ho
  cases gk with
  | zero =>
    have hii : i = res.length := by omega
    have hltI : ¬ ((i : Int) < (res.length : Int)) := by omega
    have HII := Aside0.mk hii
    clear hii hik
    go_wp2
    go_ret2
    have h := HO.out
    rw [HII.out, List.take_length] at h
    exact ⟨_, rfl, h.lower HB1.out⟩
  | succ gk =>
    have hlt : i < res.length := by omega
    have hltI : (i : Int) < (res.length : Int) := by omega
    obtain ⟨r, c', hA, _⟩ := Kd.R_form (Kd.R_below HM.out.row (show Below w1.heap.size w1 wr from HO.out.b)) (by omega)
    injection hA with hA1 hA2 hA3
    subst hA1
    subst hA3
    clear hA2
    obtain ⟨c1, hc1, ⟨u1, hu1, hm1⟩, hcell, _⟩ := Kd.R_elem (Kd.R_below HM.out.row (show Below w1.heap.size w1 wr from HO.out.b)) ([] : List Int) (i : Nat) (by omega) (by omega)
    subst hu1
    have hg : res.getD ((i : Nat) : Int).toNat [] = res[i] := by simp [List.getD_eq_getElem?_getD, hlt]
    rw [hg] at hm1
    obtain ⟨g, s1, hu, hmu⟩ := md_mu (W0 := Lib.bytesWorld w 5 s) hm1 (HM.out.b.trans (HO.out.b.mono HM.out.b.size))
    subst hu
    have e1 := hcell 0 _ rfl
    rw [show mdK.sz = 1 from rfl] at e1
    simp only [Int.toNat_natCast, Nat.mul_one, Nat.add_zero] at e1
    have hok := HR.out res[i] (List.getElem_mem hlt)
    have htake : (res.take (i + 1)).map toM = (res.take i).map toM ++ [toM res[i]] := by rw [List.take_succ_eq_append_getElem hlt, List.map_append]; rfl
    generalize hcs : res[i] = cs at hm1 hmu hok htake
    obtain ⟨x0, hx0, hy0, hz0⟩ := few_nat hok.few 0
    obtain ⟨x1, hx1, hy1, hz1⟩ := few_nat hok.few 1
    have htwo := hok.two
    have hg0 := get_cap (s := 0) hmu (by omega) hx0 hy0
    have hg1 := get_cap (s := 1) hmu (by omega) hx1 hy1
    rw [show ((0 : Nat) : Int) = 0 from rfl] at hg0
    rw [show ((1 : Nat) : Int) = 1 from rfl] at hg1
    have d0 : ((x0 / 2 : Nat) : Int) = cs.getD 0 0 / 2 := by rw [hx0]; omega
    have d1 : ((x1 / 2 : Nat) : Int) = cs.getD 1 0 / 2 := by rw [hx1]; omega
    rw [d0] at hg0
    rw [d1] at hg1
    have hown := OwnU.new wr (cs.getD 0 0 / 2) (cs.getD 1 0 / 2)
    have HTK := Aside0.mk htake
    generalize hbq : cs.getD 0 0 / 2 = bq at hg0 hg1 hown
    generalize heq : cs.getD 1 0 / 2 = eq at hg0 hg1 hown
    have HG0 := Aside0.mk hg0
    have HG1 := Aside0.mk hg1
    have HOWN := Aside0.mk hown
    have HMU := Aside0.mk hmu
    have HOK := Aside0.mk hok
    have HBQ := Aside0.mk hbq
    have HEQ := Aside0.mk heq
    clear hg0 hg1 hmu hok hbq heq hx0 hx1 hy0 hy1 hz0 hz1 d0 d1 hm1 hcell hg hcs htwo htake hown
    go_wp2_with fail
    refine HG0.out.mono ?_
    rintro ee w5 ⟨he5, hw5⟩
    subst he5 hw5
    clear HG0
    go_wp2_with fail
    refine HG1.out.mono ?_
    rintro ee w5 ⟨he5, hw5⟩
    subst he5 hw5
    clear HG1
    go_wp2_with fail
    refine wp_loop_ghost_k (fun k a wr2 => ∃ (j : Nat), j + k = (cs.length - 2) / 2 ∧ AtIn (some ⟨r, 0, none⟩) res.length c i g (wr.heap.size + 2) (2 + 2 * j) (.slice vA vl vc) (fun wr2 => InR (Lib.bytesWorld w 5 s) wr wr2 g (wr.heap.size + 2) bq eq cs j) a wr2) ((cs.length - 2) / 2) ⟨0, by omega, rfl, rfl, ⟨rfl, rfl, rfl, rfl, rfl, rfl, rfl⟩, ⟨⟨_, MU.step HMU.out HOWN.out.bl⟩, _, _, HOWN.out⟩⟩ ?_
    clear HOWN
    intro gj a wr2 hI J2 K2 hJ2 hK2
    obtain ⟨j, hjk, hI⟩ := hI
    obtain ⟨⟨u, rfl⟩, ⟨sm, hmu⟩, v1, v2, hown⟩ := hI.open_
    clear hI
    have htwo := HOK.out.two
    have heven := HOK.out.even
    have hfew := HOK.out.few.1
    have HLC := Aside0.mk (len_cap hmu (by omega))
    obtain ⟨A1, n1, A2, n2, hv1, hv2⟩ := hown.sl
    cases gj with
    | zero =>
      have hjl : 2 + 2 * j = cs.length := by omega
      have hjn : j = (cs.length - 2) / 2 := by omega
      have hltI2 : ¬ (((2 + 2 * j : Nat) : Int) < (cs.length : Int)) := by omega
      have hM : toM cs = ⟨bq, eq, (List.range j).map (capAt cs), (List.range j).map (plAt cs)⟩ := by
        unfold toM
        rw [HBQ.out, HEQ.out, hjn]
      have HX := Aside0.mk hM
      have HOWN := Aside0.mk hown
      have e2 := blk_cell hown.hv 0
      have e3 := blk_cell hown.hv 1
      have e4 := blk_cell hown.hv 2
      have e5 := blk_cell hown.hv 3
      have hvl2 : vl ≤ 100000 := by rw [← hvl, List.length_map, List.length_take]; have := HN.out; omega
      have HVL := Aside0.mk hvl2
      have HVE := Aside0.mk hvl
      generalize hcl : ((List.range j).map (capAt cs)).length = l1 at hv1
      generalize hpl : ((List.range j).map (plAt cs)).length = l2 at hv2
      subst hv1 hv2
      have qi : IntKind.i64.wrap ((i : Int) + 1) = (i : Int) + 1 := IntWalk.i64_in _ (by have := HN.out; omega)
      clear hown hmu hjl hjn hjk htwo heven hM hvl2 hfew hcl hpl hvl
      generalize ((2 + 2 * j : Nat) : Int) = jj at *
      go_wp2_with fail
      refine HLC.out.mono ?_
      rintro ee w5 ⟨he5, hw5⟩
      subst he5 hw5
      clear HLC
      go_wp2_with (at_builtin; refine OutU.list (HO.out) rfl (.tmp 77) (.tmp 79) rfl rfl (x := ⟨bq, eq, (List.range j).map (capAt cs), (List.range j).map (plAt cs)⟩) (HOWN.out.bl) (HOWN.out.r1) (HOWN.out.r2) rfl (by rfl) (by rw [HVE.out]; exact HVL.out) ?_; intro A7 n7 c7 w7 hS7; have HS7 := Aside0.mk hS7; clear hS7)
      refine Handed.intro gk (by omega) (hJ _ _ _ ⟨i + 1, _, by omega, rfl, rfl, ⟨rfl, rfl, rfl, congrArg (Value.int .i64) (Int.natCast_succ i).symm⟩, ?_⟩)
      show OutU w1 w7 _ ((res.take (i + 1)).map toM)
      rw [HTK.out, HX.out]
      exact HS7.out
    | succ gj =>
      obtain ⟨m, hm⟩ : ∃ m, m = 2 + 2 * j := ⟨_, rfl⟩
      rw [← hm]
      have hml : m + 1 < cs.length := by omega
      have hltI2 : (m : Int) < (cs.length : Int) := by omega
      obtain ⟨xa, hxa, hya, hza⟩ := few_nat HOK.out.few m
      obtain ⟨xb, hxb, hyb, hzb⟩ := few_nat HOK.out.few (m + 1)
      have HGA := Aside0.mk (fun (W : World) (hb : Below wr.heap.size wr W) => get_cap (s := m) (MU.step HMU.out hb) (by omega) hxa hya)
      have hgb := fun (W : World) (hb : Below wr.heap.size wr W) => get_cap (s := m + 1) (MU.step HMU.out hb) (by omega) hxb hyb
      simp only [Int.natCast_succ] at hgb
      have HGB := Aside0.mk hgb
      have HPA := Aside0.mk (fun (W : World) (hb : Below wr.heap.size wr W) => pos_cap (s := m) (MU.step HMU.out hb) (by omega) hxa hya)
      have hca : capAt cs j = ⟨((xa / 2 : Nat) : Int), if xa % 2 == 1 then 0 else ((xb / 2 : Nat) : Int)⟩ := by
        unfold capAt
        rw [← hm, show 3 + 2 * j = m + 1 by omega, hxa, hxb]
        have e1 : ((xa : Int) / 2) = ((xa / 2 : Nat) : Int) := by omega
        have e2 : ((xb : Int) / 2) = ((xb / 2 : Nat) : Int) := by omega
        rw [e1, e2]
        rcases Nat.mod_two_eq_zero_or_one xa with h | h
        · rw [if_neg (by omega), if_neg (by rw [h]; decide)]
        · rw [if_pos (by omega), if_pos (by rw [h]; decide)]
      have hpa : plAt cs j = (xa % 2 == 1) := by
        unfold plAt
        rw [← hm, hxa]
        rcases Nat.mod_two_eq_zero_or_one xa with h | h
        · rw [h, show (xa : Int) % 2 = 0 by omega]; rfl
        · rw [h, show (xa : Int) % 2 = 1 by omega]; rfl
      have HCA := Aside0.mk hca
      have HPB := Aside0.mk hpa
      have q1 : IntKind.i64.wrap ((m : Int) + 1) = (m : Int) + 1 := IntWalk.i64_in _ (by omega)
      have q2 : IntKind.i64.wrap ((m : Int) + 2) = (m : Int) + 2 := IntWalk.i64_in _ (by omega)
      have HOWN := Aside0.mk hown
      have HMM := Aside0.mk hm
      have HMU2 := Aside0.mk hmu
      have HJK := Aside0.mk hjk
      generalize hcl : ((List.range j).map (capAt cs)).length = l1 at hv1
      generalize hpl : ((List.range j).map (plAt cs)).length = l2 at hv2
      have HCL := Aside0.mk hcl
      have HPL := Aside0.mk hpl
      subst hv1 hv2
      generalize ((xa / 2 : Nat) : Int) = ya at *
      generalize ((xb / 2 : Nat) : Int) = yb at *
      generalize (xa % 2 == 1) = pa at *
      clear hown hmu hjk htwo heven hfew hcl hpl hvl hgb hca hpa hxa hxb hya hyb hza hzb hm hml
      go_wp2_with fail
      refine HLC.out.mono ?_
      rintro ee w5 ⟨he5, hw5⟩
      subst he5 hw5
      clear HLC
      go_wp2_with fail
      refine (HGA.out _ HOWN.out.bl).mono ?_
      rintro ee w5 ⟨he5, hw5⟩
      subst he5 hw5
      go_wp2_with fail
      refine (HPA.out _ (below_alloc HOWN.out.bl _)).mono ?_
      rintro ee w5 ⟨he5, hw5⟩
      subst he5 hw5
      go_upto_if 57 with (fail)
      go_cut [17] from 58 to 63 (fun v wc => v = .pointer (some ⟨wr2.heap.size, 0, none⟩) ∧ Below wr2.heap.size wr2 wc ∧ wc.heap[wr2.heap.size]? = some (.cells #[.int .i64 ya, .int .i64 (if pa then 0 else yb)] 33 (0, 0)))
      case first =>
        cases pa with
        | true =>
          go_wp2
          go_meet
          case rel => exact ⟨rfl, below_alloc (Below.refl _ _) _, blk_new _ _⟩
        | false =>
          go_wp2_with fail
          refine (HGB.out _ (below_alloc HOWN.out.bl _)).mono ?_
          rintro ee w5 ⟨he5, hw5⟩
          subst he5 hw5
          go_wp2_with fail
          go_meet
          case rel => exact ⟨rfl, below_alloc (Below.refl _ _) _, blk_new _ _⟩
      obtain ⟨rfl, hbc, hcell⟩ := hcut
      have e6 := blk_cell hcell 0
      have e7 := blk_cell hcell 1
      have hown := HOWN.out.below hbc
      have e8 := blk_cell hown.hv 2
      have HOWN2 := Aside0.mk hown
      have HBC := Aside0.mk hbc
      generalize (if pa then 0 else yb) = yc at *
      clear hcell hown hbc HOWN HGA HGB
      go_wp2_with (at_builtin; refine OwnU.list1 (HOWN2.out) rfl (.tmp 64) (.tmp 66) rfl rfl (by rfl) rfl (by have := HJK.out; have := HOK.out.few.1; rw [List.length_map, List.length_range]; omega) (x := ⟨ya, yc⟩) ?_; intro A7 n7 c7 w7 hS7 hc7 hf7; have HS7 := Aside0.mk hS7; clear hS7)
      generalize hwd : w7.setCell ⟨wr.heap.size + 2, 2, none⟩ (.slice A7 n7 c7) = wd at *
      have hown := HS7.out
      have e9 := blk_cell hown.hv 3
      have f9 := blk_frozen hown.hv 3
      have e9a := fun ob => Ins.cell_alloc e9 ob
      have HPA3 := Aside0.mk (HPA.out wd.drew (below_drew hown.bl))
      clear hwd hc7 hf7 hown HBC HOWN2 e6 e7 e8
      go_region_law (first | (refine OwnU.step2 (HS7.out.drewN 1) rfl (.tmp 70) (.tmp 74) rfl rfl rfl (by have := HJK.out; have := HOK.out.few.1; rw [List.length_map, List.length_range]; omega) pa ?_; intro A4 n4 c4 w4 hS8 hc4 hf4; have HS8 := Aside0.mk hS8; clear hS8) | (go_simp; go_at_call 21; refine HPA3.out.mono ?_; rintro e w8 ⟨he8, hw8⟩; subst he8 hw8))
      all_goals
        go_wp2
        refine Handed.intro gj (by omega) (hJ2 _ _ _ ⟨j + 1, by have := HJK.out; omega, rfl, rfl, ⟨rfl, rfl, rfl, ?_, rfl, rfl, rfl⟩, ⟨⟨_, MU.step HMU.out HS8.out.bl⟩, ?_⟩⟩)
        · show Value.int .i64 ((m : Int) + 2) = _
          rw [show (m : Int) + 2 = ((2 + 2 * (j + 1) : Nat) : Int) by have := HMM.out; omega]
        · rw [List.range_succ, List.map_append, List.map_append, List.map_cons, List.map_nil, List.map_cons, List.map_nil, HCA.out, HPB.out]
          exact ⟨_, _, HS8.out⟩
end
end Go.Proofs.YtpjfjfloeejgiaaFmt.Mtc
/- isMatch9 of package laws, where it answers true: the walk. -/
set_option linter.unusedVariables false
set_option linter.unusedSimpArgs false
namespace Go.Proofs.YtpjfjfloeejgiaaFmt.Mtc
open Go.RowKit Go.Proofs.YtpjfjfloeejgiaaFmtW.PrintWords Go.Proofs.YtpjfjfloeejgiaaFmt.PFnPatternFirst

/-- At the head of isMatch9's loop. -/
def AtIsm (A : Option Addr) (n c i g2 g3 : Nat) (R : World → Prop) (a : Act) (w : World) : Prop :=
  a.tmps.size = 89 ∧ a.defers = [] ∧ (a.tmps.getD 2 undef = .pointer (some ⟨g2, 0, none⟩) ∧ a.tmps.getD 3 undef = .pointer (some ⟨g3, 0, none⟩) ∧ a.tmps.getD 41 undef = .slice A n c ∧ a.tmps.getD 42 undef = .int .i64 (n : Int) ∧ a.tmps.getD 43 undef = .int .i64 (i : Int)) ∧ R w
set_option maxRecDepth 100000 in
theorem AtIsm.open_ {A : Option Addr} {n c i g2 g3 : Nat} {R : World → Prop} {a : Act} {w : World} (h : AtIsm A n c i g2 g3 R a w) : (∃ u : Nat → Value, a = ⟨#[u 0, u 1, .pointer (some ⟨g2, 0, none⟩), .pointer (some ⟨g3, 0, none⟩), u 4, u 5, u 6, u 7, u 8, u 9, u 10, u 11, u 12, u 13, u 14, u 15, u 16, u 17, u 18, u 19, u 20, u 21, u 22, u 23, u 24, u 25, u 26, u 27, u 28, u 29, u 30, u 31, u 32, u 33, u 34, u 35, u 36, u 37, u 38, u 39, u 40, .slice A n c, .int .i64 (n : Int), .int .i64 (i : Int), u 44, u 45, u 46, u 47, u 48, u 49, u 50, u 51, u 52, u 53, u 54, u 55, u 56, u 57, u 58, u 59, u 60, u 61, u 62, u 63, u 64, u 65, u 66, u 67, u 68, u 69, u 70, u 71, u 72, u 73, u 74, u 75, u 76, u 77, u 78, u 79, u 80, u 81, u 82, u 83, u 84, u 85, u 86, u 87, u 88], []⟩) ∧ R w := by
  obtain ⟨tmps, defers⟩ := a
  obtain ⟨hs, hd, ⟨h2, h3, h41, h42, h43⟩, hR⟩ := h
  refine ⟨⟨fun i => tmps.getD i undef, ?_⟩, hR⟩
  have hd' : defers = [] := hd
  subst hd'
  have k2 : tmps.getD 2 undef = .pointer (some ⟨g2, 0, none⟩) := h2
  have k3 : tmps.getD 3 undef = .pointer (some ⟨g3, 0, none⟩) := h3
  have k41 : tmps.getD 41 undef = .slice A n c := h41
  have k42 : tmps.getD 42 undef = .int .i64 (n : Int) := h42
  have k43 : tmps.getD 43 undef = .int .i64 (i : Int) := h43
  have h := frame_lit 89 tmps hs
  have h2 : ((List.range 89).map (fun i => tmps.getD i undef)).toArray = #[tmps.getD 0 undef, tmps.getD 1 undef, tmps.getD 2 undef, tmps.getD 3 undef, tmps.getD 4 undef, tmps.getD 5 undef, tmps.getD 6 undef, tmps.getD 7 undef, tmps.getD 8 undef, tmps.getD 9 undef, tmps.getD 10 undef, tmps.getD 11 undef, tmps.getD 12 undef, tmps.getD 13 undef, tmps.getD 14 undef, tmps.getD 15 undef, tmps.getD 16 undef, tmps.getD 17 undef, tmps.getD 18 undef, tmps.getD 19 undef, tmps.getD 20 undef, tmps.getD 21 undef, tmps.getD 22 undef, tmps.getD 23 undef, tmps.getD 24 undef, tmps.getD 25 undef, tmps.getD 26 undef, tmps.getD 27 undef, tmps.getD 28 undef, tmps.getD 29 undef, tmps.getD 30 undef, tmps.getD 31 undef, tmps.getD 32 undef, tmps.getD 33 undef, tmps.getD 34 undef, tmps.getD 35 undef, tmps.getD 36 undef, tmps.getD 37 undef, tmps.getD 38 undef, tmps.getD 39 undef, tmps.getD 40 undef, tmps.getD 41 undef, tmps.getD 42 undef, tmps.getD 43 undef, tmps.getD 44 undef, tmps.getD 45 undef, tmps.getD 46 undef, tmps.getD 47 undef, tmps.getD 48 undef, tmps.getD 49 undef, tmps.getD 50 undef, tmps.getD 51 undef, tmps.getD 52 undef, tmps.getD 53 undef, tmps.getD 54 undef, tmps.getD 55 undef, tmps.getD 56 undef, tmps.getD 57 undef, tmps.getD 58 undef, tmps.getD 59 undef, tmps.getD 60 undef, tmps.getD 61 undef, tmps.getD 62 undef, tmps.getD 63 undef, tmps.getD 64 undef, tmps.getD 65 undef, tmps.getD 66 undef, tmps.getD 67 undef, tmps.getD 68 undef, tmps.getD 69 undef, tmps.getD 70 undef, tmps.getD 71 undef, tmps.getD 72 undef, tmps.getD 73 undef, tmps.getD 74 undef, tmps.getD 75 undef, tmps.getD 76 undef, tmps.getD 77 undef, tmps.getD 78 undef, tmps.getD 79 undef, tmps.getD 80 undef, tmps.getD 81 undef, tmps.getD 82 undef, tmps.getD 83 undef, tmps.getD 84 undef, tmps.getD 85 undef, tmps.getD 86 undef, tmps.getD 87 undef, tmps.getD 88 undef] := rfl
  rw [h2] at h
  rw [k2, k3, k41, k42, k43] at h
  exact congrArg (fun t => Act.mk t _) h
/-- A match is the one that is due. -/
structure Due (m : S37) (b e : Int) (caps : List S65) : Prop where
  b : m.b = b
  e : m.e = e
  lc : m.cs.length = caps.length
  lp : m.ps.length = caps.length
  all : ∀ i : Nat, i < caps.length → rdOf false m.ps i = (rd_T65 caps i).f2 ∧ (rd_T33 m.cs i).f0 = (if (rd_T65 caps i).f2 then (rd_T65 caps i).f0 + 1 else (rd_T65 caps i).f0) ∧ ((rd_T65 caps i).f2 = false → (rd_T33 m.cs i).f1 = (rd_T65 caps i).f1) ∧ 0 ≤ (rd_T65 caps i).f0 ∧ (rd_T65 caps i).f0 ≤ 1000000
theorem cell_alloc {w : World} {ad : Addr} {u : Value} (h : w.cell? ad = some u) (ob : Obj) : (w.alloc ob).cell? ad = some u := pw_cell_below (below_alloc (Below.refl w.heap.size w) ob) h
section
variable {w : World} {m : S37} {b e : Int} {caps : List S65} {A1 A2 A3 : Option Addr} {c1 c2 c3 : Nat}
set_option maxHeartbeats 40000000 in
set_option maxRecDepth 100000 in
theorem ism_true (h : Due m b e caps) (r1 : k33.C w A1 m.cs.length m.cs) (r2 : Kd.bool.C w A2 m.ps.length m.ps) (r3 : k65.C w A3 caps.length caps) (hn : caps.length ≤ 100000) :
    Calls Tryf.prog 10 #[.agg #[.int .i64 m.b, .int .i64 m.e, .slice A1 m.cs.length c1, .slice A2 m.ps.length c2], .agg #[.int .i64 b, .int .i64 e, .slice A3 caps.length c3]] w fun e w' => e = .returned (.bool true) ∧ Below w.heap.size w w' := by
  obtain ⟨h1, h2, h3, h4, h5⟩ := h
  subst h1 h2
  rw [h3, h4]
  rw [h3] at r1
  rw [h4] at r2
  have HA := Aside0.mk h5
  have R1 := Aside0.mk r1
  have R2 := Aside0.mk r2
  have R3 := Aside0.mk r3
  have HN := Aside0.mk hn
  generalize m.b = mb
  generalize m.e = me
  clear h3 h4 h5 r1 r2 r3 hn
  go_enter Tryf.func10, Tryf.ntmps10
  go_wp2_with fail
  refine wp_loop_ghost_k (fun k a wr => ∃ (i : Nat), i + k = caps.length ∧ AtIsm A3 caps.length c3 i w.heap.size (w.heap.size + 1) (fun wr => Below w.heap.size w wr ∧ wr.heap[w.heap.size]? = some (.cells #[.int .i64 mb, .int .i64 me, .slice A1 caps.length c1, .slice A2 caps.length c2] 37 (0, 0)) ∧ wr.heap[w.heap.size + 1]? = some (.cells #[.int .i64 mb, .int .i64 me, .slice A3 caps.length c3] 30 (0, 0))) a wr) caps.length ⟨0, by omega, rfl, rfl, ⟨rfl, rfl, rfl, rfl, rfl⟩, ⟨below_alloc (below_alloc (Below.refl _ _) _) _, blk_alloc (blk_new _ _) _, ?_⟩⟩ ?_
  · have h := blk_new (w.alloc (.cells #[.int .i64 mb, .int .i64 me, .slice A1 caps.length c1, .slice A2 caps.length c2] 37)) (.cells #[.int .i64 mb, .int .i64 me, .slice A3 caps.length c3] 30)
    rw [World.size_alloc] at h
    exact h
  intro gk a wr hI J K hJ hK
  obtain ⟨i, hik, hI⟩ := hI
  obtain ⟨⟨u, rfl⟩, hB, b2, b3⟩ := hI.open_
  clear hI
  have hn := HN.out
  cases gk with
  | zero =>
    have hltI : ¬ ((i : Int) < (caps.length : Int)) := by omega
    have HB := Aside0.mk hB
    clear hB b2 b3
    go_wp2
    go_ret
    exact ⟨rfl, HB.out⟩
  | succ gk =>
    have hlt : i < caps.length := by omega
    have hltI : (i : Int) < (caps.length : Int) := by omega
    obtain ⟨a1, hA1, x1, x2⟩ := at_T33 R1.out (i : Int) (by omega) hltI
    obtain ⟨a2, hA2, y1⟩ := Kd.at_bool R2.out (i : Int) (by omega) hltI
    obtain ⟨a3, hA3, z1, z2, z3⟩ := at_T65 R3.out (i : Int) (by omega) hltI
    subst hA1 hA2 hA3
    have x1 := pw_cell_below hB x1
    have x2 := pw_cell_below hB x2
    have y1 := pw_cell_below hB y1
    have z1 := pw_cell_below hB z1
    have z2 := pw_cell_below hB z2
    have z3 := pw_cell_below hB z3
    obtain ⟨p1, p2, p3, p4, p5⟩ := HA.out i hlt
    rw [p1] at y1
    rw [p2] at x1
    generalize (rd_T33 m.cs (i : Int)).f1 = mf at x2 p3
    generalize (rd_T65 caps (i : Int)).f0 = q0 at *
    generalize (rd_T65 caps (i : Int)).f1 = q1 at *
    generalize (rd_T65 caps (i : Int)).f2 = q2 at *
    simp only [Int.toNat_natCast] at x1 x2 y1 z1 z2 z3
    have e1 := blk_cell b2 2
    have e2 := blk_cell b2 3
    have HB := Aside0.mk hB
    have HB2 := Aside0.mk b2
    have HB3 := Aside0.mk b3
    have qw : IntKind.i64.wrap (q0 + 1) = q0 + 1 := IntWalk.i64_in _ (by omega)
    have qi : IntKind.i64.wrap ((i : Int) + 1) = (i : Int) + 1 := IntWalk.i64_in _ (by omega)
    clear p1 p2 p4 p5 hB b2 b3
    have ax1 := fun ob => cell_alloc x1 ob
    have ax2 := fun ob => cell_alloc x2 ob
    have ay1 := fun ob => cell_alloc y1 ob
    have ae1 := fun ob => cell_alloc e1 ob
    have ae2 := fun ob => cell_alloc e2 ob
    cases q2 with
    | true =>
      clear p3
      go_wp2
      go_quiet (fail)
      go_wp2
      refine Handed.intro gk (by omega) (hJ _ _ _ ⟨i + 1, by omega, rfl, rfl, ⟨rfl, rfl, rfl, rfl, congrArg (Value.int .i64) (Int.natCast_succ i).symm⟩, ⟨pw_below_drewN (below_alloc HB.out _) _, blk_alloc HB2.out _, blk_alloc HB3.out _⟩⟩)
    | false =>
      have p4 := p3 rfl
      subst p4
      clear p3
      go_wp2
      go_quiet (fail)
      go_wp2
      refine Handed.intro gk (by omega) (hJ _ _ _ ⟨i + 1, by omega, rfl, rfl, ⟨rfl, rfl, rfl, rfl, congrArg (Value.int .i64) (Int.natCast_succ i).symm⟩, ⟨pw_below_drewN (below_alloc HB.out _) _, blk_alloc HB2.out _, blk_alloc HB3.out _⟩⟩)
end
end Go.Proofs.YtpjfjfloeejgiaaFmt.Mtc
/- first9 of package laws: the walk. -/
set_option linter.unusedVariables false
set_option linter.unusedSimpArgs false
namespace Go.Proofs.YtpjfjfloeejgiaaFmt.Mtc
open Go.RowKit Go.Proofs.YtpjfjfloeejgiaaFmtW.PrintWords Go.Proofs.YtpjfjfloeejgiaaFmt.PFnPatternFirst
theorem k37_openM {w : World} {base : Nat} {ok : Nat → Prop} {x : S37} {cs : List Value} (h : k37.M w base ok x cs) : ∃ v1 v2, cs = [.int .i64 x.b, .int .i64 x.e, v1, v2] ∧ k33.R 33 w base ok v1 x.cs ∧ Kd.bool.R 4 w base ok v2 x.ps := by
  obtain ⟨_, _, rfl, rfl, ⟨_, _, rfl, rfl, ⟨_, _, rfl, ⟨v1, rfl, g1⟩, ⟨v2, rfl, g2⟩⟩⟩⟩ := h
  exact ⟨v1, v2, rfl, g1, g2⟩
section
variable {w : World} {p s : ByteArray} {off : Nat}
/-- What Matches, called for one match, does. -/
def MatC (p s : ByteArray) (off : Nat) (limit : Int) (ms : List S37) : Prop :=
  ∀ w : World, Calls Tryf.prog 9 #[.string p, .string s, .int .i64 off, .int .i64 limit] w fun e w' => ∃ v, e = .returned (.tuple #[v, .bool true]) ∧ OutU w w' v ms
set_option maxHeartbeats 40000000 in
set_option maxRecDepth 100000 in
theorem first_none (h : MatC p s off 1 []) :
    Calls Tryf.prog 12 #[.string p, .string s, .int .i64 off] w fun e w' => e = .returned (.tuple #[.agg #[.int .i64 0, .int .i64 0, .slice none 0 0, .slice none 0 0], .bool true, .bool false]) ∧ Below w.heap.size w w' := by
  have H := Aside0.mk h
  clear h
  go_enter Tryf.func12, Tryf.ntmps12
  go_wp2_with fail
  have b0 := blk_new w (.cells #[.int .i64 0, .int .i64 0, .slice none 0 0, .slice none 0 0] 37)
  have hb := below_alloc (Below.refl w.heap.size w) (.cells #[.int .i64 0, .int .i64 0, .slice none 0 0, .slice none 0 0] 37)
  have B0 := Aside0.mk b0
  have HB := Aside0.mk hb
  refine (H.out _).mono ?_
  rintro e w2 ⟨v, he, ho⟩
  subst he
  obtain ⟨A, c, hv⟩ := ho.sl
  subst hv
  have b2 := (ho.b.block _ (blk_lt B0.out)).trans B0.out
  have e0 : w2.cell? ⟨w.heap.size, 0, none⟩ = some (.int .i64 0) := blk_cell b2 0
  have e1 : w2.cell? ⟨w.heap.size, 1, none⟩ = some (.int .i64 0) := blk_cell b2 1
  have e2 : w2.cell? ⟨w.heap.size, 2, none⟩ = some (.slice none 0 0) := blk_cell b2 2
  have e3 : w2.cell? ⟨w.heap.size, 3, none⟩ = some (.slice none 0 0) := blk_cell b2 3
  have f0 := blk_frozen b2 0
  have f1 := blk_frozen b2 1
  have f2 := blk_frozen b2 2
  have f3 := blk_frozen b2 3
  have HB2 := Aside0.mk (HB.out.trans (ho.b.mono HB.out.size))
  have B2 := Aside0.mk b2
  clear b0 hb b2 ho B0 HB H
  go_wp2_with fail
  refine bodyPost_ret (v := .tuple #[.agg #[.int .i64 0, .int .i64 0, .slice none 0 0, .slice none 0 0], .bool true, .bool false]) ?_ rfl ⟨rfl, ?_⟩
  · simp [results, Tryf.results12, go_sem, e0, e1, e2, e3]
  · exact (((HB2.out.setCell (p := ⟨w.heap.size, 0, none⟩) (Nat.le_refl _) _).setCell (p := ⟨w.heap.size, 1, none⟩) (Nat.le_refl _) _).setCell (p := ⟨w.heap.size, 2, none⟩) (Nat.le_refl _) _).setCell (p := ⟨w.heap.size, 3, none⟩) (Nat.le_refl _) _
set_option maxHeartbeats 40000000 in
set_option maxRecDepth 100000 in
theorem first_one {x : S37} (h : MatC p s off 1 [x]) :
    Calls Tryf.prog 12 #[.string p, .string s, .int .i64 off] w fun e w' => ∃ A1 c1 A2 c2, e = .returned (.tuple #[.agg #[.int .i64 x.b, .int .i64 x.e, .slice A1 x.cs.length c1, .slice A2 x.ps.length c2], .bool true, .bool true]) ∧ Below w.heap.size w w' ∧ k33.C w' A1 x.cs.length x.cs ∧ Kd.bool.C w' A2 x.ps.length x.ps := by
  have H := Aside0.mk h
  clear h
  go_enter Tryf.func12, Tryf.ntmps12
  go_wp2_with fail
  have b0 := blk_new w (.cells #[.int .i64 0, .int .i64 0, .slice none 0 0, .slice none 0 0] 37)
  have hb := below_alloc (Below.refl w.heap.size w) (.cells #[.int .i64 0, .int .i64 0, .slice none 0 0, .slice none 0 0] 37)
  have B0 := Aside0.mk b0
  have HB := Aside0.mk hb
  refine (H.out _).mono ?_
  rintro e w2 ⟨v, he, ho⟩
  subst he
  have hrow := ho.row
  obtain ⟨r, c, hv, hr1, hr2, _⟩ := Kd.R_form hrow (by simp)
  subst hv
  obtain ⟨cs, _, hM, hc, _⟩ := Kd.R_elem hrow x 0 (Int.le_refl _) (by simp)
  obtain ⟨v1, v2, hcs, g1, g2⟩ := k37_openM (show k37.M w2 _ _ x cs from hM)
  subst hcs
  obtain ⟨A1, c1, hv1⟩ := Kd.R_slice g1
  obtain ⟨A2, c2, hv2⟩ := Kd.R_slice g2
  subst hv1 hv2
  have d0 : w2.cell? ⟨r, 0, none⟩ = some (.int .i64 x.b) := hc 0 _ rfl
  have d1 : w2.cell? ⟨r, 1, none⟩ = some (.int .i64 x.e) := hc 1 _ rfl
  have d2 : w2.cell? ⟨r, 2, none⟩ = some (.slice A1 x.cs.length c1) := hc 2 _ rfl
  have d3 : w2.cell? ⟨r, 3, none⟩ = some (.slice A2 x.ps.length c2) := hc 3 _ rfl
  have b2 := (ho.b.block _ (blk_lt B0.out)).trans B0.out
  have e0 : w2.cell? ⟨w.heap.size, 0, none⟩ = some (.int .i64 0) := blk_cell b2 0
  have e1 : w2.cell? ⟨w.heap.size, 1, none⟩ = some (.int .i64 0) := blk_cell b2 1
  have e2 : w2.cell? ⟨w.heap.size, 2, none⟩ = some (.slice none 0 0) := blk_cell b2 2
  have e3 : w2.cell? ⟨w.heap.size, 3, none⟩ = some (.slice none 0 0) := blk_cell b2 3
  have f0 := blk_frozen b2 0
  have f1 := blk_frozen b2 1
  have f2 := blk_frozen b2 2
  have f3 := blk_frozen b2 3
  have HB2 := Aside0.mk (HB.out.trans (ho.b.mono HB.out.size))
  have hbase : (w.alloc (.cells #[.int .i64 0, .int .i64 0, .slice none 0 0, .slice none 0 0] 37)).heap.size = w.heap.size + 1 := by simp
  rw [hbase] at g1 g2
  have far : ∀ {α : Type} {d : Kd α} {e : Nat} {ok : Nat → Prop} {A : Option Addr} {n c : Nat} {xs : List α} (W : World), Kept w2 W (fun k => k = w.heap.size) → d.R e w2 (w.heap.size + 1) ok (.slice A n c) xs → d.C W A xs.length xs := fun W hk h =>
    (Kd.R_reads' (Kd.R_kept (Kd.R_bound h) hk (fun k hk he => by have := hk.2.1; omega))).2.2
  have G1 := Aside0.mk (fun W (hk : Kept w2 W (fun k => k = w.heap.size)) => far W hk g1)
  have G2 := Aside0.mk (fun W (hk : Kept w2 W (fun k => k = w.heap.size)) => far W hk g2)
  clear b0 hb b2 ho B0 HB H far g1 g2 hbase hc hM hrow hr1 hr2
  go_wp2_with fail
  refine bodyPost_ret (v := .tuple #[.agg #[.int .i64 x.b, .int .i64 x.e, .slice A1 x.cs.length c1, .slice A2 x.ps.length c2], .bool true, .bool true]) ?_ rfl ⟨A1, c1, A2, c2, rfl, ?_, G1.out _ ?_, G2.out _ ?_⟩
  · simp [results, Tryf.results12, go_sem, e0, e1, e2, e3]
  · exact (((HB2.out.setCell (p := ⟨w.heap.size, 0, none⟩) (Nat.le_refl _) _).setCell (p := ⟨w.heap.size, 1, none⟩) (Nat.le_refl _) _).setCell (p := ⟨w.heap.size, 2, none⟩) (Nat.le_refl _) _).setCell (p := ⟨w.heap.size, 3, none⟩) (Nat.le_refl _) _
  · exact ((((Kept.refl w2 (fun k => k = w.heap.size)).setCell (p := ⟨w.heap.size, 0, none⟩) (.inl rfl) _).setCell (p := ⟨w.heap.size, 1, none⟩) (.inl rfl) _).setCell (p := ⟨w.heap.size, 2, none⟩) (.inl rfl) _).setCell (p := ⟨w.heap.size, 3, none⟩) (.inl rfl) _
  · exact ((((Kept.refl w2 (fun k => k = w.heap.size)).setCell (p := ⟨w.heap.size, 0, none⟩) (.inl rfl) _).setCell (p := ⟨w.heap.size, 1, none⟩) (.inl rfl) _).setCell (p := ⟨w.heap.size, 2, none⟩) (.inl rfl) _).setCell (p := ⟨w.heap.size, 3, none⟩) (.inl rfl) _
end
end Go.Proofs.YtpjfjfloeejgiaaFmt.Mtc
