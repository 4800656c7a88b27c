/- Joined texts of this seat: PatA, PatB, PatB2, Asserts, Ins, Code, CompA. -/
import Derived.Test.YtpjfjfloeejgiaaFmtGc
import Derived.Test.YtpjfjfloeejgiaaFmtGb
/- A pattern's tree in memory, as package pm lays it; the sequence under way, and what an append to it leaves. -/
set_option linter.unusedVariables false
set_option linter.unusedSimpArgs false
namespace Go.Proofs.YtpjfjfloeejgiaaFmt.Pat
open Go.RowKit Go.Proofs.YtpjfjfloeejgiaaFmtW.PrintWords Go.Proofs.YtpjfjfloeejgiaaFmt.Scan Go.Proofs.YtpjfjfloeejgiaaFmt.Cls

/-- A part of a pattern. -/
inductive Pat where
  | one (c : Cls)
  | rep (t : Int) (c : Cls)
  | pos
  | cap (ps : List Pat)
  | brace (b e : Int)
  | num (n : Int)

/-- The types of the blocks that a tree consists of. -/
def PE : List Nat := [129, 160, 173, 170, 112, 115, 126, 122, 87, 120, 109, 106]

/-- A sequence in memory. -/
def SeqAt (dK : Kd Pat) (w : World) (base : Nat) (ok : Nat → Prop) (q : Nat) (mh mt : Bool) (ps : List Pat) : Prop :=
  ∃ v, Blk w base ok q #[.bool mh, .bool mt, v] 87 ∧ dK.R 120 w base ok v ps

/-- A part in memory; the parts of a capture are of kind dK. -/
def PatAt (dK : Kd Pat) (w : World) (base : Nat) (ok : Nat → Prop) (v : Value) : Pat → Prop
  | .one c => ∃ g vc, v = .iface 110 (.pointer (some ⟨g, 0, none⟩)) ∧ Blk w base ok g #[vc] 115 ∧ ClsAt w base ok vc c
  | .rep t c => ∃ g vc, v = .iface 124 (.pointer (some ⟨g, 0, none⟩)) ∧ Blk w base ok g #[.int .i64 t, vc] 126 ∧ ClsAt w base ok vc c
  | .pos => ∃ g, v = .iface 116 (.pointer (some ⟨g, 0, none⟩))
  | .cap ps => ∃ g q, v = .iface 119 (.pointer (some ⟨g, 0, none⟩)) ∧ Blk w base ok g #[.iface 77 (.pointer (some ⟨q, 0, none⟩))] 122 ∧ SeqAt dK w base ok q false false ps
  | .brace b e => ∃ g, v = .iface 107 (.pointer (some ⟨g, 0, none⟩)) ∧ Blk w base ok g #[.int .i64 b, .int .i64 e] 109
  | .num n => ∃ g, v = .iface 104 (.pointer (some ⟨g, 0, none⟩)) ∧ Blk w base ok g #[.int .i64 n] 106

section
variable {dK : Kd Pat} {w w1 : World} {base base' : Nat} {ok ok' : Nat → Prop} {v : Value} {p : Pat} {q : Nat} {mh mt : Bool} {ps : List Pat}
theorem SeqAt.mono (h : SeqAt dK w base ok q mh mt ps) (hok : ∀ k, ok k → ok' k) : SeqAt dK w base ok' q mh mt ps := by
  obtain ⟨v, h1, h2⟩ := h
  exact ⟨v, h1.mono hok, Kd.R_mono h2 hok⟩
theorem SeqAt.bound (hE : dK.E = PE) (h : SeqAt dK w base ok q mh mt ps) : SeqAt dK w base (Bd w base ok PE) q mh mt ps := by
  obtain ⟨v, h1, h2⟩ := h
  refine ⟨v, h1.bound (by decide), Kd.R_mono (Kd.R_bound h2) ?_⟩
  rintro k ⟨k1, k2, k3, r, hr, hc⟩
  refine ⟨k1, k2, k3, r, ?_, hc⟩
  rcases List.mem_cons.1 hr with rfl | hr
  · decide
  · rwa [hE] at hr
theorem SeqAt.move (h : SeqAt dK w base ok q mh mt ps) (hm : ∀ k, ok k → w1.heap[k]? = w.heap[k]?) : SeqAt dK w1 base ok q mh mt ps := by
  obtain ⟨v, h1, h2⟩ := h
  exact ⟨v, h1.move hm, Kd.R_move h2 hm⟩
theorem SeqAt.lower (h : SeqAt dK w base ok q mh mt ps) (hb : base' ≤ base) : SeqAt dK w base' ok q mh mt ps := by
  obtain ⟨v, h1, h2⟩ := h
  exact ⟨v, h1.lower hb, Kd.R_lower h2 hb⟩
theorem SeqAt.step (hE : dK.E = PE) (h : SeqAt dK w base ok q mh mt ps) (hm : ∀ k, ok k → k < w.heap.size → w1.heap[k]? = w.heap[k]?) : SeqAt dK w1 base ok q mh mt ps :=
  ((h.bound hE).move (fun k hk => hm k hk.1 hk.2.2.1)).mono (fun _ hk => hk.1)
theorem cls_PE {c : Cls} (h : ClsAt w base ok v c) : ClsAt w base (Bd w base ok PE) v c := h.bound (fun q hq => by simp only [List.mem_cons, List.not_mem_nil, or_false] at hq; rcases hq with rfl | rfl | rfl | rfl | rfl <;> decide)
theorem PatAt.mono (h : PatAt dK w base ok v p) (hok : ∀ k, ok k → ok' k) : PatAt dK w base ok' v p := by
  cases p with
  | one c => obtain ⟨g, vc, e, h1, h2⟩ := h; exact ⟨g, vc, e, h1.mono hok, h2.mono hok⟩
  | rep t c => obtain ⟨g, vc, e, h1, h2⟩ := h; exact ⟨g, vc, e, h1.mono hok, h2.mono hok⟩
  | pos => exact h
  | cap ps => obtain ⟨g, q, e, h1, h2⟩ := h; exact ⟨g, q, e, h1.mono hok, h2.mono hok⟩
  | brace b e => obtain ⟨g, e, h1⟩ := h; exact ⟨g, e, h1.mono hok⟩
  | num n => obtain ⟨g, e, h1⟩ := h; exact ⟨g, e, h1.mono hok⟩
theorem PatAt.bound (hE : dK.E = PE) (h : PatAt dK w base ok v p) : PatAt dK w base (Bd w base ok PE) v p := by
  cases p with
  | one c => obtain ⟨g, vc, e, h1, h2⟩ := h; exact ⟨g, vc, e, h1.bound (by decide), cls_PE h2⟩
  | rep t c => obtain ⟨g, vc, e, h1, h2⟩ := h; exact ⟨g, vc, e, h1.bound (by decide), cls_PE h2⟩
  | pos => exact h
  | cap ps => obtain ⟨g, q, e, h1, h2⟩ := h; exact ⟨g, q, e, h1.bound (by decide), h2.bound hE⟩
  | brace b e => obtain ⟨g, e, h1⟩ := h; exact ⟨g, e, h1.bound (by decide)⟩
  | num n => obtain ⟨g, e, h1⟩ := h; exact ⟨g, e, h1.bound (by decide)⟩
theorem PatAt.move (h : PatAt dK w base ok v p) (hm : ∀ k, ok k → w1.heap[k]? = w.heap[k]?) : PatAt dK w1 base ok v p := by
  cases p with
  | one c => obtain ⟨g, vc, e, h1, h2⟩ := h; exact ⟨g, vc, e, h1.move hm, h2.move hm⟩
  | rep t c => obtain ⟨g, vc, e, h1, h2⟩ := h; exact ⟨g, vc, e, h1.move hm, h2.move hm⟩
  | pos => exact h
  | cap ps => obtain ⟨g, q, e, h1, h2⟩ := h; exact ⟨g, q, e, h1.move hm, h2.move hm⟩
  | brace b e => obtain ⟨g, e, h1⟩ := h; exact ⟨g, e, h1.move hm⟩
  | num n => obtain ⟨g, e, h1⟩ := h; exact ⟨g, e, h1.move hm⟩
theorem PatAt.lower (h : PatAt dK w base ok v p) (hb : base' ≤ base) : PatAt dK w base' ok v p := by
  cases p with
  | one c => obtain ⟨g, vc, e, h1, h2⟩ := h; exact ⟨g, vc, e, h1.lower hb, h2.lower hb⟩
  | rep t c => obtain ⟨g, vc, e, h1, h2⟩ := h; exact ⟨g, vc, e, h1.lower hb, h2.lower hb⟩
  | pos => exact h
  | cap ps => obtain ⟨g, q, e, h1, h2⟩ := h; exact ⟨g, q, e, h1.lower hb, h2.lower hb⟩
  | brace b e => obtain ⟨g, e, h1⟩ := h; exact ⟨g, e, h1.lower hb⟩
  | num n => obtain ⟨g, e, h1⟩ := h; exact ⟨g, e, h1.lower hb⟩
theorem PatAt.iface (h : PatAt dK w base ok v p) : ∃ t g, v = .iface t (.pointer (some ⟨g, 0, none⟩)) := by
  cases p with
  | one c => obtain ⟨g, vc, rfl, _⟩ := h; exact ⟨_, _, rfl⟩
  | rep t c => obtain ⟨g, vc, rfl, _⟩ := h; exact ⟨_, _, rfl⟩
  | pos => obtain ⟨g, rfl⟩ := h; exact ⟨_, _, rfl⟩
  | cap ps => obtain ⟨g, q, rfl, _⟩ := h; exact ⟨_, _, rfl⟩
  | brace b e => obtain ⟨g, rfl, h1⟩ := h; exact ⟨_, _, rfl⟩
  | num n => obtain ⟨g, rfl, h1⟩ := h; exact ⟨_, _, rfl⟩
theorem PatAt.oneCell (h : PatAt dK w base ok v p) : v.oneCell' = true := by
  obtain ⟨t, g, rfl⟩ := h.iface
  rfl
end

/-- The kinds of trees nested at most so deep. -/
def patKs : Nat → {d : Kd Pat // d.E = PE ∧ d.sz = 1}
  | 0 => ⟨Kd.bot 1 PE, rfl, rfl⟩
  | n + 1 => ⟨one (PatAt (patKs n).1) PE PatAt.mono (PatAt.bound (patKs n).2.1) PatAt.move PatAt.lower PatAt.oneCell, rfl, rfl⟩
def patK (n : Nat) : Kd Pat := (patKs n).1
theorem patK_E (n : Nat) : (patK n).E = PE := (patKs n).2.1
theorem patK_sz (n : Nat) : (patK n).sz = 1 := (patKs n).2.2
theorem patK_M {n : Nat} {w : World} {base : Nat} {ok : Nat → Prop} {u : Value} {p : Pat} (h : PatAt (patK n) w base ok u p) : (patK (n + 1)).M w base ok p [u] := ⟨u, rfl, h⟩
theorem patK_open {n : Nat} {w : World} {base : Nat} {ok : Nat → Prop} {cs : List Value} {p : Pat} (h : (patK (n + 1)).M w base ok p cs) : ∃ u, cs = [u] ∧ PatAt (patK n) w base ok u p := h
theorem patK_sz1 (n : Nat) : (patK (n + 1)).sz = 1 := rfl

theorem info120 : (Tryf.prog.info? 120).map (fun i => (i.zero, i.size, i.bytes)) = some (some .nilIface, 1, 16) := by kernel_rfl

/-- The sequence under way: its block, its row, the scanner. -/
structure SeqU (D : Nat) (w0 w wr : World) (g q : Nat) (A : Option Addr) (n cap : Nat) (mh mt : Bool) (ps : List Pat) (c : Nat) (v : Value) : Prop where
  sc : Sc wr g A n cap c none
  kp : Kp w0 w wr g
  lt : w.heap.size ≤ q
  hv : wr.heap[q]? = some (.cells #[.bool mh, .bool mt, v] 87 (0, 0))
  row : (patK (D + 1)).R 120 wr w.heap.size (fun k => k ≠ q) v ps

section
variable {D : Nat} {w0 w wr w2 : World} {g q n cap c c2 : Nat} {A : Option Addr} {mh mt : Bool} {ps : List Pat} {v u : Value} {x : Pat}
variable {ops : Array Oper} {o : Oper} {a : Act} {Q : Exit → Act → World → Prop} {K : Act → World → Prop} {rest : List Oper}

theorem pe_not (t : Nat) (ht : t ∉ PE) (ht2 : t ≠ 120) : ∀ r, r ∈ 120 :: (patK (D + 1)).E → r ≠ t := by
  intro r hr e
  subst e
  rw [patK_E] at hr
  rcases List.mem_cons.1 hr with rfl | hr
  · exact ht2 rfl
  · exact ht hr
theorem SeqU.ne (h : SeqU D w0 w wr g q A n cap mh mt ps c v) : q ≠ g := by
  obtain ⟨cs, hc⟩ := h.sc.typed
  exact blk_ne h.hv hc (by decide)
theorem SeqU.drewN (h : SeqU D w0 w wr g q A n cap mh mt ps c v) (m : Nat) : SeqU D w0 w (wr.drewN m) g q A n cap mh mt ps c v :=
  ⟨h.sc.move rfl, ⟨pw_below_drewN h.kp.b m, keep_drewN h.kp.k m⟩, h.lt, h.hv, Kd.R_drewN h.row m⟩
theorem SeqU.drew (h : SeqU D w0 w wr g q A n cap mh mt ps c v) : SeqU D w0 w wr.drew g q A n cap mh mt ps c v :=
  ⟨h.sc.move rfl, ⟨below_drew h.kp.b, keep_drew h.kp.k⟩, h.lt, h.hv, Kd.R_drew h.row⟩
theorem SeqU.alloc (h : SeqU D w0 w wr g q A n cap mh mt ps c v) (ob : Obj) : SeqU D w0 w (wr.alloc ob) g q A n cap mh mt ps c v :=
  ⟨Sc.alloc h.sc _, Kp.alloc h.kp _, h.lt, blk_alloc h.hv _, Kd.R_alloc h.row _⟩
theorem SeqU.keep (h : SeqU D w0 w wr g q A n cap mh mt ps c v) (k : Kp w0 wr w2 g) (hsc : Sc w2 g A n cap c2 none) : SeqU D w0 w w2 g q A n cap mh mt ps c2 v := by
  have hne := h.ne
  obtain ⟨cs, hc⟩ := h.sc.typed
  refine ⟨hsc, h.kp.trans k, h.lt, k.k.blk h.hv hne (by simp), ?_⟩
  have h1 := Kd.R_types h.row hc (pe_not 133 (by decide) (by decide))
  exact Kd.R_mono (Kd.R_keep h1 k.k (fun k hk => hk.2)) (fun k hk => hk.1)
theorem SeqU.after (h : SeqU D w0 w wr g q A n cap mh mt ps c v) (hw : w0.heap.size ≤ w.heap.size) {v1 : Value} {w1 : World} {ps1 : List Pat} (hR : (patK (D + 1)).R 120 w1 w.heap.size (fun k => k ≠ q) v1 ps1) (hg : wr.grownBy w1 v.ownBlock) :
    ∃ A1 n1 c1, v1 = .slice A1 n1 c1 ∧ SeqU D w0 w (w1.setCell ⟨q, 2, none⟩ (.slice A1 n1 c1)) g q A n cap mh mt ps1 c (.slice A1 n1 c1) ∧ w1.cell? ⟨q, 2, none⟩ = some v ∧ w1.frozen? ⟨q, 2, none⟩ = false := by
  obtain ⟨A1, c1, rfl⟩ := Kd.R_slice hR
  have hne := h.ne
  obtain ⟨cs, hc⟩ := h.sc.typed
  have hgs : some q ≠ v.ownBlock := Kd.R_ne h.row h.hv (by decide)
  have hgg : some g ≠ v.ownBlock := Kd.R_ne h.row hc (by decide)
  have hv1 : w1.heap[q]? = some (.cells #[.bool mh, .bool mt, v] 87 (0, 0)) := (hg.block q (blk_lt h.hv) hgs).trans h.hv
  have hk1 : Kp w0 w w1 g := h.kp.grown hg (fun k hk => Kd.R_base h.row k hk) hw
  refine ⟨_, _, _, rfl, ⟨h.sc.move ?_, hk1.own h.lt hw _, h.lt, blk_set hv1 2 _, Kd.R_far hR (fun k hk => hk) _⟩, blk_cell hv1 2, blk_frozen hv1 2⟩
  rw [Below.heap_setCell _ _ _ _ (Ne.symm hne), hg.block g h.sc.lt hgg]
/-- An append as a step of a region that draws. -/
theorem SeqU.append_step (hw : Region.wanted o (yielded ops a.tmps) = true) (s y : Operand) (ho : o.op = .call { callee := .builtin .append, args := #[s, y], argTypes := #[85, 85] })
    (hs : a.eval s = v) (hy : a.eval y = .slice (some ⟨wr.heap.size, 0, none⟩) 1 1) (h : SeqU D w0 w wr g q A n cap mh mt ps c v) (hw0 : w0.heap.size ≤ w.heap.size)
    (okp : Nat → Prop) (hokp : ∀ k, okp k → k ≠ q ∧ some k ≠ v.ownBlock) (hu : PatAt (patK D) wr w.heap.size okp u x) (hl : ps.length ≤ 1000)
    (hK : ∀ A1 n1 c1 w1, SeqU D w0 w (w1.setCell ⟨q, 2, none⟩ (.slice A1 n1 c1)) g q A n cap mh mt (ps ++ [x]) c (.slice A1 n1 c1) → w1.cell? ⟨q, 2, none⟩ = some v → w1.frozen? ⟨q, 2, none⟩ = false → K (a.put o.dst (.slice A1 n1 c1)) w1) :
    if Region.wanted o (yielded ops a.tmps) = true then Oper.wp Tryf.prog o a (wr.alloc (.cells #[u] 120)) K Q else K (a.put o.dst undef) (wr.alloc (.cells #[u] 120)) := by
  have hlt := blk_lt h.hv
  refine Kd.R_append_step (P := Tryf.prog) (patK (D + 1)) (w0 := wr) w.heap.size hw s y 85 120 .nilIface 16 ho Tryf.underlying85 info120 rfl (Nat.zero_lt_one) (by decide) v ps x [u] (fun k => k ≠ q) okp hs hy
    (patK_M hu) hokp (fun k hk => by omega) h.row (Below.refl _ _) h.kp.k.1 (by omega) ?_
  intro v1 w1 hR _ hg _
  obtain ⟨A1, n1, c1, rfl, k1, k2, k3⟩ := h.after hw0 hR hg
  exact hK _ _ _ _ k1 k2 k3
theorem SeqU.append_list (hgd : o.guard = none) (s y : Operand) (ho : o.op = .call { callee := .builtin .append, args := #[s, y], argTypes := #[85, 85] })
    (hs : a.eval s = v) (hy : a.eval y = .slice (some ⟨wr.heap.size, 0, none⟩) 1 1) (h : SeqU D w0 w wr g q A n cap mh mt ps c v) (hw0 : w0.heap.size ≤ w.heap.size)
    (okp : Nat → Prop) (hokp : ∀ k, okp k → k ≠ q ∧ some k ≠ v.ownBlock) (hu : PatAt (patK D) wr w.heap.size okp u x) (hl : ps.length ≤ 1000)
    (hK : ∀ A1 n1 c1 w1, SeqU D w0 w (w1.setCell ⟨q, 2, none⟩ (.slice A1 n1 c1)) g q A n cap mh mt (ps ++ [x]) c (.slice A1 n1 c1) → w1.cell? ⟨q, 2, none⟩ = some v → w1.frozen? ⟨q, 2, none⟩ = false → wpList Tryf.prog ops Q rest (a.put o.dst (.slice A1 n1 c1)) w1) :
    wpList Tryf.prog ops Q (o :: rest) a (wr.alloc (.cells #[u] 120)) := by
  have hlt := blk_lt h.hv
  refine Kd.R_append (P := Tryf.prog) (patK (D + 1)) (w0 := wr) w.heap.size hgd s y 85 120 .nilIface 16 ho Tryf.underlying85 info120 rfl (Nat.zero_lt_one) (by decide) v ps x [u] (fun k => k ≠ q) okp hs hy
    (patK_M hu) hokp (fun k hk => by omega) h.row (Below.refl _ _) h.kp.k.1 (by omega) ?_
  intro v1 w1 hR _ hg _
  obtain ⟨A1, n1, c1, rfl, k1, k2, k3⟩ := h.after hw0 hR hg
  exact hK _ _ _ _ k1 k2 k3
end
end Go.Proofs.YtpjfjfloeejgiaaFmt.Pat
/- parsePattern of package pm: what it makes of a pattern's bytes. Definitions, and the small steps. -/
set_option linter.unusedVariables false
set_option linter.unusedSimpArgs false
namespace Go.Proofs.YtpjfjfloeejgiaaFmt.Pat
open Go.RowKit Go.Proofs.YtpjfjfloeejgiaaFmtW.PrintWords Go.Proofs.YtpjfjfloeejgiaaFmt.Scan Go.Proofs.YtpjfjfloeejgiaaFmt.Cls

/-- What is read of a sequence: its parts, whether it ends with $, and the place behind it (nested: of the closing parenthesis). -/
def ploop (src : List Int) (top : Bool) (nest : Nat → Option (List Pat × Nat)) : Nat → Nat → List Pat → Bool → Option (List Pat × Bool × Nat)
  | 0, _, _, _ => none
  | k + 1, c, ps, mt =>
    if chr src c = 37 then
      if chr src (c + 1) = 48 then none
      else if 49 ≤ chr src (c + 1) ∧ chr src (c + 1) ≤ 57 then ploop src top nest k (c + 2) (ps ++ [.num (chr src (c + 1) - 48)]) mt
      else if chr src (c + 1) = 98 then (if c + 3 < src.length then ploop src top nest k (c + 4) (ps ++ [.brace (chr src (c + 2)) (chr src (c + 3))]) mt else none)
      else (pcls src c).bind fun r => ploop src top nest k r.2 (ps ++ [.one r.1]) mt
    else if chr src c = 46 ∨ chr src c = 91 ∨ chr src c = 93 then (pcls src c).bind fun r => ploop src top nest k r.2 (ps ++ [.one r.1]) mt
    else if chr src c = 41 then (if top = true then none else some (ps, mt, c))
    else if chr src c = 40 then
      if chr src (c + 1) = 41 then ploop src top nest k (c + 2) (ps ++ [.pos]) mt
      else (nest (c + 1)).bind fun r => if chr src r.2 = 41 then ploop src top nest k (r.2 + 1) (ps ++ [.cap r.1]) mt else none
    else if chr src c = 42 ∨ chr src c = 43 ∨ chr src c = 45 ∨ chr src c = 63 then
      match ps.getLast? with
      | some (.one cl) => ploop src top nest k (c + 1) (ps.dropLast ++ [.rep (chr src c) cl]) mt
      | _ => none
    else if chr src c = 36 then
      if top = true ∧ c + 1 = src.length then ploop src top nest k (c + 1) ps true
      else ploop src top nest k (c + 1) (ps ++ [.one (.atom (.chr 36))]) mt
    else if chr src c = -1 then (if top = true then some (ps, mt, c) else none)
    else ploop src top nest k (c + 1) (ps ++ [.one (.atom (.chr (chr src c)))]) mt

/-- A nested sequence. -/
def pseq (src : List Int) : Nat → Nat → Option (List Pat × Nat)
  | 0, _ => none
  | D + 1, c => (ploop src false (pseq src D) (src.length + 2) c [] false).map fun r => (r.1, r.2.2)

/-- At the label behind the loop. -/
def AtExit (q : Nat) (R : World → Prop) (a : Act) (w : World) : Prop :=
  a.tmps.size = 308 ∧ a.defers = [] ∧ (a.tmps.getD 5 undef = .pointer (some ⟨q, 0, none⟩)) ∧ R w
set_option maxRecDepth 100000 in
theorem AtExit.open_ {q : Nat} {R : World → Prop} {a : Act} {w : World} (h : AtExit q R a w) : (∃ u : Nat → Value, a = ⟨#[u 0, u 1, u 2, u 3, u 4, .pointer (some ⟨q, 0, none⟩), u 6, u 7, u 8, u 9, u 10, u 11, u 12, u 13, u 14, u 15, u 16, u 17, u 18, u 19, u 20, u 21, u 22, u 23, u 24, u 25, u 26, u 27, u 28, u 29, u 30, u 31, u 32, u 33, u 34, u 35, u 36, u 37, u 38, u 39, u 40, u 41, u 42, u 43, u 44, u 45, u 46, u 47, u 48, u 49, u 50, u 51, u 52, u 53, u 54, u 55, u 56, u 57, u 58, u 59, u 60, u 61, u 62, u 63, u 64, u 65, u 66, u 67, u 68, u 69, u 70, u 71, u 72, u 73, u 74, u 75, u 76, u 77, u 78, u 79, u 80, u 81, u 82, u 83, u 84, u 85, u 86, u 87, u 88, u 89, u 90, u 91, u 92, u 93, u 94, u 95, u 96, u 97, u 98, u 99, u 100, u 101, u 102, u 103, u 104, u 105, u 106, u 107, u 108, u 109, u 110, u 111, u 112, u 113, u 114, u 115, u 116, u 117, u 118, u 119, u 120, u 121, u 122, u 123, u 124, u 125, u 126, u 127, u 128, u 129, u 130, u 131, u 132, u 133, u 134, u 135, u 136, u 137, u 138, u 139, u 140, u 141, u 142, u 143, u 144, u 145, u 146, u 147, u 148, u 149, u 150, u 151, u 152, u 153, u 154, u 155, u 156, u 157, u 158, u 159, u 160, u 161, u 162, u 163, u 164, u 165, u 166, u 167, u 168, u 169, u 170, u 171, u 172, u 173, u 174, u 175, u 176, u 177, u 178, u 179, u 180, u 181, u 182, u 183, u 184, u 185, u 186, u 187, u 188, u 189, u 190, u 191, u 192, u 193, u 194, u 195, u 196, u 197, u 198, u 199, u 200, u 201, u 202, u 203, u 204, u 205, u 206, u 207, u 208, u 209, u 210, u 211, u 212, u 213, u 214, u 215, u 216, u 217, u 218, u 219, u 220, u 221, u 222, u 223, u 224, u 225, u 226, u 227, u 228, u 229, u 230, u 231, u 232, u 233, u 234, u 235, u 236, u 237, u 238, u 239, u 240, u 241, u 242, u 243, u 244, u 245, u 246, u 247, u 248, u 249, u 250, u 251, u 252, u 253, u 254, u 255, u 256, u 257, u 258, u 259, u 260, u 261, u 262, u 263, u 264, u 265, u 266, u 267, u 268, u 269, u 270, u 271, u 272, u 273, u 274, u 275, u 276, u 277, u 278, u 279, u 280, u 281, u 282, u 283, u 284, u 285, u 286, u 287, u 288, u 289, u 290, u 291, u 292, u 293, u 294, u 295, u 296, u 297, u 298, u 299, u 300, u 301, u 302, u 303, u 304, u 305, u 306, u 307], []⟩) ∧ R w := by
  obtain ⟨tmps, defers⟩ := a
  obtain ⟨hs, hd, h5, hR⟩ := h
  refine ⟨⟨fun i => tmps.getD i undef, ?_⟩, hR⟩
  have hd' : defers = [] := hd
  subst hd'
  have k5 : tmps.getD 5 undef = .pointer (some ⟨q, 0, none⟩) := h5
  have h := frame_lit 308 tmps hs
  have h2 : ((List.range 308).map (fun i => tmps.getD i undef)).toArray = #[tmps.getD 0 undef, tmps.getD 1 undef, tmps.getD 2 undef, tmps.getD 3 undef, tmps.getD 4 undef, tmps.getD 5 undef, tmps.getD 6 undef, tmps.getD 7 undef, tmps.getD 8 undef, tmps.getD 9 undef, tmps.getD 10 undef, tmps.getD 11 undef, tmps.getD 12 undef, tmps.getD 13 undef, tmps.getD 14 undef, tmps.getD 15 undef, tmps.getD 16 undef, tmps.getD 17 undef, tmps.getD 18 undef, tmps.getD 19 undef, tmps.getD 20 undef, tmps.getD 21 undef, tmps.getD 22 undef, tmps.getD 23 undef, tmps.getD 24 undef, tmps.getD 25 undef, tmps.getD 26 undef, tmps.getD 27 undef, tmps.getD 28 undef, tmps.getD 29 undef, tmps.getD 30 undef, tmps.getD 31 undef, tmps.getD 32 undef, tmps.getD 33 undef, tmps.getD 34 undef, tmps.getD 35 undef, tmps.getD 36 undef, tmps.getD 37 undef, tmps.getD 38 undef, tmps.getD 39 undef, tmps.getD 40 undef, tmps.getD 41 undef, tmps.getD 42 undef, tmps.getD 43 undef, tmps.getD 44 undef, tmps.getD 45 undef, tmps.getD 46 undef, tmps.getD 47 undef, tmps.getD 48 undef, tmps.getD 49 undef, tmps.getD 50 undef, tmps.getD 51 undef, tmps.getD 52 undef, tmps.getD 53 undef, tmps.getD 54 undef, tmps.getD 55 undef, tmps.getD 56 undef, tmps.getD 57 undef, tmps.getD 58 undef, tmps.getD 59 undef, tmps.getD 60 undef, tmps.getD 61 undef, tmps.getD 62 undef, tmps.getD 63 undef, tmps.getD 64 undef, tmps.getD 65 undef, tmps.getD 66 undef, tmps.getD 67 undef, tmps.getD 68 undef, tmps.getD 69 undef, tmps.getD 70 undef, tmps.getD 71 undef, tmps.getD 72 undef, tmps.getD 73 undef, tmps.getD 74 undef, tmps.getD 75 undef, tmps.getD 76 undef, tmps.getD 77 undef, tmps.getD 78 undef, tmps.getD 79 undef, tmps.getD 80 undef, tmps.getD 81 undef, tmps.getD 82 undef, tmps.getD 83 undef, tmps.getD 84 undef, tmps.getD 85 undef, tmps.getD 86 undef, tmps.getD 87 undef, tmps.getD 88 undef, tmps.getD 89 undef, tmps.getD 90 undef, tmps.getD 91 undef, tmps.getD 92 undef, tmps.getD 93 undef, tmps.getD 94 undef, tmps.getD 95 undef, tmps.getD 96 undef, tmps.getD 97 undef, tmps.getD 98 undef, tmps.getD 99 undef, tmps.getD 100 undef, tmps.getD 101 undef, tmps.getD 102 undef, tmps.getD 103 undef, tmps.getD 104 undef, tmps.getD 105 undef, tmps.getD 106 undef, tmps.getD 107 undef, tmps.getD 108 undef, tmps.getD 109 undef, tmps.getD 110 undef, tmps.getD 111 undef, tmps.getD 112 undef, tmps.getD 113 undef, tmps.getD 114 undef, tmps.getD 115 undef, tmps.getD 116 undef, tmps.getD 117 undef, tmps.getD 118 undef, tmps.getD 119 undef, tmps.getD 120 undef, tmps.getD 121 undef, tmps.getD 122 undef, tmps.getD 123 undef, tmps.getD 124 undef, tmps.getD 125 undef, tmps.getD 126 undef, tmps.getD 127 undef, tmps.getD 128 undef, tmps.getD 129 undef, tmps.getD 130 undef, tmps.getD 131 undef, tmps.getD 132 undef, tmps.getD 133 undef, tmps.getD 134 undef, tmps.getD 135 undef, tmps.getD 136 undef, tmps.getD 137 undef, tmps.getD 138 undef, tmps.getD 139 undef, tmps.getD 140 undef, tmps.getD 141 undef, tmps.getD 142 undef, tmps.getD 143 undef, tmps.getD 144 undef, tmps.getD 145 undef, tmps.getD 146 undef, tmps.getD 147 undef, tmps.getD 148 undef, tmps.getD 149 undef, tmps.getD 150 undef, tmps.getD 151 undef, tmps.getD 152 undef, tmps.getD 153 undef, tmps.getD 154 undef, tmps.getD 155 undef, tmps.getD 156 undef, tmps.getD 157 undef, tmps.getD 158 undef, tmps.getD 159 undef, tmps.getD 160 undef, tmps.getD 161 undef, tmps.getD 162 undef, tmps.getD 163 undef, tmps.getD 164 undef, tmps.getD 165 undef, tmps.getD 166 undef, tmps.getD 167 undef, tmps.getD 168 undef, tmps.getD 169 undef, tmps.getD 170 undef, tmps.getD 171 undef, tmps.getD 172 undef, tmps.getD 173 undef, tmps.getD 174 undef, tmps.getD 175 undef, tmps.getD 176 undef, tmps.getD 177 undef, tmps.getD 178 undef, tmps.getD 179 undef, tmps.getD 180 undef, tmps.getD 181 undef, tmps.getD 182 undef, tmps.getD 183 undef, tmps.getD 184 undef, tmps.getD 185 undef, tmps.getD 186 undef, tmps.getD 187 undef, tmps.getD 188 undef, tmps.getD 189 undef, tmps.getD 190 undef, tmps.getD 191 undef, tmps.getD 192 undef, tmps.getD 193 undef, tmps.getD 194 undef, tmps.getD 195 undef, tmps.getD 196 undef, tmps.getD 197 undef, tmps.getD 198 undef, tmps.getD 199 undef, tmps.getD 200 undef, tmps.getD 201 undef, tmps.getD 202 undef, tmps.getD 203 undef, tmps.getD 204 undef, tmps.getD 205 undef, tmps.getD 206 undef, tmps.getD 207 undef, tmps.getD 208 undef, tmps.getD 209 undef, tmps.getD 210 undef, tmps.getD 211 undef, tmps.getD 212 undef, tmps.getD 213 undef, tmps.getD 214 undef, tmps.getD 215 undef, tmps.getD 216 undef, tmps.getD 217 undef, tmps.getD 218 undef, tmps.getD 219 undef, tmps.getD 220 undef, tmps.getD 221 undef, tmps.getD 222 undef, tmps.getD 223 undef, tmps.getD 224 undef, tmps.getD 225 undef, tmps.getD 226 undef, tmps.getD 227 undef, tmps.getD 228 undef, tmps.getD 229 undef, tmps.getD 230 undef, tmps.getD 231 undef, tmps.getD 232 undef, tmps.getD 233 undef, tmps.getD 234 undef, tmps.getD 235 undef, tmps.getD 236 undef, tmps.getD 237 undef, tmps.getD 238 undef, tmps.getD 239 undef, tmps.getD 240 undef, tmps.getD 241 undef, tmps.getD 242 undef, tmps.getD 243 undef, tmps.getD 244 undef, tmps.getD 245 undef, tmps.getD 246 undef, tmps.getD 247 undef, tmps.getD 248 undef, tmps.getD 249 undef, tmps.getD 250 undef, tmps.getD 251 undef, tmps.getD 252 undef, tmps.getD 253 undef, tmps.getD 254 undef, tmps.getD 255 undef, tmps.getD 256 undef, tmps.getD 257 undef, tmps.getD 258 undef, tmps.getD 259 undef, tmps.getD 260 undef, tmps.getD 261 undef, tmps.getD 262 undef, tmps.getD 263 undef, tmps.getD 264 undef, tmps.getD 265 undef, tmps.getD 266 undef, tmps.getD 267 undef, tmps.getD 268 undef, tmps.getD 269 undef, tmps.getD 270 undef, tmps.getD 271 undef, tmps.getD 272 undef, tmps.getD 273 undef, tmps.getD 274 undef, tmps.getD 275 undef, tmps.getD 276 undef, tmps.getD 277 undef, tmps.getD 278 undef, tmps.getD 279 undef, tmps.getD 280 undef, tmps.getD 281 undef, tmps.getD 282 undef, tmps.getD 283 undef, tmps.getD 284 undef, tmps.getD 285 undef, tmps.getD 286 undef, tmps.getD 287 undef, tmps.getD 288 undef, tmps.getD 289 undef, tmps.getD 290 undef, tmps.getD 291 undef, tmps.getD 292 undef, tmps.getD 293 undef, tmps.getD 294 undef, tmps.getD 295 undef, tmps.getD 296 undef, tmps.getD 297 undef, tmps.getD 298 undef, tmps.getD 299 undef, tmps.getD 300 undef, tmps.getD 301 undef, tmps.getD 302 undef, tmps.getD 303 undef, tmps.getD 304 undef, tmps.getD 305 undef, tmps.getD 306 undef, tmps.getD 307 undef] := rfl
  rw [h2] at h
  rw [k5] at h
  exact congrArg (fun t => Act.mk t []) h
/-- At the loop's head. -/
def AtLoop (g q : Nat) (top : Bool) (R : Nat → World → Prop) (k : Nat) (a : Act) (w : World) : Prop :=
  a.tmps.size = 308 ∧ a.defers = [] ∧ (a.tmps.getD 0 undef = .pointer (some ⟨g, 0, none⟩) ∧ a.tmps.getD 1 undef = .bool top ∧ a.tmps.getD 5 undef = .pointer (some ⟨q, 0, none⟩)) ∧ R k w
set_option maxRecDepth 100000 in
theorem AtLoop.open_ {g q : Nat} {top : Bool} {R : Nat → World → Prop} {k : Nat} {a : Act} {w : World} (h : AtLoop g q top R k a w) : (∃ u : Nat → Value, a = ⟨#[.pointer (some ⟨g, 0, none⟩), .bool top, u 2, u 3, u 4, .pointer (some ⟨q, 0, none⟩), u 6, u 7, u 8, u 9, u 10, u 11, u 12, u 13, u 14, u 15, u 16, u 17, u 18, u 19, u 20, u 21, u 22, u 23, u 24, u 25, u 26, u 27, u 28, u 29, u 30, u 31, u 32, u 33, u 34, u 35, u 36, u 37, u 38, u 39, u 40, u 41, u 42, u 43, u 44, u 45, u 46, u 47, u 48, u 49, u 50, u 51, u 52, u 53, u 54, u 55, u 56, u 57, u 58, u 59, u 60, u 61, u 62, u 63, u 64, u 65, u 66, u 67, u 68, u 69, u 70, u 71, u 72, u 73, u 74, u 75, u 76, u 77, u 78, u 79, u 80, u 81, u 82, u 83, u 84, u 85, u 86, u 87, u 88, u 89, u 90, u 91, u 92, u 93, u 94, u 95, u 96, u 97, u 98, u 99, u 100, u 101, u 102, u 103, u 104, u 105, u 106, u 107, u 108, u 109, u 110, u 111, u 112, u 113, u 114, u 115, u 116, u 117, u 118, u 119, u 120, u 121, u 122, u 123, u 124, u 125, u 126, u 127, u 128, u 129, u 130, u 131, u 132, u 133, u 134, u 135, u 136, u 137, u 138, u 139, u 140, u 141, u 142, u 143, u 144, u 145, u 146, u 147, u 148, u 149, u 150, u 151, u 152, u 153, u 154, u 155, u 156, u 157, u 158, u 159, u 160, u 161, u 162, u 163, u 164, u 165, u 166, u 167, u 168, u 169, u 170, u 171, u 172, u 173, u 174, u 175, u 176, u 177, u 178, u 179, u 180, u 181, u 182, u 183, u 184, u 185, u 186, u 187, u 188, u 189, u 190, u 191, u 192, u 193, u 194, u 195, u 196, u 197, u 198, u 199, u 200, u 201, u 202, u 203, u 204, u 205, u 206, u 207, u 208, u 209, u 210, u 211, u 212, u 213, u 214, u 215, u 216, u 217, u 218, u 219, u 220, u 221, u 222, u 223, u 224, u 225, u 226, u 227, u 228, u 229, u 230, u 231, u 232, u 233, u 234, u 235, u 236, u 237, u 238, u 239, u 240, u 241, u 242, u 243, u 244, u 245, u 246, u 247, u 248, u 249, u 250, u 251, u 252, u 253, u 254, u 255, u 256, u 257, u 258, u 259, u 260, u 261, u 262, u 263, u 264, u 265, u 266, u 267, u 268, u 269, u 270, u 271, u 272, u 273, u 274, u 275, u 276, u 277, u 278, u 279, u 280, u 281, u 282, u 283, u 284, u 285, u 286, u 287, u 288, u 289, u 290, u 291, u 292, u 293, u 294, u 295, u 296, u 297, u 298, u 299, u 300, u 301, u 302, u 303, u 304, u 305, u 306, u 307], []⟩) ∧ R k w := by
  obtain ⟨tmps, defers⟩ := a
  obtain ⟨hs, hd, ⟨h0, h1, h5⟩, hR⟩ := h
  refine ⟨⟨fun i => tmps.getD i undef, ?_⟩, hR⟩
  have hd' : defers = [] := hd
  subst hd'
  have k0 : tmps.getD 0 undef = .pointer (some ⟨g, 0, none⟩) := h0
  have k1 : tmps.getD 1 undef = .bool top := h1
  have k5 : tmps.getD 5 undef = .pointer (some ⟨q, 0, none⟩) := h5
  have h := frame_lit 308 tmps hs
  have h2 : ((List.range 308).map (fun i => tmps.getD i undef)).toArray = #[tmps.getD 0 undef, tmps.getD 1 undef, tmps.getD 2 undef, tmps.getD 3 undef, tmps.getD 4 undef, tmps.getD 5 undef, tmps.getD 6 undef, tmps.getD 7 undef, tmps.getD 8 undef, tmps.getD 9 undef, tmps.getD 10 undef, tmps.getD 11 undef, tmps.getD 12 undef, tmps.getD 13 undef, tmps.getD 14 undef, tmps.getD 15 undef, tmps.getD 16 undef, tmps.getD 17 undef, tmps.getD 18 undef, tmps.getD 19 undef, tmps.getD 20 undef, tmps.getD 21 undef, tmps.getD 22 undef, tmps.getD 23 undef, tmps.getD 24 undef, tmps.getD 25 undef, tmps.getD 26 undef, tmps.getD 27 undef, tmps.getD 28 undef, tmps.getD 29 undef, tmps.getD 30 undef, tmps.getD 31 undef, tmps.getD 32 undef, tmps.getD 33 undef, tmps.getD 34 undef, tmps.getD 35 undef, tmps.getD 36 undef, tmps.getD 37 undef, tmps.getD 38 undef, tmps.getD 39 undef, tmps.getD 40 undef, tmps.getD 41 undef, tmps.getD 42 undef, tmps.getD 43 undef, tmps.getD 44 undef, tmps.getD 45 undef, tmps.getD 46 undef, tmps.getD 47 undef, tmps.getD 48 undef, tmps.getD 49 undef, tmps.getD 50 undef, tmps.getD 51 undef, tmps.getD 52 undef, tmps.getD 53 undef, tmps.getD 54 undef, tmps.getD 55 undef, tmps.getD 56 undef, tmps.getD 57 undef, tmps.getD 58 undef, tmps.getD 59 undef, tmps.getD 60 undef, tmps.getD 61 undef, tmps.getD 62 undef, tmps.getD 63 undef, tmps.getD 64 undef, tmps.getD 65 undef, tmps.getD 66 undef, tmps.getD 67 undef, tmps.getD 68 undef, tmps.getD 69 undef, tmps.getD 70 undef, tmps.getD 71 undef, tmps.getD 72 undef, tmps.getD 73 undef, tmps.getD 74 undef, tmps.getD 75 undef, tmps.getD 76 undef, tmps.getD 77 undef, tmps.getD 78 undef, tmps.getD 79 undef, tmps.getD 80 undef, tmps.getD 81 undef, tmps.getD 82 undef, tmps.getD 83 undef, tmps.getD 84 undef, tmps.getD 85 undef, tmps.getD 86 undef, tmps.getD 87 undef, tmps.getD 88 undef, tmps.getD 89 undef, tmps.getD 90 undef, tmps.getD 91 undef, tmps.getD 92 undef, tmps.getD 93 undef, tmps.getD 94 undef, tmps.getD 95 undef, tmps.getD 96 undef, tmps.getD 97 undef, tmps.getD 98 undef, tmps.getD 99 undef, tmps.getD 100 undef, tmps.getD 101 undef, tmps.getD 102 undef, tmps.getD 103 undef, tmps.getD 104 undef, tmps.getD 105 undef, tmps.getD 106 undef, tmps.getD 107 undef, tmps.getD 108 undef, tmps.getD 109 undef, tmps.getD 110 undef, tmps.getD 111 undef, tmps.getD 112 undef, tmps.getD 113 undef, tmps.getD 114 undef, tmps.getD 115 undef, tmps.getD 116 undef, tmps.getD 117 undef, tmps.getD 118 undef, tmps.getD 119 undef, tmps.getD 120 undef, tmps.getD 121 undef, tmps.getD 122 undef, tmps.getD 123 undef, tmps.getD 124 undef, tmps.getD 125 undef, tmps.getD 126 undef, tmps.getD 127 undef, tmps.getD 128 undef, tmps.getD 129 undef, tmps.getD 130 undef, tmps.getD 131 undef, tmps.getD 132 undef, tmps.getD 133 undef, tmps.getD 134 undef, tmps.getD 135 undef, tmps.getD 136 undef, tmps.getD 137 undef, tmps.getD 138 undef, tmps.getD 139 undef, tmps.getD 140 undef, tmps.getD 141 undef, tmps.getD 142 undef, tmps.getD 143 undef, tmps.getD 144 undef, tmps.getD 145 undef, tmps.getD 146 undef, tmps.getD 147 undef, tmps.getD 148 undef, tmps.getD 149 undef, tmps.getD 150 undef, tmps.getD 151 undef, tmps.getD 152 undef, tmps.getD 153 undef, tmps.getD 154 undef, tmps.getD 155 undef, tmps.getD 156 undef, tmps.getD 157 undef, tmps.getD 158 undef, tmps.getD 159 undef, tmps.getD 160 undef, tmps.getD 161 undef, tmps.getD 162 undef, tmps.getD 163 undef, tmps.getD 164 undef, tmps.getD 165 undef, tmps.getD 166 undef, tmps.getD 167 undef, tmps.getD 168 undef, tmps.getD 169 undef, tmps.getD 170 undef, tmps.getD 171 undef, tmps.getD 172 undef, tmps.getD 173 undef, tmps.getD 174 undef, tmps.getD 175 undef, tmps.getD 176 undef, tmps.getD 177 undef, tmps.getD 178 undef, tmps.getD 179 undef, tmps.getD 180 undef, tmps.getD 181 undef, tmps.getD 182 undef, tmps.getD 183 undef, tmps.getD 184 undef, tmps.getD 185 undef, tmps.getD 186 undef, tmps.getD 187 undef, tmps.getD 188 undef, tmps.getD 189 undef, tmps.getD 190 undef, tmps.getD 191 undef, tmps.getD 192 undef, tmps.getD 193 undef, tmps.getD 194 undef, tmps.getD 195 undef, tmps.getD 196 undef, tmps.getD 197 undef, tmps.getD 198 undef, tmps.getD 199 undef, tmps.getD 200 undef, tmps.getD 201 undef, tmps.getD 202 undef, tmps.getD 203 undef, tmps.getD 204 undef, tmps.getD 205 undef, tmps.getD 206 undef, tmps.getD 207 undef, tmps.getD 208 undef, tmps.getD 209 undef, tmps.getD 210 undef, tmps.getD 211 undef, tmps.getD 212 undef, tmps.getD 213 undef, tmps.getD 214 undef, tmps.getD 215 undef, tmps.getD 216 undef, tmps.getD 217 undef, tmps.getD 218 undef, tmps.getD 219 undef, tmps.getD 220 undef, tmps.getD 221 undef, tmps.getD 222 undef, tmps.getD 223 undef, tmps.getD 224 undef, tmps.getD 225 undef, tmps.getD 226 undef, tmps.getD 227 undef, tmps.getD 228 undef, tmps.getD 229 undef, tmps.getD 230 undef, tmps.getD 231 undef, tmps.getD 232 undef, tmps.getD 233 undef, tmps.getD 234 undef, tmps.getD 235 undef, tmps.getD 236 undef, tmps.getD 237 undef, tmps.getD 238 undef, tmps.getD 239 undef, tmps.getD 240 undef, tmps.getD 241 undef, tmps.getD 242 undef, tmps.getD 243 undef, tmps.getD 244 undef, tmps.getD 245 undef, tmps.getD 246 undef, tmps.getD 247 undef, tmps.getD 248 undef, tmps.getD 249 undef, tmps.getD 250 undef, tmps.getD 251 undef, tmps.getD 252 undef, tmps.getD 253 undef, tmps.getD 254 undef, tmps.getD 255 undef, tmps.getD 256 undef, tmps.getD 257 undef, tmps.getD 258 undef, tmps.getD 259 undef, tmps.getD 260 undef, tmps.getD 261 undef, tmps.getD 262 undef, tmps.getD 263 undef, tmps.getD 264 undef, tmps.getD 265 undef, tmps.getD 266 undef, tmps.getD 267 undef, tmps.getD 268 undef, tmps.getD 269 undef, tmps.getD 270 undef, tmps.getD 271 undef, tmps.getD 272 undef, tmps.getD 273 undef, tmps.getD 274 undef, tmps.getD 275 undef, tmps.getD 276 undef, tmps.getD 277 undef, tmps.getD 278 undef, tmps.getD 279 undef, tmps.getD 280 undef, tmps.getD 281 undef, tmps.getD 282 undef, tmps.getD 283 undef, tmps.getD 284 undef, tmps.getD 285 undef, tmps.getD 286 undef, tmps.getD 287 undef, tmps.getD 288 undef, tmps.getD 289 undef, tmps.getD 290 undef, tmps.getD 291 undef, tmps.getD 292 undef, tmps.getD 293 undef, tmps.getD 294 undef, tmps.getD 295 undef, tmps.getD 296 undef, tmps.getD 297 undef, tmps.getD 298 undef, tmps.getD 299 undef, tmps.getD 300 undef, tmps.getD 301 undef, tmps.getD 302 undef, tmps.getD 303 undef, tmps.getD 304 undef, tmps.getD 305 undef, tmps.getD 306 undef, tmps.getD 307 undef] := rfl
  rw [h2] at h
  rw [k0, k1, k5] at h
  exact congrArg (fun t => Act.mk t []) h
/-- The loop's relation. -/
def PRel (D : Nat) (w0 w : World) (g q : Nat) (A : Option Addr) (src : List Int) (cap : Nat) (mh top : Bool) (nest : Nat → Option (List Pat × Nat)) (res : List Pat × Bool × Nat) (k : Nat) (wr : World) : Prop :=
  ∃ c ps mt v, ps.length ≤ c ∧ ploop src top nest k c ps mt = some res ∧ SeqU D w0 w wr g q A src.length cap mh mt ps c v
/-- The sequence behind an append. -/
def SeqC (D : Nat) (w0 w wc : World) (g q : Nat) (A : Option Addr) (n cap : Nat) (mh mt : Bool) (ps : List Pat) (c : Nat) : Prop := ∃ v, SeqU D w0 w wc g q A n cap mh mt ps c v

/-- What parsePattern, called within a pattern, does of one nesting less. -/
def Nested (D : Nat) (w0 : World) (g : Nat) (A : Option Addr) (src : List Int) (cap : Nat) : Prop :=
  ∀ (w : World) (c : Nat) (ps : List Pat) (c' : Nat), pseq src D c = some (ps, c') → Below w0.heap.size w0 w → Sc w g A src.length cap c none →
    Calls Tryf.prog 26 #[.pointer (some ⟨g, 0, none⟩), .bool false] w fun e w' => ∃ q, e = .returned (.pointer (some ⟨q, 0, none⟩)) ∧ SeqAt (patK D) w' w.heap.size (fun _ => True) q false false ps ∧ Sc w' g A src.length cap c' none ∧ Kp w0 w w' g

section
variable {D : Nat} {w0 w wr w2 : World} {g q n cap c c2 : Nat} {A : Option Addr} {mh mt : Bool} {ps : List Pat} {v u : Value} {x : Pat}
theorem SeqU.new (hB : Below w0.heap.size w0 w) (hsc : Sc w g A n cap c none) :
    SeqU D w0 w (w.alloc (.cells #[.bool false, .bool false, .slice none 0 0] 87)) g w.heap.size A n cap false false [] c (.slice none 0 0) :=
  ⟨Sc.alloc hsc _, Kp.alloc (Kp.refl hB g) _, Nat.le_refl _, blk_new _ _, Kd.R_nil _ _ _ _ _⟩
theorem SeqU.seq (h : SeqU D w0 w wr g q A n cap mh mt ps c v) : SeqAt (patK (D + 1)) wr w.heap.size (fun _ => True) q mh mt ps :=
  ⟨v, ⟨trivial, h.lt, h.hv⟩, Kd.R_mono h.row (fun _ _ => trivial)⟩
theorem SeqU.head (h : SeqU D w0 w wr g q A n cap mh mt ps c v) (hw : w0.heap.size ≤ w.heap.size) (b : Bool) : SeqU D w0 w (wr.setCell ⟨q, 0, none⟩ (.bool b)) g q A n cap b mt ps c v :=
  ⟨h.sc.move (Below.heap_setCell _ _ _ _ (Ne.symm h.ne)), h.kp.own h.lt hw _, h.lt, blk_set h.hv 0 _, Kd.R_far h.row (fun k hk => hk) _⟩
theorem SeqU.tail (h : SeqU D w0 w wr g q A n cap mh mt ps c v) (hw : w0.heap.size ≤ w.heap.size) (b : Bool) : SeqU D w0 w (wr.setCell ⟨q, 1, none⟩ (.bool b)) g q A n cap mh b ps c v :=
  ⟨h.sc.move (Below.heap_setCell _ _ _ _ (Ne.symm h.ne)), h.kp.own h.lt hw _, h.lt, blk_set h.hv 1 _, Kd.R_far h.row (fun k hk => hk) _⟩
theorem SeqU.cut {ps2 : List Pat} {B : Option Addr} {m c5 : Nat} (h : SeqU D w0 w wr g q A n cap mh mt (ps ++ ps2) c (.slice B m c5)) (hw : w0.heap.size ≤ w.heap.size) :
    SeqU D w0 w (wr.setCell ⟨q, 2, none⟩ (.slice B ps.length c5)) g q A n cap mh mt ps c (.slice B ps.length c5) := by
  have hR := Kd.R_take (m := ps.length) h.row (by simp)
  rw [List.take_left] at hR
  exact ⟨h.sc.move (Below.heap_setCell _ _ _ _ (Ne.symm h.ne)), h.kp.own h.lt hw _, h.lt, blk_set h.hv 2 _, Kd.R_far hR (fun k hk => hk) _⟩
theorem SeqU.last {cl : Cls} (h : SeqU D w0 w wr g q A n cap mh mt (ps ++ [.one cl]) c v) :
    ∃ r gp vc cap', v = .slice (some ⟨r, 0, none⟩) (ps.length + 1) cap' ∧ ps.length + 1 ≤ cap' ∧ r < wr.heap.size ∧ wr.cell? ⟨r, ps.length, none⟩ = some (.iface 110 (.pointer (some ⟨gp, 0, none⟩))) ∧
      Blk wr w.heap.size (fun k => k ≠ q ∧ k ≠ r) gp #[vc] 115 ∧ ClsAt wr w.heap.size (fun k => k ≠ q ∧ k ≠ r) vc cl := by
  obtain ⟨r, cap', hv, _, hrl, _⟩ := Kd.R_form h.row (by simp)
  have hR := h.row
  have hlen : (ps ++ [Pat.one cl]).length = ps.length + 1 := by simp
  rw [hv, hlen] at hR
  have hcap := (Kd.R_reads' hR).2.1
  obtain ⟨c1, _, ⟨v1, rfl, k1⟩, hc1, _⟩ := Kd.R_elem hR Pat.pos (ps.length : Nat) (by omega) (by omega)
  have e1 : (ps ++ [Pat.one cl]).getD ((ps.length : Nat) : Int).toNat Pat.pos = Pat.one cl := by simp [List.getD_eq_getElem?_getD]
  rw [e1] at k1
  obtain ⟨gp, vc, rfl, b1, b2⟩ := k1
  have h1 := hc1 0 _ rfl
  rw [patK_sz1] at h1
  simp only [Int.toNat_natCast, Nat.mul_one, Nat.add_zero] at h1
  exact ⟨r, gp, vc, cap', by rw [hv, hlen], hcap, hrl, h1, b1, b2⟩
/-- The sequence behind the cut of its last part, a class (its block gp). -/
structure SeqCut (D : Nat) (w0 w wr : World) (g q : Nat) (A : Option Addr) (n cap : Nat) (mh mt : Bool) (ps : List Pat) (c : Nat) (r m c5 gp : Nat) (vc : Value) (cl : Cls) : Prop where
  s : SeqU D w0 w wr g q A n cap mh mt ps c (.slice (some ⟨r, 0, none⟩) m c5)
  hr : r < wr.heap.size
  bp : Blk wr w.heap.size (fun k => k ≠ q ∧ k ≠ r) gp #[vc] 115
  cp : ClsAt wr w.heap.size (fun k => k ≠ q ∧ k ≠ r) vc cl
theorem SeqCut.mk' {r m c5 gp : Nat} {vc : Value} {cl : Cls} {ps2 : List Pat} (h : SeqU D w0 w wr g q A n cap mh mt (ps ++ ps2) c (.slice (some ⟨r, 0, none⟩) m c5)) (hw : w0.heap.size ≤ w.heap.size) (hr : r < wr.heap.size)
    (hb : Blk wr w.heap.size (fun k => k ≠ q ∧ k ≠ r) gp #[vc] 115) (hc : ClsAt wr w.heap.size (fun k => k ≠ q ∧ k ≠ r) vc cl) :
    SeqCut D w0 w (wr.setCell ⟨q, 2, none⟩ (.slice (some ⟨r, 0, none⟩) ps.length c5)) g q A n cap mh mt ps c r ps.length c5 gp vc cl :=
  ⟨h.cut hw, by simpa [World.setCell] using hr, hb.step (fun k hk _ => Below.heap_setCell _ _ _ _ hk.1), hc.step (fun k hk _ => Below.heap_setCell _ _ _ _ hk.1)⟩
theorem SeqCut.drew {r m c5 gp : Nat} {vc : Value} {cl : Cls} (h : SeqCut D w0 w wr g q A n cap mh mt ps c r m c5 gp vc cl) : SeqCut D w0 w wr.drew g q A n cap mh mt ps c r m c5 gp vc cl :=
  ⟨h.s.drew, h.hr, h.bp.step (fun _ _ _ => rfl), h.cp.step (fun _ _ _ => rfl)⟩
/-- A capture under way: its block gc, the sequence q1 that it holds. -/
structure CapAt (D : Nat) (w0 w wr : World) (g q : Nat) (A : Option Addr) (n cap : Nat) (mh mt : Bool) (ps : List Pat) (c : Nat) (v : Value) (b gc q1 : Nat) (ps1 : List Pat) : Prop where
  s : SeqU D w0 w wr g q A n cap mh mt ps c v
  hwb : w.heap.size ≤ b
  hq : q < b
  hvb : ∀ k, v.ownBlock = some k → k < b
  hg : g < b
  bk : Blk wr b (fun _ => True) gc #[.iface 77 (.pointer (some ⟨q1, 0, none⟩))] 122
  at_ : SeqAt (patK D) wr b (fun _ => True) q1 false false ps1
theorem CapAt.mk' {b q1 : Nat} {ps1 : List Pat} (h : SeqU D w0 w wr g q A n cap mh mt ps c v) (hc : SeqAt (patK D) wr b (fun _ => True) q1 false false ps1) (hwb : w.heap.size ≤ b) (hq : q < b) (hvb : ∀ k, v.ownBlock = some k → k < b) (hb : b ≤ wr.heap.size) (hg : g < b) :
    CapAt D w0 w (wr.alloc (.cells #[.iface 77 (.pointer (some ⟨q1, 0, none⟩))] 122)) g q A n cap mh mt ps c v b wr.heap.size q1 ps1 :=
  ⟨h.alloc _, hwb, hq, hvb, hg, ⟨trivial, hb, blk_new _ _⟩, hc.step (patK_E D) (fun k _ hk => Below.heap_alloc _ _ _ hk)⟩
theorem CapAt.keep {b gc q1 : Nat} {ps1 : List Pat} (h : CapAt D w0 w wr g q A n cap mh mt ps c v b gc q1 ps1) (k : Kp w0 wr w2 g) (hsc : Sc w2 g A n cap c2 none) : CapAt D w0 w w2 g q A n cap mh mt ps c2 v b gc q1 ps1 := by
  have hm : ∀ j, b ≤ j → j < wr.heap.size → w2.heap[j]? = wr.heap[j]? := fun j hj hlt => k.k.2 j hlt (by have := h.hg; omega) (by simp)
  refine ⟨h.s.keep k hsc, h.hwb, h.hq, h.hvb, h.hg, ⟨trivial, h.bk.base, (hm gc h.bk.base (blk_lt h.bk.h)).trans h.bk.h⟩, ?_⟩
  exact (((h.at_.bound (patK_E D)).move (fun j hj => hm j hj.2.1 hj.2.2.1)).mono (fun _ _ => trivial))
theorem ploop_le {top : Bool} {nest : Nat → Option (List Pat × Nat)} (hn : ∀ c r, nest c = some r → c ≤ r.2) {src : List Int} : ∀ {k c : Nat} {ps : List Pat} {mt : Bool} {r : List Pat × Bool × Nat}, ploop src top nest k c ps mt = some r → c ≤ r.2.2 := by
  intro k
  induction k with
  | zero => intro c ps mt r h; simp [ploop] at h
  | succ k ih =>
    intro c ps mt r h
    have hb : ∀ {f : Cls × Nat → Option (List Pat × Bool × Nat)}, (pcls src c).bind f = some r → (∀ x, f x = some r → x.2 ≤ r.2.2) → c ≤ r.2.2 := by
      intro f hf hx
      obtain ⟨x, hp, hq⟩ := Option.bind_eq_some_iff.1 hf
      have h1 := pcls_lt (c' := x.2) (cl := x.1) hp
      have h2 := hx x hq
      omega
    unfold ploop at h
    split at h
    · split at h
      · cases h
      · split at h
        · have := ih h; omega
        · split at h
          · split at h
            · have := ih h; omega
            · cases h
          · exact hb h (fun x hx => ih hx)
    · split at h
      · exact hb h (fun x hx => ih hx)
      · split at h
        · split at h
          · cases h
          · obtain rfl := Option.some.inj h; exact Nat.le_refl _
        · split at h
          · split at h
            · have := ih h; omega
            · obtain ⟨x, hp, hq⟩ := Option.bind_eq_some_iff.1 h
              have h1 := hn _ _ hp
              split at hq
              · have := ih hq; omega
              · cases hq
          · split at h
            · split at h
              · have := ih h; omega
              · cases h
            · split at h
              · split at h
                · have := ih h; omega
                · have := ih h; omega
              · split at h
                · split at h
                  · obtain rfl := Option.some.inj h; exact Nat.le_refl _
                  · cases h
                · have := ih h; omega
theorem pseq_le' {src : List Int} : ∀ (D c : Nat) (r : List Pat × Nat), pseq src D c = some r → c ≤ r.2 := by
  intro D
  induction D with
  | zero => intro c r h; simp [pseq] at h
  | succ D ih =>
    intro c r h
    obtain ⟨x, hx, rfl⟩ := Option.map_eq_some_iff.1 h
    exact ploop_le ih hx
theorem pseq_le {src : List Int} {D c c' : Nat} {ps : List Pat} (h : pseq src D c = some (ps, c')) : c ≤ c' := pseq_le' D c _ h
section
variable {ops : Array Oper} {o : Oper} {a : Act} {Q : Exit → Act → World → Prop} {K : Act → World → Prop} {rest : List Oper}
theorem SeqU.new_ok (h : SeqU D w0 w wr g q A n cap mh mt ps c v) : ∀ k, wr.heap.size ≤ k → k ≠ q ∧ some k ≠ v.ownBlock := by
  intro k hk
  have h1 := blk_lt h.hv
  exact ⟨by omega, fun e => by have := Kd.R_lt h.row k e.symm; omega⟩
/-- A character of its own, appended. -/
theorem SeqU.append_chr {y0 : Int} (h : SeqU D w0 w wr g q A n cap mh mt ps c v) (hw0 : w0.heap.size ≤ w.heap.size) (hl : ps.length ≤ 1000) (hgd : o.guard = none) (s y : Operand) (ho : o.op = .call { callee := .builtin .append, args := #[s, y], argTypes := #[85, 85] })
    (hs : a.eval s = v) (hy : a.eval y = .slice (some ⟨wr.heap.size + 1 + 1, 0, none⟩) 1 1)
    (hK : ∀ A1 n1 c1 w1, SeqU D w0 w (w1.setCell ⟨q, 2, none⟩ (.slice A1 n1 c1)) g q A n cap mh mt (ps ++ [.one (.atom (.chr y0))]) c (.slice A1 n1 c1) → w1.cell? ⟨q, 2, none⟩ = some v → w1.frozen? ⟨q, 2, none⟩ = false → wpList Tryf.prog ops Q rest (a.put o.dst (.slice A1 n1 c1)) w1) :
    wpList Tryf.prog ops Q (o :: rest) a (((wr.alloc (.cells #[.int .i64 y0] 129)).alloc (.cells #[.iface 127 (.pointer (some ⟨wr.heap.size, 0, none⟩))] 115)).alloc (.cells #[.iface 110 (.pointer (some ⟨wr.heap.size + 1, 0, none⟩))] 120)) := by
  have h1 : (wr.alloc (.cells #[.int .i64 y0] 129)).heap.size = wr.heap.size + 1 := by simp
  have h2 : ((wr.alloc (.cells #[.int .i64 y0] 129)).alloc (.cells #[.iface 127 (.pointer (some ⟨wr.heap.size, 0, none⟩))] 115)).heap.size = wr.heap.size + 1 + 1 := by simp
  refine ((h.alloc (.cells #[.int .i64 y0] 129)).alloc (.cells #[.iface 127 (.pointer (some ⟨wr.heap.size, 0, none⟩))] 115)).append_list hgd s y ho hs (by rw [h2]; exact hy) hw0 (fun k => wr.heap.size ≤ k) h.new_ok ?_ hl hK
  exact ⟨wr.heap.size + 1, _, rfl, ⟨by simp, by have := h.kp.k.1; omega, by rw [← h1]; exact blk_new _ _⟩, ⟨wr.heap.size, rfl, Nat.le_refl _, h.kp.k.1, blk_alloc (blk_new _ _) _⟩⟩
theorem ClsAt.iface {w : World} {base : Nat} {ok : Nat → Prop} {v : Value} {c : Cls} (h : ClsAt w base ok v c) : ∃ t x, v = .iface t x := by
  cases c with
  | dot => obtain ⟨g, rfl⟩ := h; exact ⟨_, _, rfl⟩
  | atom a => exact AtomAt.iface h
  | set neg al => obtain ⟨g, v', rfl, _⟩ := h; exact ⟨_, _, rfl⟩
/-- A class of its own, appended, as a step of a region that draws. -/
theorem SeqU.append_one_step {b : Nat} {cl : Cls} {vc : Value} (h : SeqU D w0 w wr g q A n cap mh mt ps c v) (hw0 : w0.heap.size ≤ w.heap.size) (hl : ps.length ≤ 1000) (hw : Region.wanted o (yielded ops a.tmps) = true) (s y : Operand) (ho : o.op = .call { callee := .builtin .append, args := #[s, y], argTypes := #[85, 85] })
    (hs : a.eval s = v) (hy : a.eval y = .slice (some ⟨wr.heap.size + 1, 0, none⟩) 1 1)
    (hwb : w.heap.size ≤ b) (hbr : b ≤ wr.heap.size) (hq : q < b) (hvb : ∀ k, v.ownBlock = some k → k < b) (hc : ClsAt wr b (fun _ => True) vc cl)
    (hK : ∀ A1 n1 c1 w1, SeqU D w0 w (w1.setCell ⟨q, 2, none⟩ (.slice A1 n1 c1)) g q A n cap mh mt (ps ++ [.one cl]) c (.slice A1 n1 c1) → w1.cell? ⟨q, 2, none⟩ = some v → w1.frozen? ⟨q, 2, none⟩ = false → K (a.put o.dst (.slice A1 n1 c1)) w1) :
    if Region.wanted o (yielded ops a.tmps) = true then Oper.wp Tryf.prog o a ((wr.alloc (.cells #[vc] 115)).alloc (.cells #[.iface 110 (.pointer (some ⟨wr.heap.size, 0, none⟩))] 120)) K Q else K (a.put o.dst undef) ((wr.alloc (.cells #[vc] 115)).alloc (.cells #[.iface 110 (.pointer (some ⟨wr.heap.size, 0, none⟩))] 120)) := by
  have h1 : (wr.alloc (.cells #[vc] 115)).heap.size = wr.heap.size + 1 := by simp
  refine (h.alloc (.cells #[vc] 115)).append_step hw s y ho hs (by rw [h1]; exact hy) hw0 (fun k => b ≤ k) (fun k hk => ⟨by omega, fun e => by have := hvb k e.symm; omega⟩) ?_ hl hK
  refine ⟨wr.heap.size, vc, rfl, ⟨hbr, h.kp.k.1, blk_new _ _⟩, ?_⟩
  exact (((hc.bound (fun _ h => h)).lower hwb).mono (fun k hk => hk.2.1)).step (fun k _ hk => Below.heap_alloc _ _ _ hk)
/-- A repetition, appended, as a step of a region that draws. -/
theorem SeqCut.append_rep_step {r m c5 gp : Nat} {vc : Value} {cl : Cls} {t : Int} (h : SeqCut D w0 w wr g q A n cap mh mt ps c r m c5 gp vc cl) (hw0 : w0.heap.size ≤ w.heap.size) (hl : ps.length ≤ 1000) (hw : Region.wanted o (yielded ops a.tmps) = true) (s y : Operand) (ho : o.op = .call { callee := .builtin .append, args := #[s, y], argTypes := #[85, 85] })
    (hs : a.eval s = .slice (some ⟨r, 0, none⟩) m c5) (hy : a.eval y = .slice (some ⟨wr.heap.size + 1, 0, none⟩) 1 1)
    (hK : ∀ A1 n1 c1 w1, SeqU D w0 w (w1.setCell ⟨q, 2, none⟩ (.slice A1 n1 c1)) g q A n cap mh mt (ps ++ [.rep t cl]) c (.slice A1 n1 c1) → w1.cell? ⟨q, 2, none⟩ = some (.slice (some ⟨r, 0, none⟩) m c5) → w1.frozen? ⟨q, 2, none⟩ = false → K (a.put o.dst (.slice A1 n1 c1)) w1) :
    if Region.wanted o (yielded ops a.tmps) = true then Oper.wp Tryf.prog o a ((wr.alloc (.cells #[.int .i64 t, vc] 126)).alloc (.cells #[.iface 124 (.pointer (some ⟨wr.heap.size, 0, none⟩))] 120)) K Q else K (a.put o.dst undef) ((wr.alloc (.cells #[.int .i64 t, vc] 126)).alloc (.cells #[.iface 124 (.pointer (some ⟨wr.heap.size, 0, none⟩))] 120)) := by
  have h1 : (wr.alloc (.cells #[.int .i64 t, vc] 126)).heap.size = wr.heap.size + 1 := by simp
  have hq := blk_lt h.s.hv
  have hr := h.hr
  refine (h.s.alloc (.cells #[.int .i64 t, vc] 126)).append_step hw s y ho hs (by rw [h1]; exact hy) hw0 (fun k => k ≠ q ∧ k ≠ r) (fun k hk => ⟨hk.1, fun e => hk.2 (by simpa [Value.ownBlock] using e)⟩) ?_ hl hK
  exact ⟨wr.heap.size, vc, rfl, ⟨⟨by omega, by omega⟩, h.s.kp.k.1, blk_new _ _⟩, h.cp.step (fun k _ hk => Below.heap_alloc _ _ _ hk)⟩
/-- A capture of a place, appended. -/
theorem SeqU.append_pos (h : SeqU D w0 w wr g q A n cap mh mt ps c v) (hw0 : w0.heap.size ≤ w.heap.size) (hl : ps.length ≤ 1000) (hgd : o.guard = none) (s y : Operand) (ho : o.op = .call { callee := .builtin .append, args := #[s, y], argTypes := #[85, 85] })
    (hs : a.eval s = v) (hy : a.eval y = .slice (some ⟨wr.heap.size + 1, 0, none⟩) 1 1)
    (hK : ∀ A1 n1 c1 w1, SeqU D w0 w (w1.setCell ⟨q, 2, none⟩ (.slice A1 n1 c1)) g q A n cap mh mt (ps ++ [.pos]) c (.slice A1 n1 c1) → w1.cell? ⟨q, 2, none⟩ = some v → w1.frozen? ⟨q, 2, none⟩ = false → wpList Tryf.prog ops Q rest (a.put o.dst (.slice A1 n1 c1)) w1) :
    wpList Tryf.prog ops Q (o :: rest) a ((wr.alloc (.cells #[] 118)).alloc (.cells #[.iface 116 (.pointer (some ⟨wr.heap.size, 0, none⟩))] 120)) := by
  have h1 : (wr.alloc (.cells #[] 118)).heap.size = wr.heap.size + 1 := by simp
  exact (h.alloc (.cells #[] 118)).append_list hgd s y ho hs (by rw [h1]; exact hy) hw0 (fun k => wr.heap.size ≤ k) h.new_ok (x := .pos) ⟨_, rfl⟩ hl hK
/-- A capture, appended: its block lies there already. -/
theorem SeqU.append_cap {b gc q1 : Nat} {ps1 : List Pat} (h : SeqU D w0 w wr g q A n cap mh mt ps c v) (hw0 : w0.heap.size ≤ w.heap.size) (hl : ps.length ≤ 1000) (hgd : o.guard = none) (s y : Operand) (ho : o.op = .call { callee := .builtin .append, args := #[s, y], argTypes := #[85, 85] })
    (hs : a.eval s = v) (hy : a.eval y = .slice (some ⟨wr.heap.size, 0, none⟩) 1 1)
    (hwb : w.heap.size ≤ b) (hq : q < b) (hvb : ∀ k, v.ownBlock = some k → k < b) (hg : Blk wr b (fun _ => True) gc #[.iface 77 (.pointer (some ⟨q1, 0, none⟩))] 122) (hc : SeqAt (patK D) wr b (fun _ => True) q1 false false ps1)
    (hK : ∀ A1 n1 c1 w1, SeqU D w0 w (w1.setCell ⟨q, 2, none⟩ (.slice A1 n1 c1)) g q A n cap mh mt (ps ++ [.cap ps1]) c (.slice A1 n1 c1) → w1.cell? ⟨q, 2, none⟩ = some v → w1.frozen? ⟨q, 2, none⟩ = false → wpList Tryf.prog ops Q rest (a.put o.dst (.slice A1 n1 c1)) w1) :
    wpList Tryf.prog ops Q (o :: rest) a (wr.alloc (.cells #[.iface 119 (.pointer (some ⟨gc, 0, none⟩))] 120)) := by
  refine h.append_list hgd s y ho hs hy hw0 (fun k => b ≤ k) (fun k hk => ⟨by omega, fun e => by have := hvb k e.symm; omega⟩) ?_ hl hK
  exact ⟨gc, q1, rfl, ⟨hg.base, Nat.le_trans hwb hg.base, hg.h⟩, ((hc.bound (patK_E D)).lower hwb).mono (fun k hk => hk.2.1)⟩
end
end
end Go.Proofs.YtpjfjfloeejgiaaFmt.Pat
/- Two appends more. -/
set_option linter.unusedVariables false
set_option linter.unusedSimpArgs false
namespace Go.Proofs.YtpjfjfloeejgiaaFmt.Pat
open Go.RowKit Go.Proofs.YtpjfjfloeejgiaaFmtW.PrintWords Go.Proofs.YtpjfjfloeejgiaaFmt.Scan Go.Proofs.YtpjfjfloeejgiaaFmt.Cls
section
variable {D : Nat} {w0 w wr w2 : World} {g q n cap c c2 : Nat} {A : Option Addr} {mh mt : Bool} {ps : List Pat} {v u : Value} {x : Pat}
variable {ops : Array Oper} {o : Oper} {a : Act} {Q : Exit → Act → World → Prop} {K : Act → World → Prop} {rest : List Oper}
/-- A number, appended, as a step of a region that draws. -/
theorem SeqU.append_num_step {t : Int} (h : SeqU D w0 w wr g q A n cap mh mt ps c v) (hw0 : w0.heap.size ≤ w.heap.size) (hl : ps.length ≤ 1000) (hw : Region.wanted o (yielded ops a.tmps) = true) (s y : Operand) (ho : o.op = .call { callee := .builtin .append, args := #[s, y], argTypes := #[85, 85] })
    (hs : a.eval s = v) (hy : a.eval y = .slice (some ⟨wr.heap.size + 1, 0, none⟩) 1 1)
    (hK : ∀ A1 n1 c1 w1, SeqU D w0 w (w1.setCell ⟨q, 2, none⟩ (.slice A1 n1 c1)) g q A n cap mh mt (ps ++ [.num t]) c (.slice A1 n1 c1) → w1.cell? ⟨q, 2, none⟩ = some v → w1.frozen? ⟨q, 2, none⟩ = false → K (a.put o.dst (.slice A1 n1 c1)) w1) :
    if Region.wanted o (yielded ops a.tmps) = true then Oper.wp Tryf.prog o a ((wr.alloc (.cells #[.int .i64 t] 106)).alloc (.cells #[.iface 104 (.pointer (some ⟨wr.heap.size, 0, none⟩))] 120)) K Q else K (a.put o.dst undef) ((wr.alloc (.cells #[.int .i64 t] 106)).alloc (.cells #[.iface 104 (.pointer (some ⟨wr.heap.size, 0, none⟩))] 120)) := by
  have h1 : (wr.alloc (.cells #[.int .i64 t] 106)).heap.size = wr.heap.size + 1 := by simp
  exact (h.alloc (.cells #[.int .i64 t] 106)).append_step hw s y ho hs (by rw [h1]; exact hy) hw0 (fun k => wr.heap.size ≤ k) h.new_ok (x := .num t) ⟨wr.heap.size, rfl, Nat.le_refl _, h.kp.k.1, blk_new _ _⟩ hl hK
/-- A balanced pair, appended, as a step of a region that draws. -/
theorem SeqU.append_brace_step {t t2 : Int} (h : SeqU D w0 w wr g q A n cap mh mt ps c v) (hw0 : w0.heap.size ≤ w.heap.size) (hl : ps.length ≤ 1000) (hw : Region.wanted o (yielded ops a.tmps) = true) (s y : Operand) (ho : o.op = .call { callee := .builtin .append, args := #[s, y], argTypes := #[85, 85] })
    (hs : a.eval s = v) (hy : a.eval y = .slice (some ⟨wr.heap.size + 1, 0, none⟩) 1 1)
    (hK : ∀ A1 n1 c1 w1, SeqU D w0 w (w1.setCell ⟨q, 2, none⟩ (.slice A1 n1 c1)) g q A n cap mh mt (ps ++ [.brace t t2]) c (.slice A1 n1 c1) → w1.cell? ⟨q, 2, none⟩ = some v → w1.frozen? ⟨q, 2, none⟩ = false → K (a.put o.dst (.slice A1 n1 c1)) w1) :
    if Region.wanted o (yielded ops a.tmps) = true then Oper.wp Tryf.prog o a ((wr.alloc (.cells #[.int .i64 t, .int .i64 t2] 109)).alloc (.cells #[.iface 107 (.pointer (some ⟨wr.heap.size, 0, none⟩))] 120)) K Q else K (a.put o.dst undef) ((wr.alloc (.cells #[.int .i64 t, .int .i64 t2] 109)).alloc (.cells #[.iface 107 (.pointer (some ⟨wr.heap.size, 0, none⟩))] 120)) := by
  have h1 : (wr.alloc (.cells #[.int .i64 t, .int .i64 t2] 109)).heap.size = wr.heap.size + 1 := by simp
  exact (h.alloc (.cells #[.int .i64 t, .int .i64 t2] 109)).append_step hw s y ho hs (by rw [h1]; exact hy) hw0 (fun k => wr.heap.size ≤ k) h.new_ok (x := .brace t t2) ⟨wr.heap.size, rfl, Nat.le_refl _, h.kp.k.1, blk_new _ _⟩ hl hK
end
end Go.Proofs.YtpjfjfloeejgiaaFmt.Pat
/- Type assertions on the parts of a pattern: closed facts. -/
set_option linter.unusedVariables false
set_option linter.unusedSimpArgs false
namespace Go.Proofs.YtpjfjfloeejgiaaFmt.Asserts
open Go.RowKit
theorem ta110 (x : Value) (w : World) : (Instr.typeAssert (.iface 110 x) 120 110 true).run Tryf.prog w = .ok (.tuple #[x, .bool true]) w := by kernel_rfl
theorem ta110not77 (x : Value) (w : World) : (Instr.typeAssert (.iface 110 x) 120 77 true).run Tryf.prog w = .ok (.tuple #[.pointer none, .bool false]) w := by kernel_rfl
theorem ta110not124 (x : Value) (w : World) : (Instr.typeAssert (.iface 110 x) 120 124 true).run Tryf.prog w = .ok (.tuple #[.pointer none, .bool false]) w := by kernel_rfl
theorem ta110not116 (x : Value) (w : World) : (Instr.typeAssert (.iface 110 x) 120 116 true).run Tryf.prog w = .ok (.tuple #[.pointer none, .bool false]) w := by kernel_rfl
theorem ta110not119 (x : Value) (w : World) : (Instr.typeAssert (.iface 110 x) 120 119 true).run Tryf.prog w = .ok (.tuple #[.pointer none, .bool false]) w := by kernel_rfl
theorem ta110not107 (x : Value) (w : World) : (Instr.typeAssert (.iface 110 x) 120 107 true).run Tryf.prog w = .ok (.tuple #[.pointer none, .bool false]) w := by kernel_rfl
theorem ta110not104 (x : Value) (w : World) : (Instr.typeAssert (.iface 110 x) 120 104 true).run Tryf.prog w = .ok (.tuple #[.pointer none, .bool false]) w := by kernel_rfl
theorem ta77not110 (x : Value) (w : World) : (Instr.typeAssert (.iface 77 x) 120 110 true).run Tryf.prog w = .ok (.tuple #[.pointer none, .bool false]) w := by kernel_rfl
theorem ta77 (x : Value) (w : World) : (Instr.typeAssert (.iface 77 x) 120 77 true).run Tryf.prog w = .ok (.tuple #[x, .bool true]) w := by kernel_rfl
theorem ta77not124 (x : Value) (w : World) : (Instr.typeAssert (.iface 77 x) 120 124 true).run Tryf.prog w = .ok (.tuple #[.pointer none, .bool false]) w := by kernel_rfl
theorem ta77not116 (x : Value) (w : World) : (Instr.typeAssert (.iface 77 x) 120 116 true).run Tryf.prog w = .ok (.tuple #[.pointer none, .bool false]) w := by kernel_rfl
theorem ta77not119 (x : Value) (w : World) : (Instr.typeAssert (.iface 77 x) 120 119 true).run Tryf.prog w = .ok (.tuple #[.pointer none, .bool false]) w := by kernel_rfl
theorem ta77not107 (x : Value) (w : World) : (Instr.typeAssert (.iface 77 x) 120 107 true).run Tryf.prog w = .ok (.tuple #[.pointer none, .bool false]) w := by kernel_rfl
theorem ta77not104 (x : Value) (w : World) : (Instr.typeAssert (.iface 77 x) 120 104 true).run Tryf.prog w = .ok (.tuple #[.pointer none, .bool false]) w := by kernel_rfl
theorem ta124not110 (x : Value) (w : World) : (Instr.typeAssert (.iface 124 x) 120 110 true).run Tryf.prog w = .ok (.tuple #[.pointer none, .bool false]) w := by kernel_rfl
theorem ta124not77 (x : Value) (w : World) : (Instr.typeAssert (.iface 124 x) 120 77 true).run Tryf.prog w = .ok (.tuple #[.pointer none, .bool false]) w := by kernel_rfl
theorem ta124 (x : Value) (w : World) : (Instr.typeAssert (.iface 124 x) 120 124 true).run Tryf.prog w = .ok (.tuple #[x, .bool true]) w := by kernel_rfl
theorem ta124not116 (x : Value) (w : World) : (Instr.typeAssert (.iface 124 x) 120 116 true).run Tryf.prog w = .ok (.tuple #[.pointer none, .bool false]) w := by kernel_rfl
theorem ta124not119 (x : Value) (w : World) : (Instr.typeAssert (.iface 124 x) 120 119 true).run Tryf.prog w = .ok (.tuple #[.pointer none, .bool false]) w := by kernel_rfl
theorem ta124not107 (x : Value) (w : World) : (Instr.typeAssert (.iface 124 x) 120 107 true).run Tryf.prog w = .ok (.tuple #[.pointer none, .bool false]) w := by kernel_rfl
theorem ta124not104 (x : Value) (w : World) : (Instr.typeAssert (.iface 124 x) 120 104 true).run Tryf.prog w = .ok (.tuple #[.pointer none, .bool false]) w := by kernel_rfl
theorem ta116not110 (x : Value) (w : World) : (Instr.typeAssert (.iface 116 x) 120 110 true).run Tryf.prog w = .ok (.tuple #[.pointer none, .bool false]) w := by kernel_rfl
theorem ta116not77 (x : Value) (w : World) : (Instr.typeAssert (.iface 116 x) 120 77 true).run Tryf.prog w = .ok (.tuple #[.pointer none, .bool false]) w := by kernel_rfl
theorem ta116not124 (x : Value) (w : World) : (Instr.typeAssert (.iface 116 x) 120 124 true).run Tryf.prog w = .ok (.tuple #[.pointer none, .bool false]) w := by kernel_rfl
theorem ta116 (x : Value) (w : World) : (Instr.typeAssert (.iface 116 x) 120 116 true).run Tryf.prog w = .ok (.tuple #[x, .bool true]) w := by kernel_rfl
theorem ta116not119 (x : Value) (w : World) : (Instr.typeAssert (.iface 116 x) 120 119 true).run Tryf.prog w = .ok (.tuple #[.pointer none, .bool false]) w := by kernel_rfl
theorem ta116not107 (x : Value) (w : World) : (Instr.typeAssert (.iface 116 x) 120 107 true).run Tryf.prog w = .ok (.tuple #[.pointer none, .bool false]) w := by kernel_rfl
theorem ta116not104 (x : Value) (w : World) : (Instr.typeAssert (.iface 116 x) 120 104 true).run Tryf.prog w = .ok (.tuple #[.pointer none, .bool false]) w := by kernel_rfl
theorem ta119not110 (x : Value) (w : World) : (Instr.typeAssert (.iface 119 x) 120 110 true).run Tryf.prog w = .ok (.tuple #[.pointer none, .bool false]) w := by kernel_rfl
theorem ta119not77 (x : Value) (w : World) : (Instr.typeAssert (.iface 119 x) 120 77 true).run Tryf.prog w = .ok (.tuple #[.pointer none, .bool false]) w := by kernel_rfl
theorem ta119not124 (x : Value) (w : World) : (Instr.typeAssert (.iface 119 x) 120 124 true).run Tryf.prog w = .ok (.tuple #[.pointer none, .bool false]) w := by kernel_rfl
theorem ta119not116 (x : Value) (w : World) : (Instr.typeAssert (.iface 119 x) 120 116 true).run Tryf.prog w = .ok (.tuple #[.pointer none, .bool false]) w := by kernel_rfl
theorem ta119 (x : Value) (w : World) : (Instr.typeAssert (.iface 119 x) 120 119 true).run Tryf.prog w = .ok (.tuple #[x, .bool true]) w := by kernel_rfl
theorem ta119not107 (x : Value) (w : World) : (Instr.typeAssert (.iface 119 x) 120 107 true).run Tryf.prog w = .ok (.tuple #[.pointer none, .bool false]) w := by kernel_rfl
theorem ta119not104 (x : Value) (w : World) : (Instr.typeAssert (.iface 119 x) 120 104 true).run Tryf.prog w = .ok (.tuple #[.pointer none, .bool false]) w := by kernel_rfl
theorem ta107not110 (x : Value) (w : World) : (Instr.typeAssert (.iface 107 x) 120 110 true).run Tryf.prog w = .ok (.tuple #[.pointer none, .bool false]) w := by kernel_rfl
theorem ta107not77 (x : Value) (w : World) : (Instr.typeAssert (.iface 107 x) 120 77 true).run Tryf.prog w = .ok (.tuple #[.pointer none, .bool false]) w := by kernel_rfl
theorem ta107not124 (x : Value) (w : World) : (Instr.typeAssert (.iface 107 x) 120 124 true).run Tryf.prog w = .ok (.tuple #[.pointer none, .bool false]) w := by kernel_rfl
theorem ta107not116 (x : Value) (w : World) : (Instr.typeAssert (.iface 107 x) 120 116 true).run Tryf.prog w = .ok (.tuple #[.pointer none, .bool false]) w := by kernel_rfl
theorem ta107not119 (x : Value) (w : World) : (Instr.typeAssert (.iface 107 x) 120 119 true).run Tryf.prog w = .ok (.tuple #[.pointer none, .bool false]) w := by kernel_rfl
theorem ta107 (x : Value) (w : World) : (Instr.typeAssert (.iface 107 x) 120 107 true).run Tryf.prog w = .ok (.tuple #[x, .bool true]) w := by kernel_rfl
theorem ta107not104 (x : Value) (w : World) : (Instr.typeAssert (.iface 107 x) 120 104 true).run Tryf.prog w = .ok (.tuple #[.pointer none, .bool false]) w := by kernel_rfl
theorem ta104not110 (x : Value) (w : World) : (Instr.typeAssert (.iface 104 x) 120 110 true).run Tryf.prog w = .ok (.tuple #[.pointer none, .bool false]) w := by kernel_rfl
theorem ta104not77 (x : Value) (w : World) : (Instr.typeAssert (.iface 104 x) 120 77 true).run Tryf.prog w = .ok (.tuple #[.pointer none, .bool false]) w := by kernel_rfl
theorem ta104not124 (x : Value) (w : World) : (Instr.typeAssert (.iface 104 x) 120 124 true).run Tryf.prog w = .ok (.tuple #[.pointer none, .bool false]) w := by kernel_rfl
theorem ta104not116 (x : Value) (w : World) : (Instr.typeAssert (.iface 104 x) 120 116 true).run Tryf.prog w = .ok (.tuple #[.pointer none, .bool false]) w := by kernel_rfl
theorem ta104not119 (x : Value) (w : World) : (Instr.typeAssert (.iface 104 x) 120 119 true).run Tryf.prog w = .ok (.tuple #[.pointer none, .bool false]) w := by kernel_rfl
theorem ta104not107 (x : Value) (w : World) : (Instr.typeAssert (.iface 104 x) 120 107 true).run Tryf.prog w = .ok (.tuple #[.pointer none, .bool false]) w := by kernel_rfl
theorem ta104 (x : Value) (w : World) : (Instr.typeAssert (.iface 104 x) 120 104 true).run Tryf.prog w = .ok (.tuple #[x, .bool true]) w := by kernel_rfl
theorem ta77bare (x : Value) (w : World) : (Instr.typeAssert (.iface 77 x) 120 77 false).run Tryf.prog w = .ok x w := by kernel_rfl
end Go.Proofs.YtpjfjfloeejgiaaFmt.Asserts
/- The compiled instructions in memory; the compiler's state; what an append to it leaves. -/
set_option linter.unusedVariables false
set_option linter.unusedSimpArgs false
namespace Go.Proofs.YtpjfjfloeejgiaaFmt.Ins
open Go.RowKit Go.Proofs.YtpjfjfloeejgiaaFmtW.PrintWords Go.Proofs.YtpjfjfloeejgiaaFmt.Scan Go.Proofs.YtpjfjfloeejgiaaFmt.Cls Go.Proofs.YtpjfjfloeejgiaaFmt.Pat

/-- An instruction: a class to be met; or an operation and its two operands. -/
inductive Ins where
  | chr (c : Cls)
  | op (o a b : Int)

def InsM (w : World) (base : Nat) (ok : Nat → Prop) (x : Ins) (cs : List Value) : Prop :=
  match x with
  | .chr c => ∃ v, cs = [.int .i64 0, v, .int .i64 (-1), .int .i64 (-1)] ∧ ClsAt w base ok v c
  | .op o a b => cs = [.int .i64 o, .nilIface, .int .i64 a, .int .i64 b]

theorem InsM.mono {w : World} {base : Nat} {ok ok' : Nat → Prop} {x : Ins} {cs : List Value} (h : InsM w base ok x cs) (hok : ∀ k, ok k → ok' k) : InsM w base ok' x cs := by
  cases x with
  | chr c => obtain ⟨v, e, h⟩ := h; exact ⟨v, e, h.mono hok⟩
  | op o a b => exact h
theorem InsM.lower {w : World} {base base' : Nat} {ok : Nat → Prop} {x : Ins} {cs : List Value} (h : InsM w base ok x cs) (hb : base' ≤ base) : InsM w base' ok x cs := by
  cases x with
  | chr c => obtain ⟨v, e, h⟩ := h; exact ⟨v, e, h.lower hb⟩
  | op o a b => exact h
theorem InsM.move {w w1 : World} {base : Nat} {ok : Nat → Prop} {x : Ins} {cs : List Value} (h : InsM w base ok x cs) (hm : ∀ k, ok k → w1.heap[k]? = w.heap[k]?) : InsM w1 base ok x cs := by
  cases x with
  | chr c => obtain ⟨v, e, h⟩ := h; exact ⟨v, e, h.move hm⟩
  | op o a b => exact h
theorem InsM.bound {w : World} {base : Nat} {ok : Nat → Prop} {x : Ins} {cs : List Value} (h : InsM w base ok x cs) : InsM w base (Bd w base ok [129, 160, 173, 170, 112]) x cs := by
  cases x with
  | chr c => obtain ⟨v, e, h⟩ := h; exact ⟨v, e, h.bound (fun _ h => h)⟩
  | op o a b => exact h

def insK : Kd Ins where
  sz := 4
  E := [129, 160, 173, 170, 112]
  K := fun w x cs => InsM w 0 (fun _ => True) x cs
  M := InsM
  K_len := by
    intro w x cs h
    cases x with
    | chr c => obtain ⟨v, rfl, h⟩ := h; rfl
    | op o a b => rw [show cs = _ from h]; rfl
  K_one := by
    intro w x cs h u hu
    cases x with
    | chr c =>
      obtain ⟨v, rfl, h⟩ := h
      simp only [List.mem_cons, List.not_mem_nil, or_false] at hu
      rcases hu with rfl | rfl | rfl | rfl
      · rfl
      · exact h.one
      · rfl
      · rfl
    | op o a b =>
      rw [show cs = _ from h] at hu
      simp only [List.mem_cons, List.not_mem_nil, or_false] at hu
      rcases hu with rfl | rfl | rfl | rfl <;> rfl
  K_below := by
    intro w w1 x cs hb h
    exact (h.bound.move (fun k hk => hb.block k hk.2.2.1)).mono (fun _ _ => trivial)
  K_of_M := by intro w base ok x cs h; exact (h.mono (fun _ _ => trivial)).lower (Nat.zero_le _)
  M_mono := by intro w base ok ok' x cs hok h; exact h.mono hok
  M_bound := by intro w base ok x cs h; exact h.bound
  M_move := by intro w w1 base ok x cs hm h; exact h.move hm
  M_lower := by intro w base base' ok x cs hb h; exact h.lower hb

theorem info138 : (Tryf.prog.info? 138).map (fun i => (i.zero, i.size, i.bytes)) = some (some (.agg #[.int .i64 0, .nilIface, .int .i64 0, .int .i64 0]), 4, 40) := by kernel_rfl

section
variable {α : Type}
theorem R_appended_many {d : Kd α} {e base : Nat} {ok okp : Nat → Prop} {W w1 : World} {v v1 : Value} {xs ps : List α} {inner cs : List Value} (h0 : ∀ k, v.ownBlock = some k → ok k) (hr : Reps (d.M W base (fun k => ok k ∧ some k ≠ v.ownBlock)) d.sz xs inner) (hp : Reps (d.M W base okp) d.sz ps cs) (hokp : ∀ k, okp k → ok k ∧ some k ≠ v.ownBlock) (hfresh : ∀ k, W.heap.size ≤ k → ok k)
    (hown : w1.ownsRow base e d.sz v1 (xs.length + ps.length) (inner ++ cs)) (hg : W.grownBy w1 v.ownBlock) (hat : v1.ownBlock = v.ownBlock ∨ ∃ b, v1.ownBlock = some b ∧ W.heap.size ≤ b) : d.R e w1 base ok v1 (xs ++ ps) := by
  have hne : ∀ k, some k ≠ v.ownBlock → k < W.heap.size → some k ≠ v1.ownBlock := by
    intro k hk hlt
    rcases hat with hat | ⟨b, hb, hle⟩
    · rw [hat]; exact hk
    · rw [hb]
      intro he
      injection he with he
      omega
  have step : ∀ {q : α} {c : List Value} {o : Nat → Prop}, d.M W base o q c → (∀ k, o k → ok k ∧ some k ≠ v.ownBlock) → d.M w1 base (fun k => ok k ∧ some k ≠ v1.ownBlock) q c := by
    intro q c o hq ho
    have h1 := d.M_move (w1 := w1) (fun k hk => hg.block k hk.2.2.1 (ho k hk.1).2) (d.M_bound hq)
    exact d.M_mono (fun k hk => ⟨(ho k hk.1).1, hne k (ho k hk.1).2 hk.2.2.1⟩) h1
  refine ⟨fun k hk => ?_, inner ++ cs, by rw [List.length_append]; exact hown, ?_⟩
  · rcases hat with hat | ⟨b, hb, hle⟩
    · exact h0 k (hat ▸ hk)
    · rw [hb] at hk
      injection hk with hk
      exact hfresh k (by omega)
  · exact Kd.reps_append (hr.imp_ (fun _ _ hq => step hq (fun _ hk => hk))) (hp.imp_ (fun _ _ hq => step hq hokp))
end

section
variable {P : Program} {ops : Array Oper} {o : Oper} {a : Act} {Q : Exit → Act → World → Prop} {Kc : Act → World → Prop} {rest : List Oper} {α : Type}
/-- What an append of a row just made leaves (its run). -/
theorem run_append_many (d : Kd α) {w0 W : World} (base : Nat) (t e ty : TypeId) (z : Value) (bytes : Nat)
    (ht : P.underlying t = some (.slice e)) (hinfo : (P.info? e).map (fun i => (i.zero, i.size, i.bytes)) = some (some z, d.sz, bytes)) (hz : z.cells.size = d.sz) (hs0 : 0 < d.sz) (hb0 : 0 < bytes)
    (v : Value) (xs ps : List α) (cs : List Value) (ok okp : Nat → Prop) (hp : Reps (d.M W base okp) d.sz ps cs) (h1 : ∀ u ∈ cs, u.oneCell' = true) (hokp : ∀ k, okp k → ok k ∧ some k ≠ v.ownBlock) (hfresh : ∀ k, W.heap.size ≤ k → ok k)
    (HO : d.R e W base ok v xs) (HB : Below base w0 W) (hbase : base ≤ W.heap.size) (hl : (xs.length + ps.length) * bytes ≤ 140737488355328) :
    ∃ v1 w1, (Builtin.append_ #[t, t] ty #[v, .slice (some ⟨W.heap.size, 0, none⟩) ps.length ps.length]).run P (W.alloc (.cells cs.toArray e)) = .ok v1 w1 ∧ d.R e w1 base ok v1 (xs ++ ps) ∧ Below base w0 w1 ∧ W.grownBy w1 v.ownBlock ∧ (v1.ownBlock = v.ownBlock ∨ ∃ b, v1.ownBlock = some b ∧ W.heap.size ≤ b) := by
  obtain ⟨h0, inner, hown, hr⟩ := HO
  obtain ⟨i0, hi, hzz⟩ := Option.map_eq_some_iff.1 hinfo
  simp only [Prod.mk.injEq] at hzz
  obtain ⟨hz0, hz1, hz2⟩ := hzz
  have hlen : xs.length + ps.length ≤ 140737488355328 := Nat.le_trans (Nat.le_mul_of_pos_right _ hb0) hl
  obtain ⟨v1, w1, hrun, hown1, hg, _, hat⟩ := run_append_own_at (P := P) (W.alloc (.cells cs.toArray e)) base t ty e i0 z d.sz bytes ht hi hz0 hz1 hz2 hz hs0 v xs.length inner (hown.alloc _) ⟨W.heap.size, 0, none⟩ ps.length ps.length cs hp.1
    (by simpa using World.news_of_block (cs := cs.toArray) (t := e) (fr := (0, 0)) (heap_alloc_new W (.cells cs.toArray e))) h1 (by simp only [maxLen]; omega) hl (by simp; omega)
  have hg' := World.grownBy.trans (World.grownBy_alloc W (.cells cs.toArray e) v.ownBlock) hg
  have hat' : v1.ownBlock = v.ownBlock ∨ ∃ b, v1.ownBlock = some b ∧ W.heap.size ≤ b := by
    rcases hat with hat | hat
    · exact .inl hat
    · exact .inr ⟨_, hat, by simp⟩
  exact ⟨v1, w1, hrun, R_appended_many h0 hr hp hokp hfresh hown1 hg' hat', (HB.alloc hbase _).grown hg (by simp; omega) (own_base hown), hg', hat'⟩
end

/-- The compiler's state: its block, its row of instructions; the pattern (elder than w) lies untouched. -/
structure CmpU (w0 w wr : World) (g : Nat) (ins : List Ins) (cp : Nat) (v : Value) : Prop where
  le : w0.heap.size ≤ w.heap.size
  b : Below w.heap.size w wr
  lt : w.heap.size ≤ g
  hv : wr.heap[g]? = some (.cells #[v, .int .i64 cp] 140 (0, 0))
  own : ∀ k, v.ownBlock = some k → w.heap.size ≤ k
  row : insK.R 138 wr w0.heap.size (fun k => k ≠ g) v ins

section
variable {w0 w wr w2 : World} {g cp : Nat} {ins ps : List Ins} {v u : Value} {cs : List Value}
variable {ops : Array Oper} {o : Oper} {a : Act} {Q : Exit → Act → World → Prop} {K : Act → World → Prop} {rest : List Oper}
theorem CmpU.drewN (h : CmpU w0 w wr g ins cp v) (m : Nat) : CmpU w0 w (wr.drewN m) g ins cp v := ⟨h.le, pw_below_drewN h.b m, h.lt, h.hv, h.own, Kd.R_drewN h.row m⟩
theorem CmpU.drew (h : CmpU w0 w wr g ins cp v) : CmpU w0 w wr.drew g ins cp v := ⟨h.le, below_drew h.b, h.lt, h.hv, h.own, Kd.R_drew h.row⟩
theorem CmpU.alloc (h : CmpU w0 w wr g ins cp v) (ob : Obj) : CmpU w0 w (wr.alloc ob) g ins cp v := ⟨h.le, below_alloc h.b ob, h.lt, blk_alloc h.hv _, h.own, Kd.R_alloc h.row _⟩
theorem CmpU.caps (h : CmpU w0 w wr g ins cp v) (x : Nat) : CmpU w0 w (wr.setCell ⟨g, 1, none⟩ (.int .i64 x)) g ins x v := ⟨h.le, below_set h.b h.lt, h.lt, blk_set h.hv 1 _, h.own, Kd.R_far h.row (fun k hk => hk) _⟩
theorem CmpU.after (h : CmpU w0 w wr g ins cp v) {v1 : Value} {w1 : World} {ins1 : List Ins} (hR : insK.R 138 w1 w0.heap.size (fun k => k ≠ g) v1 ins1) (hg : wr.grownBy w1 v.ownBlock) (hat : v1.ownBlock = v.ownBlock ∨ ∃ b, v1.ownBlock = some b ∧ wr.heap.size ≤ b) :
    ∃ A1 n1 c1, v1 = .slice A1 n1 c1 ∧ CmpU w0 w (w1.setCell ⟨g, 0, none⟩ (.slice A1 n1 c1)) g ins1 cp (.slice A1 n1 c1) ∧ w1.cell? ⟨g, 0, none⟩ = some v ∧ w1.frozen? ⟨g, 0, none⟩ = false := by
  obtain ⟨A1, c1, rfl⟩ := Kd.R_slice hR
  have hgs : some g ≠ v.ownBlock := Kd.R_away h.row (fun k hk => hk)
  have hv1 : w1.heap[g]? = some (.cells #[v, .int .i64 cp] 140 (0, 0)) := blk_grown h.hv hg hgs
  have hb := h.b.size
  refine ⟨_, _, _, rfl, ⟨h.le, below_set (h.b.grown hg hb h.own) h.lt, h.lt, blk_set hv1 0 _, ?_, Kd.R_far hR (fun k hk => hk) _⟩, blk_cell hv1 0, blk_frozen hv1 0⟩
  intro k hk
  rcases hat with hat | ⟨b, hbk, hle⟩
  · exact h.own k (hat ▸ hk)
  · rw [hbk] at hk
    injection hk with hk
    omega
theorem z138 : (Value.agg #[.int .i64 0, .nilIface, .int .i64 0, .int .i64 0]).cells.size = 4 := by decide
theorem CmpU.run (h : CmpU w0 w wr g ins cp v) (ty : TypeId) (okp : Nat → Prop) (hp : Reps (InsM wr w0.heap.size (fun k => k < w.heap.size)) 4 ps cs) (h1 : ∀ u ∈ cs, u.oneCell' = true) (hl : ins.length + ps.length ≤ 1000000) :
    ∃ A1 n1 c1 w1, (Builtin.append_ #[81, 81] ty #[v, .slice (some ⟨wr.heap.size, 0, none⟩) ps.length ps.length]).run Tryf.prog (wr.alloc (.cells cs.toArray 138)) = .ok (.slice A1 n1 c1) w1 ∧
      CmpU w0 w (w1.setCell ⟨g, 0, none⟩ (.slice A1 n1 c1)) g (ins ++ ps) cp (.slice A1 n1 c1) ∧ w1.cell? ⟨g, 0, none⟩ = some v ∧ w1.frozen? ⟨g, 0, none⟩ = false := by
  have hlt := blk_lt h.hv
  have hsz := h.b.size
  have hw := h.lt
  have hle := h.le
  obtain ⟨v1, w1, hrun, hR, _, hg, hat⟩ := run_append_many (P := Tryf.prog) insK (w0 := wr) (W := wr) w0.heap.size 81 138 ty _ 40 Tryf.underlying81 info138 z138 (by decide) (by decide) v ins ps cs (fun k => k ≠ g) (fun k => k < w.heap.size) hp h1
    (fun k hk => ⟨by omega, fun e => by have := h.own k e.symm; omega⟩) (fun k hk => by omega) h.row (Below.refl _ _) (by omega) (by omega)
  obtain ⟨A1, n1, c1, rfl, k1, k2, k3⟩ := h.after hR hg hat
  exact ⟨_, _, _, _, hrun, k1, k2, k3⟩
/-- An append as a step of a region that draws. -/
theorem CmpU.step (h : CmpU w0 w wr g ins cp v) (hw : Region.wanted o (yielded ops a.tmps) = true) (s y : Operand) (ho : o.op = .call { callee := .builtin .append, args := #[s, y], argTypes := #[81, 81] })
    (hs : a.eval s = v) {m : Nat} (hy : a.eval y = .slice (some ⟨wr.heap.size, 0, none⟩) m m) (hm : ps.length = m) (hp : Reps (InsM wr w0.heap.size (fun k => k < w.heap.size)) 4 ps cs) (h1 : ∀ u ∈ cs, u.oneCell' = true) (hl : ins.length + ps.length ≤ 1000000)
    (hK : ∀ A1 n1 c1 w1, CmpU w0 w (w1.setCell ⟨g, 0, none⟩ (.slice A1 n1 c1)) g (ins ++ ps) cp (.slice A1 n1 c1) → w1.cell? ⟨g, 0, none⟩ = some v → w1.frozen? ⟨g, 0, none⟩ = false → K (a.put o.dst (.slice A1 n1 c1)) w1) :
    if Region.wanted o (yielded ops a.tmps) = true then Oper.wp Tryf.prog o a (wr.alloc (.cells cs.toArray 138)) K Q else K (a.put o.dst undef) (wr.alloc (.cells cs.toArray 138)) := by
  subst hm
  rw [if_pos hw]
  obtain ⟨A1, n1, c1, w1, hrun, k1, k2, k3⟩ := h.run o.type (fun k => k < w.heap.size) hp h1 hl
  unfold Oper.wp execOp
  simp only [ho, resolve, invoke, builtin, Sem.run_bind, Sem.run_pure, Result.andThen_ok, List.map_toArray, List.map_cons, List.map_nil, hs, hy, hrun]
  exact hK _ _ _ _ k1 k2 k3
theorem CmpU.list (h : CmpU w0 w wr g ins cp v) (hgd : o.guard = none) (s y : Operand) (ho : o.op = .call { callee := .builtin .append, args := #[s, y], argTypes := #[81, 81] })
    (hs : a.eval s = v) {m : Nat} (hy : a.eval y = .slice (some ⟨wr.heap.size, 0, none⟩) m m) (hm : ps.length = m) (hp : Reps (InsM wr w0.heap.size (fun k => k < w.heap.size)) 4 ps cs) (h1 : ∀ u ∈ cs, u.oneCell' = true) (hl : ins.length + ps.length ≤ 1000000)
    (hK : ∀ A1 n1 c1 w1, CmpU w0 w (w1.setCell ⟨g, 0, none⟩ (.slice A1 n1 c1)) g (ins ++ ps) cp (.slice A1 n1 c1) → w1.cell? ⟨g, 0, none⟩ = some v → w1.frozen? ⟨g, 0, none⟩ = false → wpList Tryf.prog ops Q rest (a.put o.dst (.slice A1 n1 c1)) w1) :
    wpList Tryf.prog ops Q (o :: rest) a (wr.alloc (.cells cs.toArray 138)) := by
  subst hm
  refine wpList_plain hgd fun K hK2 => ?_
  obtain ⟨A1, n1, c1, w1, hrun, k1, k2, k3⟩ := h.run o.type (fun k => k < w.heap.size) hp h1 hl
  unfold Oper.wp execOp
  simp only [ho, resolve, invoke, builtin, Sem.run_bind, Sem.run_pure, Result.andThen_ok, List.map_toArray, List.map_cons, List.map_nil, hs, hy, hrun]
  exact hK2 _ _ (hK _ _ _ _ k1 k2 k3)
end

/-! The rows that the compiler appends. -/
section
variable {w : World} {base : Nat} {ok : Nat → Prop} {o1 a1 b1 o2 a2 b2 : Int} {c : Cls} {vc : Value}
theorem reps_op : Reps (InsM w base ok) 4 [.op o1 a1 b1] [.int .i64 o1, .nilIface, .int .i64 a1, .int .i64 b1] :=
  Reps.snoc (R := InsM w base ok) (size := 4) (ps := []) (cs := []) (p := Ins.op o1 a1 b1) (Reps.none _ _) (show InsM w base ok (.op o1 a1 b1) [.int .i64 o1, .nilIface, .int .i64 a1, .int .i64 b1] from rfl) rfl
theorem reps_chr (h : ClsAt w base ok vc c) : Reps (InsM w base ok) 4 [.chr c] [.int .i64 0, vc, .int .i64 (-1), .int .i64 (-1)] :=
  Reps.snoc (R := InsM w base ok) (size := 4) (ps := []) (cs := []) (p := Ins.chr c) (Reps.none _ _) (show InsM w base ok (.chr c) [.int .i64 0, vc, .int .i64 (-1), .int .i64 (-1)] from ⟨vc, rfl, h⟩) rfl
theorem one_op : ∀ u ∈ ([.int .i64 o1, .nilIface, .int .i64 a1, .int .i64 b1] : List Value), u.oneCell' = true := by
  intro u hu
  simp only [List.mem_cons, List.not_mem_nil, or_false] at hu
  rcases hu with rfl | rfl | rfl | rfl <;> rfl
theorem one_chr (h : ClsAt w base ok vc c) : ∀ u ∈ ([.int .i64 0, vc, .int .i64 (-1), .int .i64 (-1)] : List Value), u.oneCell' = true := by
  intro u hu
  simp only [List.mem_cons, List.not_mem_nil, or_false] at hu
  rcases hu with rfl | rfl | rfl | rfl
  · rfl
  · exact h.one
  · rfl
  · rfl
theorem one_append {xs ys : List Value} (h : ∀ u ∈ xs, u.oneCell' = true) (k : ∀ u ∈ ys, u.oneCell' = true) : ∀ u ∈ xs ++ ys, u.oneCell' = true := by
  intro u hu
  rcases List.mem_append.1 hu with hu | hu
  · exact h u hu
  · exact k u hu
end
end Go.Proofs.YtpjfjfloeejgiaaFmt.Ins
/- What compilePattern makes of a pattern: plain. -/
set_option linter.unusedVariables false
set_option linter.unusedSimpArgs false
namespace Go.Proofs.YtpjfjfloeejgiaaFmt.Ins
open Go.RowKit Go.Proofs.YtpjfjfloeejgiaaFmt.Cls Go.Proofs.YtpjfjfloeejgiaaFmt.Pat

mutual
/-- The code of a part at place i, its first capture k; the next capture behind it. -/
def code : Pat → Nat → Nat → List Ins × Nat
  | .one c, i, k => ([.chr c], k)
  | .rep t c, i, k => (if t = 42 then [.op 4 ((i : Int) + 1) ((i : Int) + 3), .chr c, .op 3 i (-1)] else if t = 43 then [.chr c, .op 4 i ((i : Int) + 2)]
      else if t = 45 then [.op 4 ((i : Int) + 3) ((i : Int) + 1), .chr c, .op 3 i (-1)] else [.op 4 ((i : Int) + 1) ((i : Int) + 2), .chr c], k)
  | .pos, i, k => ([.op 6 k (-1)], k + 2)
  | .cap ps, i, k => (.op 5 k (-1) :: (codes ps (i + 1) (k + 2)).1 ++ [.op 5 ((k : Int) + 1) (-1)], (codes ps (i + 1) (k + 2)).2)
  | .brace b e, i, k => ([.op 7 b e], k)
  | .num n, i, k => ([.op 8 n (-1)], k)
def codes : List Pat → Nat → Nat → List Ins × Nat
  | [], i, k => ([], k)
  | p :: ps, i, k => ((code p i k).1 ++ (codes ps (i + (code p i k).1.length) (code p i k).2).1, (codes ps (i + (code p i k).1.length) (code p i k).2).2)
end

mutual
/-- The letters of its repetitions are four. -/
def okp : Pat → Prop
  | .rep t c => t = 42 ∨ t = 43 ∨ t = 45 ∨ t = 63
  | .cap ps => okps ps
  | .one _ => True
  | .pos => True
  | .brace _ _ => True
  | .num _ => True
def okps : List Pat → Prop
  | [] => True
  | p :: ps => okp p ∧ okps ps
end

mutual
theorem code_le : ∀ (p : Pat) (i k : Nat), k ≤ (code p i k).2
  | .one c, i, k => Nat.le_refl _
  | .rep t c, i, k => Nat.le_refl _
  | .pos, i, k => by simp [code]
  | .cap ps, i, k => by have := codes_le ps (i + 1) (k + 2); simp only [code]; omega
  | .brace b e, i, k => Nat.le_refl _
  | .num n, i, k => Nat.le_refl _
theorem codes_le : ∀ (ps : List Pat) (i k : Nat), k ≤ (codes ps i k).2
  | [], i, k => Nat.le_refl _
  | p :: ps, i, k => by
    have h1 := code_le p i k
    have h2 := codes_le ps (i + (code p i k).1.length) (code p i k).2
    simp only [codes]
    omega
end
theorem codes_append (ps qs : List Pat) : ∀ (i k : Nat), codes (ps ++ qs) i k = ((codes ps i k).1 ++ (codes qs (i + (codes ps i k).1.length) (codes ps i k).2).1, (codes qs (i + (codes ps i k).1.length) (codes ps i k).2).2) := by
  induction ps with
  | nil => intro i k; simp [codes]
  | cons p ps ih =>
    intro i k
    simp only [List.cons_append, codes, ih, List.append_assoc, List.length_append, Nat.add_assoc]
end Go.Proofs.YtpjfjfloeejgiaaFmt.Ins
/- compilePattern of package pm: the parts of a pattern. -/
set_option linter.unusedVariables false
set_option linter.unusedSimpArgs false
namespace Go.Proofs.YtpjfjfloeejgiaaFmt.Ins
open Go.RowKit Go.Proofs.YtpjfjfloeejgiaaFmtW.PrintWords Go.Proofs.YtpjfjfloeejgiaaFmt.Scan Go.Proofs.YtpjfjfloeejgiaaFmt.Cls Go.Proofs.YtpjfjfloeejgiaaFmt.Pat

/-- What a call of the compiler, on a part of a pattern, leaves. -/
def Comp (w0 w : World) (g : Nat) (ins : List Ins) (cp : Nat) (e : Ending) (w' : World) : Prop := ∃ v', e = .returned v' ∧ CmpU w0 w w' g ins cp v'

section
variable {w0 w wr : World} {g b cp : Nat} {ins : List Ins} {v vp : Value} {dK : Kd Pat} {ok : Nat → Prop}
theorem CmpU.old (h : CmpU w0 w wr g ins cp v) {gp t : Nat} {cs : Array Value} (hb : w.heap[gp]? = some (.cells cs t (0, 0))) : wr.heap[gp]? = some (.cells cs t (0, 0)) := (h.b.block gp (blk_lt hb)).trans hb
theorem CmpU.cls (h : CmpU w0 w wr g ins cp v) {vc : Value} {c : Cls} (hc : ClsAt w w0.heap.size ok vc c) : ClsAt wr w0.heap.size (fun k => k < w.heap.size) vc c :=
  ((hc.bound (fun _ h => h)).move (fun k hk => h.b.block k hk.2.2.1)).mono (fun _ hk => hk.2.2.1)
theorem cell_alloc {w : World} {ad : Addr} {u : Value} (h : w.cell? ad = some u) (ob : Obj) : (w.alloc ob).cell? ad = some u := pw_cell_below (below_alloc (Below.refl w.heap.size w) ob) h

set_option maxHeartbeats 40000000 in
set_option maxRecDepth 100000 in
theorem comp_one {c : Cls} (h : CmpU w0 w wr g ins cp v) (hb : wr.cell? ⟨b, 0, none⟩ = some (.pointer (some ⟨g, 0, none⟩))) (hp : PatAt dK w w0.heap.size ok vp (.one c)) (hl : ins.length + 1 ≤ 1000000) :
    Calls Tryf.prog 28 #[vp, .slice (some ⟨b, 0, none⟩) 1 1] wr (Comp w0 w g (ins ++ [.chr c]) cp) := by
  obtain ⟨gp, vc, rfl, b1, k1⟩ := hp
  obtain ⟨va, vn, rfl⟩ := Kd.R_slice h.row
  obtain ⟨tc, xc, rfl⟩ := ClsAt.iface k1
  have HC := Aside0.mk (h.cls k1)
  have e1 : wr.cell? ⟨gp, 0, none⟩ = some (.iface tc xc) := blk_cell (h.old b1.h) 0
  have e2 : wr.cell? ⟨g, 0, none⟩ = some (.slice va ins.length vn) := blk_cell h.hv 0
  have HL := Aside0.mk hl
  have H := Aside0.mk h
  clear h hl b1 k1
  have t1 := Asserts.ta110 (.pointer (some ⟨gp, 0, none⟩))
  go_enter Tryf.func28, Tryf.ntmps28
  go_wp2_with fail
  have e1a := cell_alloc e1
  have e2a := cell_alloc e2
  go_region_law (first | (refine CmpU.step (H.out.drew) rfl (.tmp 37) (.tmp 43) rfl rfl rfl rfl (reps_chr (HC.out.step (fun _ _ _ => rfl))) (one_chr HC.out) HL.out ?_; intro A4 n4 c4 w4 hS4 hc4 hf4; have HS4 := Aside0.mk hS4; clear hS4))
  all_goals
    go_wp2
    go_ret
    exact ⟨_, rfl, HS4.out⟩
end
end Go.Proofs.YtpjfjfloeejgiaaFmt.Ins
