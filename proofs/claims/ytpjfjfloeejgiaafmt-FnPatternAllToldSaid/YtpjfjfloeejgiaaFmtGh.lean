/- Joined texts of this seat: Mst, Ghost, Mste, Vma, Vmp. -/
import Derived.Test.YtpjfjfloeejgiaaFmtGd
import Derived.Test.YtpjfjfloeejgiaaFmtGc
import Derived.Laws.BitsAllLaws
import Derived.Test.YtpjfjfloeejgiaaFmtGg
/- The matcher's captures in memory (MatchData of package pm). -/
set_option linter.unusedVariables false
set_option linter.unusedSimpArgs false
namespace Go.Proofs.YtpjfjfloeejgiaaFmt.Mst
open Go.RowKit Go.Proofs.YtpjfjfloeejgiaaFmtW.PrintWords Go.Proofs.YtpjfjfloeejgiaaFmt.Scan Go.Proofs.YtpjfjfloeejgiaaFmt.Cls

theorem info88 : (Tryf.prog.info? 88).map (fun i => (i.zero, i.size, i.bytes)) = some (some (.int .u32 0), 1, 4) := by kernel_rfl

/-- A world, and blocks that hold what they hold in another one. -/
structure Ref where
  w : World
  u : World
  Z : Nat → Prop
/-- The captures: their block, their row; what is elder than w lies untouched, and so do the kept blocks. -/
structure MU (w : Ref) (wr : World) (g : Nat) (cs : List Int) (v : Value) : Prop where
  b : Below w.w.heap.size w.w wr
  lt : w.w.heap.size ≤ g
  hv : wr.heap[g]? = some (.cells #[v] 91 (0, 0))
  row : (Kd.int .u32).R 88 wr w.w.heap.size (fun k => k ≠ g ∧ ¬ w.Z k) v cs
  z : ∀ k, w.Z k → k < wr.heap.size ∧ k ≠ g ∧ wr.heap[k]? = w.u.heap[k]?

section
variable {w : Ref} {wr w2 : World} {g : Nat} {cs : List Int} {v : Value}
variable {ops : Array Oper} {o : Oper} {a : Act} {Q : Exit → Act → World → Prop} {K : Act → World → Prop} {rest : List Oper}
theorem MU.drewN (h : MU w wr g cs v) (m : Nat) : MU w (wr.drewN m) g cs v := ⟨pw_below_drewN h.b m, h.lt, h.hv, Kd.R_drewN h.row m, h.z⟩
theorem MU.drew (h : MU w wr g cs v) : MU w wr.drew g cs v := ⟨below_drew h.b, h.lt, h.hv, Kd.R_drew h.row, h.z⟩
theorem MU.alloc (h : MU w wr g cs v) (ob : Obj) : MU w (wr.alloc ob) g cs v := ⟨below_alloc h.b ob, h.lt, blk_alloc h.hv _, Kd.R_alloc h.row _, fun k hk => ⟨by have := (h.z k hk).1; simp; omega, (h.z k hk).2.1, (Below.heap_alloc _ _ _ (h.z k hk).1).trans (h.z k hk).2.2⟩⟩
theorem MU.far (h : MU w wr g cs v) {k : Nat} (hk : w.Z k) : some k ≠ v.ownBlock := Kd.R_away h.row (fun j hj e => hj.2 (e ▸ hk))
theorem MU.sl (h : MU w wr g cs v) : ∃ A n c, v = .slice A n c ∧ n = cs.length := by
  obtain ⟨A, c, e⟩ := Kd.R_slice h.row
  exact ⟨A, _, c, e, rfl⟩
theorem MU.form (h : MU w wr g cs v) (hp : 0 < cs.length) : ∃ r c, v = .slice (some ⟨r, 0, none⟩) cs.length c ∧ r ≠ g := by
  obtain ⟨r, c, e, _⟩ := Kd.R_form h.row hp
  subst e
  exact ⟨r, c, rfl, fun e => Kd.R_away h.row (fun k hk => hk.1) (by rw [e]; rfl)⟩
theorem MU.get {r c : Nat} (h : MU w wr g cs (.slice (some ⟨r, 0, none⟩) cs.length c)) {i : Nat} (hi : i < cs.length) : wr.cell? ⟨r, i, none⟩ = some (.int .u32 (cs.getD i 0)) ∧ wr.frozen? ⟨r, i, none⟩ = false := by
  obtain ⟨c1, _, k1, hc1, hf⟩ := Kd.R_elem h.row (0 : Int) (i : Nat) (by omega) (by omega)
  have h1 := hc1 0 (.int .u32 (cs.getD i 0)) (by
    have : c1 = [.int .u32 (cs.getD ((i : Nat) : Int).toNat 0)] := k1
    rw [this]; simp)
  have h2 := hf 0
  rw [show (Kd.int .u32).sz = 1 from rfl] at h1 h2
  simp only [Int.toNat_natCast, Nat.mul_one, Nat.add_zero] at h1 h2
  exact ⟨h1, h2⟩
theorem MU.put {r c : Nat} (h : MU w wr g cs (.slice (some ⟨r, 0, none⟩) cs.length c)) (hr : r ≠ g) (i : Nat) (x : Int) : MU w (wr.setCell ⟨r, i, none⟩ (.int .u32 x)) g (cs.set i x) (.slice (some ⟨r, 0, none⟩) cs.length c) := by
  have hb : w.w.heap.size ≤ r := Kd.R_base h.row r rfl
  have h1 := Kd.R_putn h.row (i : Int) x
  simp only [Int.toNat_natCast] at h1
  exact ⟨below_set h.b hb, h.lt, blk_far h.hv (Ne.symm hr) _, h1, fun k hk => ⟨by have := (h.z k hk).1; simpa [World.setCell] using this, (h.z k hk).2.1, (Below.heap_setCell wr ⟨r, i, none⟩ (.int .u32 x) k (fun e => h.far hk (congrArg some e))).trans (h.z k hk).2.2⟩⟩
theorem MU.after (h : MU w wr g cs v) {v1 : Value} {w1 : World} {cs1 : List Int} (hR : (Kd.int .u32).R 88 w1 w.w.heap.size (fun k => k ≠ g ∧ ¬ w.Z k) v1 cs1) (hb : Below w.w.heap.size w.w w1) (hg : wr.grownBy w1 v.ownBlock) :
    ∃ A1 n1 c1, v1 = .slice A1 n1 c1 ∧ MU w (w1.setCell ⟨g, 0, none⟩ (.slice A1 n1 c1)) g cs1 (.slice A1 n1 c1) ∧ w1.cell? ⟨g, 0, none⟩ = some v ∧ w1.frozen? ⟨g, 0, none⟩ = false := by
  obtain ⟨A1, c1, rfl⟩ := Kd.R_slice hR
  have hgs : some g ≠ v.ownBlock := Kd.R_away h.row (fun k hk => hk.1)
  have hv1 : w1.heap[g]? = some (.cells #[v] 91 (0, 0)) := blk_grown h.hv hg hgs
  exact ⟨_, _, _, rfl, ⟨below_set hb h.lt, h.lt, blk_set hv1 0 _, Kd.R_far hR (fun k hk => hk.1) _, fun k hk => ⟨by have := (h.z k hk).1; have := hg.size; simp [World.setCell]; omega, (h.z k hk).2.1, (Below.heap_setCell _ _ _ _ (h.z k hk).2.1).trans ((hg.block k (h.z k hk).1 (h.far hk)).trans (h.z k hk).2.2)⟩⟩, blk_cell hv1 0, blk_frozen hv1 0⟩
theorem MU.list (h : MU w wr g cs v) (hgd : o.guard = none) (s y : Operand) (ho : o.op = .call { callee := .builtin .append, args := #[s, y], argTypes := #[89, 89] })
    (hs : a.eval s = v) {N : Nat} (hy : a.eval y = .slice (some ⟨N, 0, none⟩) 1 1) (hN : wr.heap.size = N) (hl : cs.length ≤ 1000000)
    (hK : ∀ A1 n1 c1 w1, MU w (w1.setCell ⟨g, 0, none⟩ (.slice A1 n1 c1)) g (cs ++ [0]) (.slice A1 n1 c1) → w1.cell? ⟨g, 0, none⟩ = some v → w1.frozen? ⟨g, 0, none⟩ = false → wpList Tryf.prog ops Q rest (a.put o.dst (.slice A1 n1 c1)) w1) :
    wpList Tryf.prog ops Q (o :: rest) a (wr.alloc (.cells #[.int .u32 0] 88)) := by
  subst hN
  have hlt := blk_lt h.hv
  refine Kd.R_append (P := Tryf.prog) (Kd.int .u32) (w0 := w.w) w.w.heap.size hgd s y 89 88 (.int .u32 0) 4 ho Tryf.underlying89 info88 rfl (Nat.zero_lt_one) (by decide) v cs 0 [.int .u32 0] (fun k => k ≠ g ∧ ¬ w.Z k) (fun _ => False) hs hy
    rfl (fun k hk => hk.elim) (fun k hk => ⟨by omega, fun hz => by have := (h.z k hz).1; omega⟩) h.row h.b h.b.size (by omega) ?_
  intro v1 w1 hR hb hg _
  obtain ⟨A1, n1, c1, rfl, k1, k2, k3⟩ := h.after hR hb hg
  exact hK _ _ _ _ k1 k2 k3
/-- A new block is kept, too. -/
theorem MU.zone (h : MU w wr g cs v) (o : Obj) : MU ⟨w.w, wr.alloc o, fun k => w.Z k ∨ k = wr.heap.size⟩ (wr.alloc o) g cs v := by
  have ha := h.alloc o
  have hlt := blk_lt h.hv
  refine ⟨ha.b, ha.lt, ha.hv, ?_, ?_⟩
  · refine Kd.R_mono (Kd.R_alloc (Kd.R_bound h.row) o) (fun k hk => ⟨hk.1.1, fun hz => ?_⟩)
    rcases hz with hz | hz
    · exact hk.1.2 hz
    · have := hk.2.2.1; omega
  · intro k hk
    rcases hk with hk | hk
    · exact ⟨(ha.z k hk).1, (ha.z k hk).2.1, rfl⟩
    · subst hk
      exact ⟨by simp, by omega, rfl⟩
/-- .. and no longer: fewer blocks are kept. -/
theorem MU.less {u : World} {Z : Nat → Prop} (h : MU ⟨w.w, u, Z⟩ wr g cs v) (hZ : ∀ k, w.Z k → Z k) (hu : ∀ k, w.Z k → u.heap[k]? = w.u.heap[k]?) : MU w wr g cs v :=
  ⟨h.b, h.lt, h.hv, Kd.R_mono h.row (fun k hk => ⟨hk.1, fun hz => hk.2 (hZ k hz)⟩), fun k hk => ⟨(h.z k (hZ k hk)).1, (h.z k (hZ k hk)).2.1, (h.z k (hZ k hk)).2.2.trans (hu k hk)⟩⟩
end
end Go.Proofs.YtpjfjfloeejgiaaFmt.Mst
/- A label to which code jumps back: rounds told by a number that sinks. -/
set_option linter.unusedVariables false
set_option linter.unusedSimpArgs false
namespace Go.Proofs.YtpjfjfloeejgiaaFmt
open Go

theorem least {P : Nat → Prop} : ∀ n, P n → ∃ m, P m ∧ ∀ j, P j → m ≤ j := by
  intro n
  induction n using Nat.strongRecOn with
  | _ n ih =>
    intro h
    by_cases hx : ∃ j, j < n ∧ P j
    · obtain ⟨j, hj, hp⟩ := hx
      exact ih j hj hp
    · refine ⟨n, h, fun j hj => ?_⟩
      rcases Nat.lt_or_ge j n with hlt | hge
      · exact absurd ⟨j, hlt, hj⟩ hx
      · exact hge
section
variable {P : Program} {a : Act} {w : World} {Q : Exit → Act → World → Prop}
theorem wp_scope_ghost {c rest : Code} (l : Nat) (J : Nat → Act → World → Prop) (k0 : Nat) (hf : findLabel c l = some rest)
    (first : c.wp P (Exit.jump l (J k0) Q) a w)
    (pass : ∀ k a w, J k a w → rest.wp P (Exit.jump l (fun a' w' => ∃ m, m < k ∧ J m a' w') Q) a w) : (Code.scope c).wp P Q a w := by
  classical
  have key : ∀ a w, (∃ k, J k a w) → ∃ m, J m a w ∧ ∀ j, J j a w → m ≤ j := fun a w ⟨k, h⟩ => least k h
  refine wp_scope_jumps l (fun a w => ∃ k, J k a w) (fun a w => if h : ∃ k, J k a w then Classical.choose (key a w h) else 0) hf ?_ ?_
  · refine wp_mono first ?_
    intro e a' w' h
    cases e with
    | goto l' => exact ⟨h.1, k0, h.2⟩
    | _ => exact h
  · intro a w hJ
    have hc := Classical.choose_spec (key a w hJ)
    refine wp_mono (pass _ a w hc.1) ?_
    intro e a' w' h
    cases e with
    | goto l' =>
      obtain ⟨h1, m, hm, hj⟩ := h
      refine ⟨h1, ⟨m, hj⟩, ?_⟩
      have hx : ∃ k, J k a' w' := ⟨m, hj⟩
      rw [dif_pos hx, dif_pos hJ]
      exact Nat.lt_of_le_of_lt ((Classical.choose_spec (key a' w' hx)).2 m hj) hm
    | _ => exact h
/-- As wp_scope_ghost; the first way through, too, may hand over at the label. -/
theorem wp_scope_ghost' {c y : Code} (l : Nat) (J : Nat → Act → World → Prop) (hf : findLabel c l = some (Code.skip.seq y))
    (first : (∀ k a w, J k a w → y.wp P (Exit.jump l (fun a' w' => ∃ m, J m a' w') Q) a w) → c.wp P (Exit.jump l (fun a' w' => ∃ m, J m a' w') Q) a w)
    (pass : ∀ k a w, J k a w → y.wp P (Exit.jump l (fun a' w' => ∃ m, m < k ∧ J m a' w') Q) a w) : (Code.scope c).wp P Q a w := by
  classical
  have key : ∀ a w, (∃ k, J k a w) → ∃ m, J m a w ∧ ∀ j, J j a w → m ≤ j := fun a w ⟨k, h⟩ => least k h
  refine wp_scope_jumps l (fun a w => ∃ k, J k a w) (fun a w => if h : ∃ k, J k a w then Classical.choose (key a w h) else 0) hf ?_ ?_
  · refine first (fun k a w h => wp_mono (pass k a w h) ?_)
    intro e a' w' h
    cases e with
    | goto l' => exact ⟨h.1, by obtain ⟨m, _, hj⟩ := h.2; exact ⟨m, hj⟩⟩
    | _ => exact h
  · intro a w hJ
    have hc := Classical.choose_spec (key a w hJ)
    refine wp_seq (wp_skip (wp_mono (pass _ a w hc.1) ?_))
    intro e a' w' h
    cases e with
    | goto l' =>
      obtain ⟨h1, m, hm, hj⟩ := h
      refine ⟨h1, ⟨m, hj⟩, ?_⟩
      have hx : ∃ k, J k a' w' := ⟨m, hj⟩
      rw [dif_pos hx, dif_pos hJ]
      exact Nat.lt_of_le_of_lt ((Classical.choose_spec (key a' w' hx)).2 m hj) hm
    | _ => exact h
end
end Go.Proofs.YtpjfjfloeejgiaaFmt
/- The matcher's captures: what its methods do. -/
set_option linter.unusedVariables false
set_option linter.unusedSimpArgs false
namespace Go.Proofs.YtpjfjfloeejgiaaFmt.Mst
open Go.RowKit Go.Proofs.YtpjfjfloeejgiaaFmtW.PrintWords Go.Proofs.YtpjfjfloeejgiaaFmt.Scan Go.Proofs.YtpjfjfloeejgiaaFmt.Cls

/-- At the head of setCapture's loop. -/
def AtCap (g s p : Nat) (R : Nat → World → Prop) (k : Nat) (a : Act) (w : World) : Prop :=
  a.tmps.size = 41 ∧ a.defers = [] ∧ (a.tmps.getD 0 undef = .pointer (some ⟨g, 0, none⟩) ∧ a.tmps.getD 1 undef = .int .i64 (s : Int) ∧ a.tmps.getD 2 undef = .int .i64 (p : Int)) ∧ R k w
set_option maxRecDepth 100000 in
theorem AtCap.open_ {g s p : Nat} {R : Nat → World → Prop} {k : Nat} {a : Act} {w : World} (h : AtCap g s p R k a w) : (∃ u : Nat → Value, a = ⟨#[.pointer (some ⟨g, 0, none⟩), .int .i64 (s : Int), .int .i64 (p : Int), u 3, u 4, u 5, u 6, u 7, u 8, u 9, u 10, u 11, u 12, u 13, u 14, u 15, u 16, u 17, u 18, u 19, u 20, u 21, u 22, u 23, u 24, u 25, u 26, u 27, u 28, u 29, u 30, u 31, u 32, u 33, u 34, u 35, u 36, u 37, u 38, u 39, u 40], []⟩) ∧ R k w := by
  obtain ⟨tmps, defers⟩ := a
  obtain ⟨hs, hd, ⟨h0, h1, h2⟩, hR⟩ := h
  refine ⟨⟨fun i => tmps.getD i undef, ?_⟩, hR⟩
  have hd' : defers = [] := hd
  subst hd'
  have k0 : tmps.getD 0 undef = .pointer (some ⟨g, 0, none⟩) := h0
  have k1 : tmps.getD 1 undef = .int .i64 (s : Int) := h1
  have k2 : tmps.getD 2 undef = .int .i64 (p : Int) := h2
  have h := frame_lit 41 tmps hs
  have h2 : ((List.range 41).map (fun i => tmps.getD i undef)).toArray = #[tmps.getD 0 undef, tmps.getD 1 undef, tmps.getD 2 undef, tmps.getD 3 undef, tmps.getD 4 undef, tmps.getD 5 undef, tmps.getD 6 undef, tmps.getD 7 undef, tmps.getD 8 undef, tmps.getD 9 undef, tmps.getD 10 undef, tmps.getD 11 undef, tmps.getD 12 undef, tmps.getD 13 undef, tmps.getD 14 undef, tmps.getD 15 undef, tmps.getD 16 undef, tmps.getD 17 undef, tmps.getD 18 undef, tmps.getD 19 undef, tmps.getD 20 undef, tmps.getD 21 undef, tmps.getD 22 undef, tmps.getD 23 undef, tmps.getD 24 undef, tmps.getD 25 undef, tmps.getD 26 undef, tmps.getD 27 undef, tmps.getD 28 undef, tmps.getD 29 undef, tmps.getD 30 undef, tmps.getD 31 undef, tmps.getD 32 undef, tmps.getD 33 undef, tmps.getD 34 undef, tmps.getD 35 undef, tmps.getD 36 undef, tmps.getD 37 undef, tmps.getD 38 undef, tmps.getD 39 undef, tmps.getD 40 undef] := rfl
  rw [h2] at h
  rw [k0, k1, k2] at h
  exact congrArg (fun t => Act.mk t []) h
/-- At the head of the loop of addPosCapture. -/
def AtPos (g s p : Nat) (R : Nat → World → Prop) (k : Nat) (a : Act) (w : World) : Prop :=
  a.tmps.size = 44 ∧ a.defers = [] ∧ (a.tmps.getD 0 undef = .pointer (some ⟨g, 0, none⟩) ∧ a.tmps.getD 1 undef = .int .i64 (s : Int) ∧ a.tmps.getD 2 undef = .int .i64 (p : Int)) ∧ R k w
set_option maxRecDepth 100000 in
theorem AtPos.open_ {g s p : Nat} {R : Nat → World → Prop} {k : Nat} {a : Act} {w : World} (h : AtPos g s p R k a w) : (∃ u : Nat → Value, a = ⟨#[.pointer (some ⟨g, 0, none⟩), .int .i64 (s : Int), .int .i64 (p : Int), u 3, u 4, u 5, u 6, u 7, u 8, u 9, u 10, u 11, u 12, u 13, u 14, u 15, u 16, u 17, u 18, u 19, u 20, u 21, u 22, u 23, u 24, u 25, u 26, u 27, u 28, u 29, u 30, u 31, u 32, u 33, u 34, u 35, u 36, u 37, u 38, u 39, u 40, u 41, u 42, u 43], []⟩) ∧ R k w := by
  obtain ⟨tmps, defers⟩ := a
  obtain ⟨hs, hd, ⟨h0, h1, h2⟩, hR⟩ := h
  refine ⟨⟨fun i => tmps.getD i undef, ?_⟩, hR⟩
  have hd' : defers = [] := hd
  subst hd'
  have k0 : tmps.getD 0 undef = .pointer (some ⟨g, 0, none⟩) := h0
  have k1 : tmps.getD 1 undef = .int .i64 (s : Int) := h1
  have k2 : tmps.getD 2 undef = .int .i64 (p : Int) := h2
  have h := frame_lit 44 tmps hs
  have h2 : ((List.range 44).map (fun i => tmps.getD i undef)).toArray = #[tmps.getD 0 undef, tmps.getD 1 undef, tmps.getD 2 undef, tmps.getD 3 undef, tmps.getD 4 undef, tmps.getD 5 undef, tmps.getD 6 undef, tmps.getD 7 undef, tmps.getD 8 undef, tmps.getD 9 undef, tmps.getD 10 undef, tmps.getD 11 undef, tmps.getD 12 undef, tmps.getD 13 undef, tmps.getD 14 undef, tmps.getD 15 undef, tmps.getD 16 undef, tmps.getD 17 undef, tmps.getD 18 undef, tmps.getD 19 undef, tmps.getD 20 undef, tmps.getD 21 undef, tmps.getD 22 undef, tmps.getD 23 undef, tmps.getD 24 undef, tmps.getD 25 undef, tmps.getD 26 undef, tmps.getD 27 undef, tmps.getD 28 undef, tmps.getD 29 undef, tmps.getD 30 undef, tmps.getD 31 undef, tmps.getD 32 undef, tmps.getD 33 undef, tmps.getD 34 undef, tmps.getD 35 undef, tmps.getD 36 undef, tmps.getD 37 undef, tmps.getD 38 undef, tmps.getD 39 undef, tmps.getD 40 undef, tmps.getD 41 undef, tmps.getD 42 undef, tmps.getD 43 undef] := rfl
  rw [h2] at h
  rw [k0, k1, k2] at h
  exact congrArg (fun t => Act.mk t []) h

/-- The captures, long enough to hold place s. -/
def ext (cs : List Int) (s : Nat) : List Int := cs ++ List.replicate (s + 1 - cs.length) 0
theorem ext_long {cs : List Int} {s : Nat} (h : s < cs.length) : ext cs s = cs := by
  unfold ext
  rw [show s + 1 - cs.length = 0 by omega]
  simp
theorem ext_step {cs : List Int} {s : Nat} (h : cs.length ≤ s) : ext (cs ++ [0]) s = ext cs s := by
  unfold ext
  rw [List.length_append, List.length_singleton, show s + 1 - cs.length = (s + 1 - (cs.length + 1)) + 1 by omega, List.replicate_succ, List.append_assoc]
  rfl
theorem ext_length (cs : List Int) (s : Nat) : s < (ext cs s).length := by simp [ext]; omega
def CapR (w : Ref) (g s : Nat) (F : List Int) (k : Nat) (wr : World) : Prop := ∃ cs v, MU w wr g cs v ∧ ext cs s = F ∧ s + 1 - cs.length ≤ k
section
variable {w : Ref} {wr : World} {g s p : Nat} {cs : List Int} {v : Value}
set_option maxHeartbeats 40000000 in
set_option maxRecDepth 100000 in
theorem set_cap (h : MU w wr g cs v) (hs : s ≤ 100000) (hp : p ≤ 1000000) (hl : cs.length ≤ 100000) :
    Calls Tryf.prog 42 #[.pointer (some ⟨g, 0, none⟩), .int .i64 s, .int .i64 p] wr fun e w' => ∃ v', e = .returned (.int .u32 ((ext cs s).getD s 0)) ∧ MU w w' g ((ext cs s).set s (2 * p)) v' := by
  have H := Aside0.mk h
  obtain ⟨F, hF⟩ : ∃ F, ext cs s = F := ⟨_, rfl⟩
  rw [hF]
  have hFs := ext_length cs s
  rw [hF] at hFs
  have HF := Aside0.mk hF
  clear h hF
  have hl' := hl
  go_enter Tryf.func42, Tryf.ntmps42
  go_wp2_with fail
  refine wp_loop_ghost_k (AtCap g s p (CapR w g s F)) (s + 1 - cs.length) ⟨rfl, rfl, ⟨rfl, rfl, rfl⟩, ⟨_, _, H.out, HF.out, Nat.le_refl _⟩⟩ ?_
  intro gk a wr2 hI J K hJ hK
  obtain ⟨⟨u, rfl⟩, cs2, v2, h2, hF2, hk2⟩ := hI.open_
  clear hI H HF hl hl'
  obtain ⟨A, n, c, rfl, hn⟩ := h2.sl
  have e1 : wr2.cell? ⟨g, 0, none⟩ = some (.slice A n c) := blk_cell h2.hv 0
  have H2 := Aside0.mk h2
  have HF2 := Aside0.mk hF2
  have HN := Aside0.mk hn
  have HK2 := Aside0.mk hk2
  clear h2 hF2 hk2
  by_cases hlt : s < n
  · have hge : ¬ ((n : Int) ≤ (s : Int)) := by omega
    have hltI : (s : Int) < (n : Int) := by omega
    subst hn
    obtain ⟨r, c', hv, hr⟩ := H2.out.form (by omega)
    injection hv with hv1 hv2 hv3
    subst hv1
    subst hv3
    obtain ⟨e2, f2⟩ := H2.out.get (i := s) hlt
    have hF3 : cs2 = F := by rw [← HF2.out, ext_long hlt]
    subst hF3
    go_wp2_with fail
    go_ret
    refine ⟨rfl, .slice (some ⟨r, 0, none⟩) cs2.length c, ?_⟩
    rw [show 2 * (p : Int) = p * 2 by omega]
    exact H2.out.put hr s _
  · obtain ⟨m, rfl⟩ : ∃ m, gk = m + 1 := ⟨gk - 1, by have := HK2.out; have := HN.out; omega⟩
    have hge : (n : Int) ≤ (s : Int) := by omega
    have hleN : n ≤ s := by omega
    clear hn
    go_wp2_with (at_builtin; refine MU.list (H2.out) rfl (.tmp 19) (.tmp 20) rfl rfl rfl (by rfl) (by have := HN.out; omega) ?_; intro A7 n7 c7 w7 hS7 hc7 hf7; have HS7 := Aside0.mk hS7; clear hS7)
    refine Handed.intro m (by omega) (hJ _ _ _ ⟨rfl, rfl, ⟨rfl, rfl, rfl⟩, ⟨_, _, HS7.out, ?_, ?_⟩⟩)
    · rw [ext_step (by have := HN.out; omega)]; exact HF2.out
    · rw [List.length_append, List.length_singleton]; have := HK2.out; omega
set_option maxHeartbeats 40000000 in
set_option maxRecDepth 100000 in
theorem add_pos (h : MU w wr g cs v) (hs : s ≤ 100000) (hp : p ≤ 1000000) (hl : cs.length ≤ 100000) :
    Calls Tryf.prog 44 #[.pointer (some ⟨g, 0, none⟩), .int .i64 s, .int .i64 p] wr fun e w' => ∃ v', e = .returned (.tuple #[]) ∧ MU w w' g (((ext cs (s + 1)).set s (2 * p + 1)).set (s + 1) (2 * p + 1)) v' := by
  have H := Aside0.mk h
  obtain ⟨F, hF⟩ : ∃ F, ext cs (s + 1) = F := ⟨_, rfl⟩
  rw [hF]
  have hFs := ext_length cs (s + 1)
  rw [hF] at hFs
  have HF := Aside0.mk hF
  have hb : bits .or .u32 ((p : Int) * 2) 1 = (p : Int) * 2 + 1 := by
    have h1 := u32_or_nat (p * 2) 1 (by omega) (by decide)
    have h2 : p * 2 ||| 1 = p * 2 + 1 := by
      have := Nat.two_pow_add_eq_or_of_lt (i := 1) (b := 1) (by decide) p
      rw [Nat.mul_comm p 2]; exact this.symm
    rw [h2] at h1
    exact h1
  have s1 : IntKind.i64.wrap ((s : Int) + 1) = (s : Int) + 1 := IntWalk.i64_in _ (by omega)
  clear h hF
  go_enter Tryf.func44, Tryf.ntmps44
  go_wp2_with fail
  refine wp_loop_ghost_k (AtPos g s p (CapR w g (s + 1) F)) (s + 1 + 1 - cs.length) ⟨rfl, rfl, ⟨rfl, rfl, rfl⟩, ⟨_, _, H.out, HF.out, Nat.le_refl _⟩⟩ ?_
  intro gk a wr2 hI J K hJ hK
  obtain ⟨⟨u, rfl⟩, cs2, v2, h2, hF2, hk2⟩ := hI.open_
  clear hI H HF hl
  obtain ⟨A, n, c, rfl, hn⟩ := h2.sl
  have e1 : wr2.cell? ⟨g, 0, none⟩ = some (.slice A n c) := blk_cell h2.hv 0
  have H2 := Aside0.mk h2
  have HF2 := Aside0.mk hF2
  have HN := Aside0.mk hn
  have HK2 := Aside0.mk hk2
  clear h2 hF2 hk2
  by_cases hlt : s + 1 < n
  · have hge : ¬ ((n : Int) ≤ (s : Int) + 1) := by omega
    have hltI : (s : Int) + 1 < (n : Int) := by omega
    have hltJ : (s : Int) < (n : Int) := by omega
    have hlt0 : s < n := by omega
    subst hn
    obtain ⟨r, c', hv, hr⟩ := H2.out.form (by omega)
    injection hv with hv1 hv2 hv3
    subst hv1
    subst hv3
    obtain ⟨e2, f2⟩ := H2.out.get (i := s) hlt0
    obtain ⟨e3, f3⟩ := H2.out.get (i := s + 1) hlt
    have hF3 : cs2 = F := by rw [← HF2.out, ext_long hlt]
    subst hF3
    go_wp2
    go_end0
    refine ⟨rfl, .slice (some ⟨r, 0, none⟩) cs2.length c, ?_⟩
    rw [show 2 * (p : Int) + 1 = p * 2 + 1 by omega]
    have h1 := H2.out.put hr s ((p : Int) * 2 + 1)
    have hln : cs2.length = (cs2.set s ((p : Int) * 2 + 1)).length := by simp
    rw [hln] at h1 ⊢
    exact h1.put hr (s + 1) _
  · obtain ⟨m, rfl⟩ : ∃ m, gk = m + 1 := ⟨gk - 1, by have := HK2.out; have := HN.out; omega⟩
    have hge : (n : Int) ≤ (s : Int) + 1 := by omega
    have hleN : n ≤ s + 1 := by omega
    clear hn
    go_wp2_with (at_builtin; refine MU.list (H2.out) rfl (.tmp 18) (.tmp 19) rfl rfl rfl (by rfl) (by have := HN.out; omega) ?_; intro A7 n7 c7 w7 hS7 hc7 hf7; have HS7 := Aside0.mk hS7; clear hS7)
    refine Handed.intro m (by omega) (hJ _ _ _ ⟨rfl, rfl, ⟨rfl, rfl, rfl⟩, ⟨_, _, HS7.out, ?_, ?_⟩⟩)
    · rw [ext_step (by have := HN.out; omega)]; exact HF2.out
    · rw [List.length_append, List.length_singleton]; have := HK2.out; omega
set_option maxHeartbeats 4000000 in
theorem restore_cap {x : Int} (h : MU w wr g cs v) (hs : s < cs.length) :
    Calls Tryf.prog 43 #[.pointer (some ⟨g, 0, none⟩), .int .i64 s, .int .u32 x] wr fun e w' => e = .returned (.tuple #[]) ∧ MU w w' g (cs.set s x) v := by
  obtain ⟨r, c, rfl, hr⟩ := h.form (by omega)
  obtain ⟨e2, f2⟩ := h.get hs
  have e1 : wr.cell? ⟨g, 0, none⟩ = some (.slice (some ⟨r, 0, none⟩) cs.length c) := blk_cell h.hv 0
  have HP := Aside0.mk (h.put hr s x)
  clear h
  go_enter Tryf.func43, Tryf.ntmps43
  go_wp2
  go_end0
  exact ⟨rfl, HP.out⟩
theorem MU.new (hB : Below w.w.heap.size w.w wr) (hz : ∀ k, w.Z k → k < wr.heap.size ∧ wr.heap[k]? = w.u.heap[k]?) : MU w ((wr.alloc (.cells #[] 88)).alloc (.cells #[.slice (some ⟨wr.heap.size, 0, none⟩) 0 0] 91)) (wr.heap.size + 1) [] (.slice (some ⟨wr.heap.size, 0, none⟩) 0 0) := by
  have hs : (wr.alloc (.cells #[] 88)).heap.size = wr.heap.size + 1 := by simp
  have hle := hB.size
  have hr : (Kd.int .u32).R 88 (wr.alloc (.cells #[] 88)) w.w.heap.size (fun k => k ≠ wr.heap.size + 1 ∧ ¬ w.Z k) (.slice (some ⟨wr.heap.size, 0, none⟩) 0 0) [] := by
    refine ⟨fun k hk => ?_, _, World.ownsRow_lit (base := w.w.heap.size) (e := 88) (size := 1) wr #[] 0 hle (by decide) rfl, Reps.none _ _⟩
    have : wr.heap.size = k := by simpa [Value.ownBlock] using hk
    exact ⟨by omega, fun hz2 => by have := (hz k hz2).1; omega⟩
  refine ⟨below_alloc (below_alloc hB _) _, by omega, ?_, Kd.R_alloc hr _, fun k hk => ⟨by have := (hz k hk).1; simp; omega, by have := (hz k hk).1; omega, ?_⟩⟩
  rotate_left
  · rw [Below.heap_alloc _ _ _ (by have := (hz k hk).1; simp; omega), Below.heap_alloc _ _ _ (hz k hk).1]; exact (hz k hk).2
  rw [← hs]; exact blk_new _ _
set_option maxHeartbeats 4000000 in
theorem new_cap (hB : Below w.w.heap.size w.w wr) (hz : ∀ k, w.Z k → k < wr.heap.size ∧ wr.heap[k]? = w.u.heap[k]?) :
    Calls Tryf.prog 41 #[] wr fun e w' => ∃ v', e = .returned (.pointer (some ⟨wr.heap.size + 1, 0, none⟩)) ∧ MU w w' (wr.heap.size + 1) [] v' := by
  go_enter Tryf.func41, Tryf.ntmps41
  go_wp2
  go_ret
  refine ⟨_, rfl, MU.new hB hz⟩
set_option maxHeartbeats 4000000 in
theorem get_cap {x : Nat} (h : MU w wr g cs v) (hs : s < cs.length) (hx : cs.getD s 0 = (x : Int)) (hx2 : x < 4294967296) : Calls Tryf.prog 19 #[.pointer (some ⟨g, 0, none⟩), .int .i64 s] wr fun e w' => e = .returned (.int .i64 ((x / 2 : Nat) : Int)) ∧ wr = w' := by
  obtain ⟨r, c, rfl, hr⟩ := h.form (by omega)
  obtain ⟨e2, f2⟩ := h.get hs
  have e1 : wr.cell? ⟨g, 0, none⟩ = some (.slice (some ⟨r, 0, none⟩) cs.length c) := blk_cell h.hv 0
  rw [hx] at e2
  clear hx
  clear h
  go_enter Tryf.func19, Tryf.ntmps19
  go_wp2
  go_ret
  exact ⟨rfl, rfl⟩
set_option maxHeartbeats 4000000 in
theorem pos_cap {x : Nat} (h : MU w wr g cs v) (hs : s < cs.length) (hx : cs.getD s 0 = (x : Int)) (hx2 : x < 4294967296) : Calls Tryf.prog 21 #[.pointer (some ⟨g, 0, none⟩), .int .i64 s] wr fun e w' => e = .returned (.bool (x % 2 == 1)) ∧ wr = w' := by
  obtain ⟨r, c, rfl, hr⟩ := h.form (by omega)
  obtain ⟨e2, f2⟩ := h.get hs
  have e1 : wr.cell? ⟨g, 0, none⟩ = some (.slice (some ⟨r, 0, none⟩) cs.length c) := blk_cell h.hv 0
  rw [hx] at e2
  clear hx
  clear h
  have hb : bits .and .u32 (x : Int) 1 = ((x % 2 : Nat) : Int) := by rw [← Nat.and_one_is_mod]; exact u32_and_nat x 1 hx2 (by decide)
  have HB := Aside0.mk hb
  clear hb
  go_enter Tryf.func21, Tryf.ntmps21
  go_wp2
  go_ret
  refine ⟨?_, rfl⟩
  show Ending.returned (Value.bool (bits .and .u32 (x : Int) 1 == 1)) = _
  rw [HB.out]
  have : (((x % 2 : Nat) : Int) == 1) = (x % 2 == 1) := by
    rcases Nat.mod_two_eq_zero_or_one x with h | h <;> rw [h] <;> rfl
  rw [this]
set_option maxHeartbeats 4000000 in
theorem len_cap (h : MU w wr g cs v) (hl : cs.length ≤ 1000000) : Calls Tryf.prog 20 #[.pointer (some ⟨g, 0, none⟩)] wr fun e w' => e = .returned (.int .i64 cs.length) ∧ wr = w' := by
  obtain ⟨A, n, c, rfl, rfl⟩ := h.sl
  have e1 : wr.cell? ⟨g, 0, none⟩ = some (.slice A cs.length c) := blk_cell h.hv 0
  clear h
  go_enter Tryf.func20, Tryf.ntmps20
  go_wp2
  go_ret
  exact ⟨rfl, rfl⟩
end
end Go.Proofs.YtpjfjfloeejgiaaFmt.Mst
/- The matcher of package pm: what it computes, plain; where its walk stands. -/
set_option linter.unusedVariables false
set_option linter.unusedSimpArgs false
namespace Go.Proofs.YtpjfjfloeejgiaaFmt.Vm
open Go.RowKit Go.Proofs.YtpjfjfloeejgiaaFmtW.PrintWords Go.Proofs.YtpjfjfloeejgiaaFmt.Scan Go.Proofs.YtpjfjfloeejgiaaFmt.Cls Go.Proofs.YtpjfjfloeejgiaaFmt.Ins Go.Proofs.YtpjfjfloeejgiaaFmt.Mst Go.Proofs.YtpjfjfloeejgiaaFmt.Mat

/-- The place behind what is balanced, k places being left from i on. -/
def bal (src : List Int) (a b : Int) : Nat → Nat → Int → Option Nat
  | 0, _, _ => none
  | k + 1, i, n =>
    if (if rd src i = b then n - 1 else n) = 0 then some (i + 1)
    else bal src a b k (i + 1) (if rd src i = a then (if rd src i = b then n - 1 else n) + 1 else (if rd src i = b then n - 1 else n))

/-- Captures at one more place: set, and the one ahead. -/
def setc (cs : List Int) (s : Nat) (x : Int) : List Int := (ext cs s).set s x

/-- What the matcher answers: the place behind the match (none: no match), and the captures; none where the fuel is used up or it panics. -/
def vm (src : List Int) (P : List Ins) : Nat → Nat → Nat → Nat → List Int → Option (Option Nat × List Int)
  | 0, _, _, _, _ => none
  | k + 1, rl, pc, sp, cs =>
    match P[pc]? with
    | none => none
    | some (.chr c) => if sp < src.length then (if clsm c (rd src sp) = true then vm src P k rl (pc + 1) (sp + 1) cs else some (none, cs)) else some (none, cs)
    | some (.op o a b) =>
      if o = 1 then some (some sp, cs)
      else if o = 2 then some (if src.length ≤ sp then some sp else none, cs)
      else if o = 3 then vm src P k rl a.toNat sp cs
      else if o = 4 then
        if 1000000 ≤ rl then none else
        match vm src P k (rl + 1) a.toNat sp cs with
        | none => none
        | some (some n, cs1) => some (some n, cs1)
        | some (none, cs1) => vm src P k rl b.toNat sp cs1
      else if o = 5 then
        if 1000000 ≤ rl then none else
        match vm src P k (rl + 1) (pc + 1) sp (setc cs a.toNat (2 * sp)) with
        | none => none
        | some (some n, cs1) => some (some n, cs1)
        | some (none, cs1) => some (none, cs1.set a.toNat ((ext cs a.toNat).getD a.toNat 0))
      else if o = 6 then vm src P k rl (pc + 1) sp (((ext cs (a.toNat + 1)).set a.toNat (2 * ((sp + 1 : Nat) : Int) + 1)).set (a.toNat + 1) (2 * ((sp + 1 : Nat) : Int) + 1))
      else if o = 7 then
        if sp < src.length ∧ rd src sp = a then
          match bal src a b (src.length - (sp + 1)) (sp + 1) 1 with
          | some e => vm src P k rl (pc + 1) e cs
          | none => some (none, cs)
        else some (none, cs)
      else if o = 8 then
        if (a.toNat * 2 : Nat) + 1 < cs.length then
          let s := (cs.getD (a.toNat * 2) 0 / 2).toNat
          let e := (cs.getD (a.toNat * 2 + 1) 0 / 2).toNat
          if s ≤ e ∧ e ≤ src.length then
            if (src.drop s).take (e - s) = (src.drop sp).take (e - s) then vm src P k rl (pc + 1) (sp + (e - s)) cs else some (none, cs)
          else none
        else none
      else none

/-- At the matcher's label. -/
def AtVm (A B : Option Addr) (n c1 m c2 pc sp rl g : Nat) (R : World → Prop) (a : Act) (w : World) : Prop :=
  a.tmps.size = 257 ∧ a.defers = [] ∧ (a.tmps.getD 0 undef = .slice A n c1 ∧ a.tmps.getD 1 undef = .slice B m c2 ∧ a.tmps.getD 2 undef = .int .i64 (pc : Int) ∧ a.tmps.getD 3 undef = .int .i64 (sp : Int) ∧ a.tmps.getD 4 undef = .int .i64 (rl : Int) ∧ a.tmps.getD 15 undef = .pointer (some ⟨g, 0, none⟩)) ∧ R w
set_option maxRecDepth 100000 in
theorem AtVm.open_ {A B : Option Addr} {n c1 m c2 pc sp rl g : Nat} {R : World → Prop} {a : Act} {w : World} (h : AtVm A B n c1 m c2 pc sp rl g R a w) : (∃ u : Nat → Value, a = ⟨#[.slice A n c1, .slice B m c2, .int .i64 (pc : Int), .int .i64 (sp : Int), .int .i64 (rl : Int), u 5, u 6, u 7, u 8, u 9, u 10, u 11, u 12, u 13, u 14, .pointer (some ⟨g, 0, none⟩), u 16, u 17, u 18, u 19, u 20, u 21, u 22, u 23, u 24, u 25, u 26, u 27, u 28, u 29, u 30, u 31, u 32, u 33, u 34, u 35, u 36, u 37, u 38, u 39, u 40, u 41, u 42, u 43, u 44, u 45, u 46, u 47, u 48, u 49, u 50, u 51, u 52, u 53, u 54, u 55, u 56, u 57, u 58, u 59, u 60, u 61, u 62, u 63, u 64, u 65, u 66, u 67, u 68, u 69, u 70, u 71, u 72, u 73, u 74, u 75, u 76, u 77, u 78, u 79, u 80, u 81, u 82, u 83, u 84, u 85, u 86, u 87, u 88, u 89, u 90, u 91, u 92, u 93, u 94, u 95, u 96, u 97, u 98, u 99, u 100, u 101, u 102, u 103, u 104, u 105, u 106, u 107, u 108, u 109, u 110, u 111, u 112, u 113, u 114, u 115, u 116, u 117, u 118, u 119, u 120, u 121, u 122, u 123, u 124, u 125, u 126, u 127, u 128, u 129, u 130, u 131, u 132, u 133, u 134, u 135, u 136, u 137, u 138, u 139, u 140, u 141, u 142, u 143, u 144, u 145, u 146, u 147, u 148, u 149, u 150, u 151, u 152, u 153, u 154, u 155, u 156, u 157, u 158, u 159, u 160, u 161, u 162, u 163, u 164, u 165, u 166, u 167, u 168, u 169, u 170, u 171, u 172, u 173, u 174, u 175, u 176, u 177, u 178, u 179, u 180, u 181, u 182, u 183, u 184, u 185, u 186, u 187, u 188, u 189, u 190, u 191, u 192, u 193, u 194, u 195, u 196, u 197, u 198, u 199, u 200, u 201, u 202, u 203, u 204, u 205, u 206, u 207, u 208, u 209, u 210, u 211, u 212, u 213, u 214, u 215, u 216, u 217, u 218, u 219, u 220, u 221, u 222, u 223, u 224, u 225, u 226, u 227, u 228, u 229, u 230, u 231, u 232, u 233, u 234, u 235, u 236, u 237, u 238, u 239, u 240, u 241, u 242, u 243, u 244, u 245, u 246, u 247, u 248, u 249, u 250, u 251, u 252, u 253, u 254, u 255, u 256], []⟩) ∧ R w := by
  obtain ⟨tmps, defers⟩ := a
  obtain ⟨hs, hd, ⟨h0, h1, h2, h3, h4, h15⟩, hR⟩ := h
  refine ⟨⟨fun i => tmps.getD i undef, ?_⟩, hR⟩
  have hd' : defers = [] := hd
  subst hd'
  have k0 : tmps.getD 0 undef = .slice A n c1 := h0
  have k1 : tmps.getD 1 undef = .slice B m c2 := h1
  have k2 : tmps.getD 2 undef = .int .i64 (pc : Int) := h2
  have k3 : tmps.getD 3 undef = .int .i64 (sp : Int) := h3
  have k4 : tmps.getD 4 undef = .int .i64 (rl : Int) := h4
  have k15 : tmps.getD 15 undef = .pointer (some ⟨g, 0, none⟩) := h15
  have h := frame_lit 257 tmps hs
  have h2 : ((List.range 257).map (fun i => tmps.getD i undef)).toArray = #[tmps.getD 0 undef, tmps.getD 1 undef, tmps.getD 2 undef, tmps.getD 3 undef, tmps.getD 4 undef, tmps.getD 5 undef, tmps.getD 6 undef, tmps.getD 7 undef, tmps.getD 8 undef, tmps.getD 9 undef, tmps.getD 10 undef, tmps.getD 11 undef, tmps.getD 12 undef, tmps.getD 13 undef, tmps.getD 14 undef, tmps.getD 15 undef, tmps.getD 16 undef, tmps.getD 17 undef, tmps.getD 18 undef, tmps.getD 19 undef, tmps.getD 20 undef, tmps.getD 21 undef, tmps.getD 22 undef, tmps.getD 23 undef, tmps.getD 24 undef, tmps.getD 25 undef, tmps.getD 26 undef, tmps.getD 27 undef, tmps.getD 28 undef, tmps.getD 29 undef, tmps.getD 30 undef, tmps.getD 31 undef, tmps.getD 32 undef, tmps.getD 33 undef, tmps.getD 34 undef, tmps.getD 35 undef, tmps.getD 36 undef, tmps.getD 37 undef, tmps.getD 38 undef, tmps.getD 39 undef, tmps.getD 40 undef, tmps.getD 41 undef, tmps.getD 42 undef, tmps.getD 43 undef, tmps.getD 44 undef, tmps.getD 45 undef, tmps.getD 46 undef, tmps.getD 47 undef, tmps.getD 48 undef, tmps.getD 49 undef, tmps.getD 50 undef, tmps.getD 51 undef, tmps.getD 52 undef, tmps.getD 53 undef, tmps.getD 54 undef, tmps.getD 55 undef, tmps.getD 56 undef, tmps.getD 57 undef, tmps.getD 58 undef, tmps.getD 59 undef, tmps.getD 60 undef, tmps.getD 61 undef, tmps.getD 62 undef, tmps.getD 63 undef, tmps.getD 64 undef, tmps.getD 65 undef, tmps.getD 66 undef, tmps.getD 67 undef, tmps.getD 68 undef, tmps.getD 69 undef, tmps.getD 70 undef, tmps.getD 71 undef, tmps.getD 72 undef, tmps.getD 73 undef, tmps.getD 74 undef, tmps.getD 75 undef, tmps.getD 76 undef, tmps.getD 77 undef, tmps.getD 78 undef, tmps.getD 79 undef, tmps.getD 80 undef, tmps.getD 81 undef, tmps.getD 82 undef, tmps.getD 83 undef, tmps.getD 84 undef, tmps.getD 85 undef, tmps.getD 86 undef, tmps.getD 87 undef, tmps.getD 88 undef, tmps.getD 89 undef, tmps.getD 90 undef, tmps.getD 91 undef, tmps.getD 92 undef, tmps.getD 93 undef, tmps.getD 94 undef, tmps.getD 95 undef, tmps.getD 96 undef, tmps.getD 97 undef, tmps.getD 98 undef, tmps.getD 99 undef, tmps.getD 100 undef, tmps.getD 101 undef, tmps.getD 102 undef, tmps.getD 103 undef, tmps.getD 104 undef, tmps.getD 105 undef, tmps.getD 106 undef, tmps.getD 107 undef, tmps.getD 108 undef, tmps.getD 109 undef, tmps.getD 110 undef, tmps.getD 111 undef, tmps.getD 112 undef, tmps.getD 113 undef, tmps.getD 114 undef, tmps.getD 115 undef, tmps.getD 116 undef, tmps.getD 117 undef, tmps.getD 118 undef, tmps.getD 119 undef, tmps.getD 120 undef, tmps.getD 121 undef, tmps.getD 122 undef, tmps.getD 123 undef, tmps.getD 124 undef, tmps.getD 125 undef, tmps.getD 126 undef, tmps.getD 127 undef, tmps.getD 128 undef, tmps.getD 129 undef, tmps.getD 130 undef, tmps.getD 131 undef, tmps.getD 132 undef, tmps.getD 133 undef, tmps.getD 134 undef, tmps.getD 135 undef, tmps.getD 136 undef, tmps.getD 137 undef, tmps.getD 138 undef, tmps.getD 139 undef, tmps.getD 140 undef, tmps.getD 141 undef, tmps.getD 142 undef, tmps.getD 143 undef, tmps.getD 144 undef, tmps.getD 145 undef, tmps.getD 146 undef, tmps.getD 147 undef, tmps.getD 148 undef, tmps.getD 149 undef, tmps.getD 150 undef, tmps.getD 151 undef, tmps.getD 152 undef, tmps.getD 153 undef, tmps.getD 154 undef, tmps.getD 155 undef, tmps.getD 156 undef, tmps.getD 157 undef, tmps.getD 158 undef, tmps.getD 159 undef, tmps.getD 160 undef, tmps.getD 161 undef, tmps.getD 162 undef, tmps.getD 163 undef, tmps.getD 164 undef, tmps.getD 165 undef, tmps.getD 166 undef, tmps.getD 167 undef, tmps.getD 168 undef, tmps.getD 169 undef, tmps.getD 170 undef, tmps.getD 171 undef, tmps.getD 172 undef, tmps.getD 173 undef, tmps.getD 174 undef, tmps.getD 175 undef, tmps.getD 176 undef, tmps.getD 177 undef, tmps.getD 178 undef, tmps.getD 179 undef, tmps.getD 180 undef, tmps.getD 181 undef, tmps.getD 182 undef, tmps.getD 183 undef, tmps.getD 184 undef, tmps.getD 185 undef, tmps.getD 186 undef, tmps.getD 187 undef, tmps.getD 188 undef, tmps.getD 189 undef, tmps.getD 190 undef, tmps.getD 191 undef, tmps.getD 192 undef, tmps.getD 193 undef, tmps.getD 194 undef, tmps.getD 195 undef, tmps.getD 196 undef, tmps.getD 197 undef, tmps.getD 198 undef, tmps.getD 199 undef, tmps.getD 200 undef, tmps.getD 201 undef, tmps.getD 202 undef, tmps.getD 203 undef, tmps.getD 204 undef, tmps.getD 205 undef, tmps.getD 206 undef, tmps.getD 207 undef, tmps.getD 208 undef, tmps.getD 209 undef, tmps.getD 210 undef, tmps.getD 211 undef, tmps.getD 212 undef, tmps.getD 213 undef, tmps.getD 214 undef, tmps.getD 215 undef, tmps.getD 216 undef, tmps.getD 217 undef, tmps.getD 218 undef, tmps.getD 219 undef, tmps.getD 220 undef, tmps.getD 221 undef, tmps.getD 222 undef, tmps.getD 223 undef, tmps.getD 224 undef, tmps.getD 225 undef, tmps.getD 226 undef, tmps.getD 227 undef, tmps.getD 228 undef, tmps.getD 229 undef, tmps.getD 230 undef, tmps.getD 231 undef, tmps.getD 232 undef, tmps.getD 233 undef, tmps.getD 234 undef, tmps.getD 235 undef, tmps.getD 236 undef, tmps.getD 237 undef, tmps.getD 238 undef, tmps.getD 239 undef, tmps.getD 240 undef, tmps.getD 241 undef, tmps.getD 242 undef, tmps.getD 243 undef, tmps.getD 244 undef, tmps.getD 245 undef, tmps.getD 246 undef, tmps.getD 247 undef, tmps.getD 248 undef, tmps.getD 249 undef, tmps.getD 250 undef, tmps.getD 251 undef, tmps.getD 252 undef, tmps.getD 253 undef, tmps.getD 254 undef, tmps.getD 255 undef, tmps.getD 256 undef] := rfl
  rw [h2] at h
  rw [k0, k1, k2, k3, k4, k15] at h
  exact congrArg (fun t => Act.mk t []) h
/-- At the head of the loop that looks for the end of what is balanced. -/
def AtBr (A B : Option Addr) (n c1 m c2 pc sp rl g q : Nat) (x : Int) (R : World → Prop) (a : Act) (w : World) : Prop :=
  a.tmps.size = 257 ∧ a.defers = [] ∧ (a.tmps.getD 0 undef = .slice A n c1 ∧ a.tmps.getD 1 undef = .slice B m c2 ∧ a.tmps.getD 2 undef = .int .i64 (pc : Int) ∧ a.tmps.getD 3 undef = .int .i64 (sp : Int) ∧ a.tmps.getD 4 undef = .int .i64 (rl : Int) ∧ a.tmps.getD 15 undef = .pointer (some ⟨g, 0, none⟩) ∧ a.tmps.getD 16 undef = .pointer (some ⟨q, 0, none⟩) ∧ a.tmps.getD 24 undef = .int .i64 x) ∧ R w
set_option maxRecDepth 100000 in
theorem AtBr.open_ {A B : Option Addr} {n c1 m c2 pc sp rl g q : Nat} {x : Int} {R : World → Prop} {a : Act} {w : World} (h : AtBr A B n c1 m c2 pc sp rl g q x R a w) : (∃ u : Nat → Value, a = ⟨#[.slice A n c1, .slice B m c2, .int .i64 (pc : Int), .int .i64 (sp : Int), .int .i64 (rl : Int), u 5, u 6, u 7, u 8, u 9, u 10, u 11, u 12, u 13, u 14, .pointer (some ⟨g, 0, none⟩), .pointer (some ⟨q, 0, none⟩), u 17, u 18, u 19, u 20, u 21, u 22, u 23, .int .i64 x, u 25, u 26, u 27, u 28, u 29, u 30, u 31, u 32, u 33, u 34, u 35, u 36, u 37, u 38, u 39, u 40, u 41, u 42, u 43, u 44, u 45, u 46, u 47, u 48, u 49, u 50, u 51, u 52, u 53, u 54, u 55, u 56, u 57, u 58, u 59, u 60, u 61, u 62, u 63, u 64, u 65, u 66, u 67, u 68, u 69, u 70, u 71, u 72, u 73, u 74, u 75, u 76, u 77, u 78, u 79, u 80, u 81, u 82, u 83, u 84, u 85, u 86, u 87, u 88, u 89, u 90, u 91, u 92, u 93, u 94, u 95, u 96, u 97, u 98, u 99, u 100, u 101, u 102, u 103, u 104, u 105, u 106, u 107, u 108, u 109, u 110, u 111, u 112, u 113, u 114, u 115, u 116, u 117, u 118, u 119, u 120, u 121, u 122, u 123, u 124, u 125, u 126, u 127, u 128, u 129, u 130, u 131, u 132, u 133, u 134, u 135, u 136, u 137, u 138, u 139, u 140, u 141, u 142, u 143, u 144, u 145, u 146, u 147, u 148, u 149, u 150, u 151, u 152, u 153, u 154, u 155, u 156, u 157, u 158, u 159, u 160, u 161, u 162, u 163, u 164, u 165, u 166, u 167, u 168, u 169, u 170, u 171, u 172, u 173, u 174, u 175, u 176, u 177, u 178, u 179, u 180, u 181, u 182, u 183, u 184, u 185, u 186, u 187, u 188, u 189, u 190, u 191, u 192, u 193, u 194, u 195, u 196, u 197, u 198, u 199, u 200, u 201, u 202, u 203, u 204, u 205, u 206, u 207, u 208, u 209, u 210, u 211, u 212, u 213, u 214, u 215, u 216, u 217, u 218, u 219, u 220, u 221, u 222, u 223, u 224, u 225, u 226, u 227, u 228, u 229, u 230, u 231, u 232, u 233, u 234, u 235, u 236, u 237, u 238, u 239, u 240, u 241, u 242, u 243, u 244, u 245, u 246, u 247, u 248, u 249, u 250, u 251, u 252, u 253, u 254, u 255, u 256], []⟩) ∧ R w := by
  obtain ⟨tmps, defers⟩ := a
  obtain ⟨hs, hd, ⟨h0, h1, h2, h3, h4, h15, h16, h24⟩, hR⟩ := h
  refine ⟨⟨fun i => tmps.getD i undef, ?_⟩, hR⟩
  have hd' : defers = [] := hd
  subst hd'
  have k0 : tmps.getD 0 undef = .slice A n c1 := h0
  have k1 : tmps.getD 1 undef = .slice B m c2 := h1
  have k2 : tmps.getD 2 undef = .int .i64 (pc : Int) := h2
  have k3 : tmps.getD 3 undef = .int .i64 (sp : Int) := h3
  have k4 : tmps.getD 4 undef = .int .i64 (rl : Int) := h4
  have k15 : tmps.getD 15 undef = .pointer (some ⟨g, 0, none⟩) := h15
  have k16 : tmps.getD 16 undef = .pointer (some ⟨q, 0, none⟩) := h16
  have k24 : tmps.getD 24 undef = .int .i64 x := h24
  have h := frame_lit 257 tmps hs
  have h2 : ((List.range 257).map (fun i => tmps.getD i undef)).toArray = #[tmps.getD 0 undef, tmps.getD 1 undef, tmps.getD 2 undef, tmps.getD 3 undef, tmps.getD 4 undef, tmps.getD 5 undef, tmps.getD 6 undef, tmps.getD 7 undef, tmps.getD 8 undef, tmps.getD 9 undef, tmps.getD 10 undef, tmps.getD 11 undef, tmps.getD 12 undef, tmps.getD 13 undef, tmps.getD 14 undef, tmps.getD 15 undef, tmps.getD 16 undef, tmps.getD 17 undef, tmps.getD 18 undef, tmps.getD 19 undef, tmps.getD 20 undef, tmps.getD 21 undef, tmps.getD 22 undef, tmps.getD 23 undef, tmps.getD 24 undef, tmps.getD 25 undef, tmps.getD 26 undef, tmps.getD 27 undef, tmps.getD 28 undef, tmps.getD 29 undef, tmps.getD 30 undef, tmps.getD 31 undef, tmps.getD 32 undef, tmps.getD 33 undef, tmps.getD 34 undef, tmps.getD 35 undef, tmps.getD 36 undef, tmps.getD 37 undef, tmps.getD 38 undef, tmps.getD 39 undef, tmps.getD 40 undef, tmps.getD 41 undef, tmps.getD 42 undef, tmps.getD 43 undef, tmps.getD 44 undef, tmps.getD 45 undef, tmps.getD 46 undef, tmps.getD 47 undef, tmps.getD 48 undef, tmps.getD 49 undef, tmps.getD 50 undef, tmps.getD 51 undef, tmps.getD 52 undef, tmps.getD 53 undef, tmps.getD 54 undef, tmps.getD 55 undef, tmps.getD 56 undef, tmps.getD 57 undef, tmps.getD 58 undef, tmps.getD 59 undef, tmps.getD 60 undef, tmps.getD 61 undef, tmps.getD 62 undef, tmps.getD 63 undef, tmps.getD 64 undef, tmps.getD 65 undef, tmps.getD 66 undef, tmps.getD 67 undef, tmps.getD 68 undef, tmps.getD 69 undef, tmps.getD 70 undef, tmps.getD 71 undef, tmps.getD 72 undef, tmps.getD 73 undef, tmps.getD 74 undef, tmps.getD 75 undef, tmps.getD 76 undef, tmps.getD 77 undef, tmps.getD 78 undef, tmps.getD 79 undef, tmps.getD 80 undef, tmps.getD 81 undef, tmps.getD 82 undef, tmps.getD 83 undef, tmps.getD 84 undef, tmps.getD 85 undef, tmps.getD 86 undef, tmps.getD 87 undef, tmps.getD 88 undef, tmps.getD 89 undef, tmps.getD 90 undef, tmps.getD 91 undef, tmps.getD 92 undef, tmps.getD 93 undef, tmps.getD 94 undef, tmps.getD 95 undef, tmps.getD 96 undef, tmps.getD 97 undef, tmps.getD 98 undef, tmps.getD 99 undef, tmps.getD 100 undef, tmps.getD 101 undef, tmps.getD 102 undef, tmps.getD 103 undef, tmps.getD 104 undef, tmps.getD 105 undef, tmps.getD 106 undef, tmps.getD 107 undef, tmps.getD 108 undef, tmps.getD 109 undef, tmps.getD 110 undef, tmps.getD 111 undef, tmps.getD 112 undef, tmps.getD 113 undef, tmps.getD 114 undef, tmps.getD 115 undef, tmps.getD 116 undef, tmps.getD 117 undef, tmps.getD 118 undef, tmps.getD 119 undef, tmps.getD 120 undef, tmps.getD 121 undef, tmps.getD 122 undef, tmps.getD 123 undef, tmps.getD 124 undef, tmps.getD 125 undef, tmps.getD 126 undef, tmps.getD 127 undef, tmps.getD 128 undef, tmps.getD 129 undef, tmps.getD 130 undef, tmps.getD 131 undef, tmps.getD 132 undef, tmps.getD 133 undef, tmps.getD 134 undef, tmps.getD 135 undef, tmps.getD 136 undef, tmps.getD 137 undef, tmps.getD 138 undef, tmps.getD 139 undef, tmps.getD 140 undef, tmps.getD 141 undef, tmps.getD 142 undef, tmps.getD 143 undef, tmps.getD 144 undef, tmps.getD 145 undef, tmps.getD 146 undef, tmps.getD 147 undef, tmps.getD 148 undef, tmps.getD 149 undef, tmps.getD 150 undef, tmps.getD 151 undef, tmps.getD 152 undef, tmps.getD 153 undef, tmps.getD 154 undef, tmps.getD 155 undef, tmps.getD 156 undef, tmps.getD 157 undef, tmps.getD 158 undef, tmps.getD 159 undef, tmps.getD 160 undef, tmps.getD 161 undef, tmps.getD 162 undef, tmps.getD 163 undef, tmps.getD 164 undef, tmps.getD 165 undef, tmps.getD 166 undef, tmps.getD 167 undef, tmps.getD 168 undef, tmps.getD 169 undef, tmps.getD 170 undef, tmps.getD 171 undef, tmps.getD 172 undef, tmps.getD 173 undef, tmps.getD 174 undef, tmps.getD 175 undef, tmps.getD 176 undef, tmps.getD 177 undef, tmps.getD 178 undef, tmps.getD 179 undef, tmps.getD 180 undef, tmps.getD 181 undef, tmps.getD 182 undef, tmps.getD 183 undef, tmps.getD 184 undef, tmps.getD 185 undef, tmps.getD 186 undef, tmps.getD 187 undef, tmps.getD 188 undef, tmps.getD 189 undef, tmps.getD 190 undef, tmps.getD 191 undef, tmps.getD 192 undef, tmps.getD 193 undef, tmps.getD 194 undef, tmps.getD 195 undef, tmps.getD 196 undef, tmps.getD 197 undef, tmps.getD 198 undef, tmps.getD 199 undef, tmps.getD 200 undef, tmps.getD 201 undef, tmps.getD 202 undef, tmps.getD 203 undef, tmps.getD 204 undef, tmps.getD 205 undef, tmps.getD 206 undef, tmps.getD 207 undef, tmps.getD 208 undef, tmps.getD 209 undef, tmps.getD 210 undef, tmps.getD 211 undef, tmps.getD 212 undef, tmps.getD 213 undef, tmps.getD 214 undef, tmps.getD 215 undef, tmps.getD 216 undef, tmps.getD 217 undef, tmps.getD 218 undef, tmps.getD 219 undef, tmps.getD 220 undef, tmps.getD 221 undef, tmps.getD 222 undef, tmps.getD 223 undef, tmps.getD 224 undef, tmps.getD 225 undef, tmps.getD 226 undef, tmps.getD 227 undef, tmps.getD 228 undef, tmps.getD 229 undef, tmps.getD 230 undef, tmps.getD 231 undef, tmps.getD 232 undef, tmps.getD 233 undef, tmps.getD 234 undef, tmps.getD 235 undef, tmps.getD 236 undef, tmps.getD 237 undef, tmps.getD 238 undef, tmps.getD 239 undef, tmps.getD 240 undef, tmps.getD 241 undef, tmps.getD 242 undef, tmps.getD 243 undef, tmps.getD 244 undef, tmps.getD 245 undef, tmps.getD 246 undef, tmps.getD 247 undef, tmps.getD 248 undef, tmps.getD 249 undef, tmps.getD 250 undef, tmps.getD 251 undef, tmps.getD 252 undef, tmps.getD 253 undef, tmps.getD 254 undef, tmps.getD 255 undef, tmps.getD 256 undef] := rfl
  rw [h2] at h
  rw [k0, k1, k2, k3, k4, k15, k16, k24] at h
  exact congrArg (fun t => Act.mk t []) h
/-- At the head of the loop that compares with a capture. -/
def AtNu (A B C : Option Addr) (n c1 m c2 pc sp rl g l c3 i : Nat) (R : World → Prop) (a : Act) (w : World) : Prop :=
  a.tmps.size = 257 ∧ a.defers = [] ∧ (a.tmps.getD 0 undef = .slice A n c1 ∧ a.tmps.getD 1 undef = .slice B m c2 ∧ a.tmps.getD 2 undef = .int .i64 (pc : Int) ∧ a.tmps.getD 3 undef = .int .i64 (sp : Int) ∧ a.tmps.getD 4 undef = .int .i64 (rl : Int) ∧ a.tmps.getD 15 undef = .pointer (some ⟨g, 0, none⟩) ∧ a.tmps.getD 26 undef = .slice C l c3 ∧ a.tmps.getD 27 undef = .int .i64 (i : Int)) ∧ R w
set_option maxRecDepth 100000 in
theorem AtNu.open_ {A B C : Option Addr} {n c1 m c2 pc sp rl g l c3 i : Nat} {R : World → Prop} {a : Act} {w : World} (h : AtNu A B C n c1 m c2 pc sp rl g l c3 i R a w) : (∃ u : Nat → Value, a = ⟨#[.slice A n c1, .slice B m c2, .int .i64 (pc : Int), .int .i64 (sp : Int), .int .i64 (rl : Int), u 5, u 6, u 7, u 8, u 9, u 10, u 11, u 12, u 13, u 14, .pointer (some ⟨g, 0, none⟩), u 16, u 17, u 18, u 19, u 20, u 21, u 22, u 23, u 24, u 25, .slice C l c3, .int .i64 (i : Int), u 28, u 29, u 30, u 31, u 32, u 33, u 34, u 35, u 36, u 37, u 38, u 39, u 40, u 41, u 42, u 43, u 44, u 45, u 46, u 47, u 48, u 49, u 50, u 51, u 52, u 53, u 54, u 55, u 56, u 57, u 58, u 59, u 60, u 61, u 62, u 63, u 64, u 65, u 66, u 67, u 68, u 69, u 70, u 71, u 72, u 73, u 74, u 75, u 76, u 77, u 78, u 79, u 80, u 81, u 82, u 83, u 84, u 85, u 86, u 87, u 88, u 89, u 90, u 91, u 92, u 93, u 94, u 95, u 96, u 97, u 98, u 99, u 100, u 101, u 102, u 103, u 104, u 105, u 106, u 107, u 108, u 109, u 110, u 111, u 112, u 113, u 114, u 115, u 116, u 117, u 118, u 119, u 120, u 121, u 122, u 123, u 124, u 125, u 126, u 127, u 128, u 129, u 130, u 131, u 132, u 133, u 134, u 135, u 136, u 137, u 138, u 139, u 140, u 141, u 142, u 143, u 144, u 145, u 146, u 147, u 148, u 149, u 150, u 151, u 152, u 153, u 154, u 155, u 156, u 157, u 158, u 159, u 160, u 161, u 162, u 163, u 164, u 165, u 166, u 167, u 168, u 169, u 170, u 171, u 172, u 173, u 174, u 175, u 176, u 177, u 178, u 179, u 180, u 181, u 182, u 183, u 184, u 185, u 186, u 187, u 188, u 189, u 190, u 191, u 192, u 193, u 194, u 195, u 196, u 197, u 198, u 199, u 200, u 201, u 202, u 203, u 204, u 205, u 206, u 207, u 208, u 209, u 210, u 211, u 212, u 213, u 214, u 215, u 216, u 217, u 218, u 219, u 220, u 221, u 222, u 223, u 224, u 225, u 226, u 227, u 228, u 229, u 230, u 231, u 232, u 233, u 234, u 235, u 236, u 237, u 238, u 239, u 240, u 241, u 242, u 243, u 244, u 245, u 246, u 247, u 248, u 249, u 250, u 251, u 252, u 253, u 254, u 255, u 256], []⟩) ∧ R w := by
  obtain ⟨tmps, defers⟩ := a
  obtain ⟨hs, hd, ⟨h0, h1, h2, h3, h4, h15, h26, h27⟩, hR⟩ := h
  refine ⟨⟨fun i => tmps.getD i undef, ?_⟩, hR⟩
  have hd' : defers = [] := hd
  subst hd'
  have k0 : tmps.getD 0 undef = .slice A n c1 := h0
  have k1 : tmps.getD 1 undef = .slice B m c2 := h1
  have k2 : tmps.getD 2 undef = .int .i64 (pc : Int) := h2
  have k3 : tmps.getD 3 undef = .int .i64 (sp : Int) := h3
  have k4 : tmps.getD 4 undef = .int .i64 (rl : Int) := h4
  have k15 : tmps.getD 15 undef = .pointer (some ⟨g, 0, none⟩) := h15
  have k26 : tmps.getD 26 undef = .slice C l c3 := h26
  have k27 : tmps.getD 27 undef = .int .i64 (i : Int) := h27
  have h := frame_lit 257 tmps hs
  have h2 : ((List.range 257).map (fun i => tmps.getD i undef)).toArray = #[tmps.getD 0 undef, tmps.getD 1 undef, tmps.getD 2 undef, tmps.getD 3 undef, tmps.getD 4 undef, tmps.getD 5 undef, tmps.getD 6 undef, tmps.getD 7 undef, tmps.getD 8 undef, tmps.getD 9 undef, tmps.getD 10 undef, tmps.getD 11 undef, tmps.getD 12 undef, tmps.getD 13 undef, tmps.getD 14 undef, tmps.getD 15 undef, tmps.getD 16 undef, tmps.getD 17 undef, tmps.getD 18 undef, tmps.getD 19 undef, tmps.getD 20 undef, tmps.getD 21 undef, tmps.getD 22 undef, tmps.getD 23 undef, tmps.getD 24 undef, tmps.getD 25 undef, tmps.getD 26 undef, tmps.getD 27 undef, tmps.getD 28 undef, tmps.getD 29 undef, tmps.getD 30 undef, tmps.getD 31 undef, tmps.getD 32 undef, tmps.getD 33 undef, tmps.getD 34 undef, tmps.getD 35 undef, tmps.getD 36 undef, tmps.getD 37 undef, tmps.getD 38 undef, tmps.getD 39 undef, tmps.getD 40 undef, tmps.getD 41 undef, tmps.getD 42 undef, tmps.getD 43 undef, tmps.getD 44 undef, tmps.getD 45 undef, tmps.getD 46 undef, tmps.getD 47 undef, tmps.getD 48 undef, tmps.getD 49 undef, tmps.getD 50 undef, tmps.getD 51 undef, tmps.getD 52 undef, tmps.getD 53 undef, tmps.getD 54 undef, tmps.getD 55 undef, tmps.getD 56 undef, tmps.getD 57 undef, tmps.getD 58 undef, tmps.getD 59 undef, tmps.getD 60 undef, tmps.getD 61 undef, tmps.getD 62 undef, tmps.getD 63 undef, tmps.getD 64 undef, tmps.getD 65 undef, tmps.getD 66 undef, tmps.getD 67 undef, tmps.getD 68 undef, tmps.getD 69 undef, tmps.getD 70 undef, tmps.getD 71 undef, tmps.getD 72 undef, tmps.getD 73 undef, tmps.getD 74 undef, tmps.getD 75 undef, tmps.getD 76 undef, tmps.getD 77 undef, tmps.getD 78 undef, tmps.getD 79 undef, tmps.getD 80 undef, tmps.getD 81 undef, tmps.getD 82 undef, tmps.getD 83 undef, tmps.getD 84 undef, tmps.getD 85 undef, tmps.getD 86 undef, tmps.getD 87 undef, tmps.getD 88 undef, tmps.getD 89 undef, tmps.getD 90 undef, tmps.getD 91 undef, tmps.getD 92 undef, tmps.getD 93 undef, tmps.getD 94 undef, tmps.getD 95 undef, tmps.getD 96 undef, tmps.getD 97 undef, tmps.getD 98 undef, tmps.getD 99 undef, tmps.getD 100 undef, tmps.getD 101 undef, tmps.getD 102 undef, tmps.getD 103 undef, tmps.getD 104 undef, tmps.getD 105 undef, tmps.getD 106 undef, tmps.getD 107 undef, tmps.getD 108 undef, tmps.getD 109 undef, tmps.getD 110 undef, tmps.getD 111 undef, tmps.getD 112 undef, tmps.getD 113 undef, tmps.getD 114 undef, tmps.getD 115 undef, tmps.getD 116 undef, tmps.getD 117 undef, tmps.getD 118 undef, tmps.getD 119 undef, tmps.getD 120 undef, tmps.getD 121 undef, tmps.getD 122 undef, tmps.getD 123 undef, tmps.getD 124 undef, tmps.getD 125 undef, tmps.getD 126 undef, tmps.getD 127 undef, tmps.getD 128 undef, tmps.getD 129 undef, tmps.getD 130 undef, tmps.getD 131 undef, tmps.getD 132 undef, tmps.getD 133 undef, tmps.getD 134 undef, tmps.getD 135 undef, tmps.getD 136 undef, tmps.getD 137 undef, tmps.getD 138 undef, tmps.getD 139 undef, tmps.getD 140 undef, tmps.getD 141 undef, tmps.getD 142 undef, tmps.getD 143 undef, tmps.getD 144 undef, tmps.getD 145 undef, tmps.getD 146 undef, tmps.getD 147 undef, tmps.getD 148 undef, tmps.getD 149 undef, tmps.getD 150 undef, tmps.getD 151 undef, tmps.getD 152 undef, tmps.getD 153 undef, tmps.getD 154 undef, tmps.getD 155 undef, tmps.getD 156 undef, tmps.getD 157 undef, tmps.getD 158 undef, tmps.getD 159 undef, tmps.getD 160 undef, tmps.getD 161 undef, tmps.getD 162 undef, tmps.getD 163 undef, tmps.getD 164 undef, tmps.getD 165 undef, tmps.getD 166 undef, tmps.getD 167 undef, tmps.getD 168 undef, tmps.getD 169 undef, tmps.getD 170 undef, tmps.getD 171 undef, tmps.getD 172 undef, tmps.getD 173 undef, tmps.getD 174 undef, tmps.getD 175 undef, tmps.getD 176 undef, tmps.getD 177 undef, tmps.getD 178 undef, tmps.getD 179 undef, tmps.getD 180 undef, tmps.getD 181 undef, tmps.getD 182 undef, tmps.getD 183 undef, tmps.getD 184 undef, tmps.getD 185 undef, tmps.getD 186 undef, tmps.getD 187 undef, tmps.getD 188 undef, tmps.getD 189 undef, tmps.getD 190 undef, tmps.getD 191 undef, tmps.getD 192 undef, tmps.getD 193 undef, tmps.getD 194 undef, tmps.getD 195 undef, tmps.getD 196 undef, tmps.getD 197 undef, tmps.getD 198 undef, tmps.getD 199 undef, tmps.getD 200 undef, tmps.getD 201 undef, tmps.getD 202 undef, tmps.getD 203 undef, tmps.getD 204 undef, tmps.getD 205 undef, tmps.getD 206 undef, tmps.getD 207 undef, tmps.getD 208 undef, tmps.getD 209 undef, tmps.getD 210 undef, tmps.getD 211 undef, tmps.getD 212 undef, tmps.getD 213 undef, tmps.getD 214 undef, tmps.getD 215 undef, tmps.getD 216 undef, tmps.getD 217 undef, tmps.getD 218 undef, tmps.getD 219 undef, tmps.getD 220 undef, tmps.getD 221 undef, tmps.getD 222 undef, tmps.getD 223 undef, tmps.getD 224 undef, tmps.getD 225 undef, tmps.getD 226 undef, tmps.getD 227 undef, tmps.getD 228 undef, tmps.getD 229 undef, tmps.getD 230 undef, tmps.getD 231 undef, tmps.getD 232 undef, tmps.getD 233 undef, tmps.getD 234 undef, tmps.getD 235 undef, tmps.getD 236 undef, tmps.getD 237 undef, tmps.getD 238 undef, tmps.getD 239 undef, tmps.getD 240 undef, tmps.getD 241 undef, tmps.getD 242 undef, tmps.getD 243 undef, tmps.getD 244 undef, tmps.getD 245 undef, tmps.getD 246 undef, tmps.getD 247 undef, tmps.getD 248 undef, tmps.getD 249 undef, tmps.getD 250 undef, tmps.getD 251 undef, tmps.getD 252 undef, tmps.getD 253 undef, tmps.getD 254 undef, tmps.getD 255 undef, tmps.getD 256 undef] := rfl
  rw [h2] at h
  rw [k0, k1, k2, k3, k4, k15, k26, k27] at h
  exact congrArg (fun t => Act.mk t []) h

end Go.Proofs.YtpjfjfloeejgiaaFmt.Vm
/- The plain matcher: what it keeps of its captures. -/
set_option linter.unusedVariables false
set_option linter.unusedSimpArgs false
namespace Go.Proofs.YtpjfjfloeejgiaaFmt.Vm
open Go.RowKit Go.Proofs.YtpjfjfloeejgiaaFmtW.PrintWords Go.Proofs.YtpjfjfloeejgiaaFmt.Cls Go.Proofs.YtpjfjfloeejgiaaFmt.Ins Go.Proofs.YtpjfjfloeejgiaaFmt.Mst Go.Proofs.YtpjfjfloeejgiaaFmt.Mat

theorem bal_le {src : List Int} {a b : Int} : ∀ (k i : Nat) (n : Int) (e : Nat), bal src a b k i n = some e → e ≤ i + k := by
  intro k
  induction k with
  | zero => intro i n e h; simp [bal] at h
  | succ k ih =>
    intro i n e h
    unfold bal at h
    generalize (if rd src i = b then n - 1 else n) = m at h
    by_cases hm : m = 0
    · rw [if_pos hm] at h; obtain rfl := Option.some.inj h; omega
    · rw [if_neg hm] at h; have := ih _ _ _ h; omega
theorem take_le {src : List Int} {s e sp : Nat} (he : e ≤ src.length) (hs : s ≤ e) (h : (src.drop s).take (e - s) = (src.drop sp).take (e - s)) (hsp : sp ≤ src.length) : sp + (e - s) ≤ src.length := by
  have h1 := congrArg List.length h
  simp only [List.length_take, List.length_drop] at h1
  omega
/-- What sets and resets of captures keep, the matcher keeps. -/
theorem vm_pres {G : List Int → Prop} {src : List Int} {P : List Ins}
    (h5 : ∀ a b sp cs, Ins.op 5 a b ∈ P → sp ≤ src.length → G cs → G (setc cs a.toNat (2 * (sp : Nat))))
    (h5r : ∀ a b cs cs1, Ins.op 5 a b ∈ P → G cs → G cs1 → G (cs1.set a.toNat ((ext cs a.toNat).getD a.toNat 0)))
    (h6 : ∀ a b sp cs, Ins.op 6 a b ∈ P → sp ≤ src.length → G cs → G (((ext cs (a.toNat + 1)).set a.toNat (2 * ((sp + 1 : Nat) : Int) + 1)).set (a.toNat + 1) (2 * ((sp + 1 : Nat) : Int) + 1))) :
    ∀ (k rl pc sp : Nat) (cs : List Int) (r : Option Nat × List Int), vm src P k rl pc sp cs = some r → sp ≤ src.length → G cs → G r.2 := by
  intro k
  induction k with
  | zero => intro rl pc sp cs r h; simp [vm] at h
  | succ k ih =>
    intro rl pc sp cs r h hsp hl
    unfold vm at h
    split at h
    · cases h
    · rename_i c hP
      by_cases h1 : sp < src.length
      · rw [if_pos h1] at h
        by_cases h2 : clsm c (rd src sp) = true
        · rw [if_pos h2] at h; exact ih _ _ _ _ _ h h1 hl
        · rw [if_neg h2] at h; obtain rfl := Option.some.inj h; exact hl
      · rw [if_neg h1] at h; obtain rfl := Option.some.inj h; exact hl
    · rename_i o a b hP
      have hm := List.mem_of_getElem? hP
      by_cases o1 : o = 1
      · rw [if_pos o1] at h; obtain rfl := Option.some.inj h; exact hl
      · rw [if_neg o1] at h
        by_cases o2 : o = 2
        · rw [if_pos o2] at h; obtain rfl := Option.some.inj h; exact hl
        · rw [if_neg o2] at h
          by_cases o3 : o = 3
          · rw [if_pos o3] at h; exact ih _ _ _ _ _ h hsp hl
          rw [if_neg o3] at h
          by_cases o4 : o = 4
          · rw [if_pos o4] at h
            by_cases hr : 1000000 ≤ rl
            · rw [if_pos hr] at h; cases h
            · rw [if_neg hr] at h
              cases hc : vm src P k (rl + 1) a.toNat sp cs with
              | none => rw [hc] at h; cases h
              | some x =>
                rw [hc] at h
                obtain ⟨x1, cs1⟩ := x
                cases x1 with
                | none => exact ih _ _ _ _ _ h hsp (ih _ _ _ _ _ hc hsp hl)
                | some n => obtain rfl := Option.some.inj h; exact ih _ _ _ _ _ hc hsp hl
          rw [if_neg o4] at h
          by_cases o5 : o = 5
          · rw [if_pos o5] at h
            subst o5
            by_cases hr : 1000000 ≤ rl
            · rw [if_pos hr] at h; cases h
            · rw [if_neg hr] at h
              cases hc : vm src P k (rl + 1) (pc + 1) sp (setc cs a.toNat (2 * sp)) with
              | none => rw [hc] at h; cases h
              | some x =>
                rw [hc] at h
                obtain ⟨x1, cs1⟩ := x
                have hx := ih _ _ _ _ _ hc hsp (h5 a b sp cs hm hsp hl)
                cases x1 with
                | none => obtain rfl := Option.some.inj h; exact h5r a b cs cs1 hm hl hx
                | some n => obtain rfl := Option.some.inj h; exact hx
          rw [if_neg o5] at h
          by_cases o6 : o = 6
          · rw [if_pos o6] at h
            subst o6
            exact ih _ _ _ _ _ h hsp (h6 a b sp cs hm hsp hl)
          rw [if_neg o6] at h
          by_cases o7 : o = 7
          · rw [if_pos o7] at h
            by_cases hb : sp < src.length ∧ rd src sp = a
            · rw [if_pos hb] at h
              cases hc : bal src a b (src.length - (sp + 1)) (sp + 1) 1 with
              | none => rw [hc] at h; obtain rfl := Option.some.inj h; exact hl
              | some e => rw [hc] at h; exact ih _ _ _ _ _ h (by have := bal_le _ _ _ _ hc; omega) hl
            · rw [if_neg hb] at h; obtain rfl := Option.some.inj h; exact hl
          rw [if_neg o7] at h
          by_cases o8 : o = 8
          · rw [if_pos o8] at h
            by_cases hb : a.toNat * 2 + 1 < cs.length
            · rw [if_pos hb] at h
              simp only at h
              split at h
              · rename_i h3
                split at h
                · rename_i h4
                  exact ih _ _ _ _ _ h (take_le h3.2 h3.1 h4 hsp) hl
                · obtain rfl := Option.some.inj h; exact hl
              · cases h
            · rw [if_neg hb] at h; cases h
          rw [if_neg o8] at h
          cases h
theorem ext_len {cs : List Int} {s : Nat} (h : cs.length ≤ 1000) (hs : s + 1 ≤ 1000) : (ext cs s).length ≤ 1000 := by simp [ext]; omega
theorem ext_ge (cs : List Int) (s : Nat) : cs.length ≤ (ext cs s).length := by simp [ext]
/-- Captures as the matcher holds them: few, and small. -/
def Few (cs : List Int) : Prop := cs.length ≤ 1000 ∧ ∀ x ∈ cs, 0 ≤ x ∧ x ≤ 100000
theorem Few.ext {cs : List Int} {s : Nat} (h : Few cs) (hs : s + 1 ≤ 1000) : Few (ext cs s) := by
  refine ⟨ext_len h.1 hs, fun x hx => ?_⟩
  simp only [Mst.ext, List.mem_append, List.mem_replicate] at hx
  rcases hx with hx | ⟨_, rfl⟩
  · exact h.2 x hx
  · omega
theorem Few.set {cs : List Int} {s : Nat} {x : Int} (h : Few cs) (h0 : 0 ≤ x) (h1 : x ≤ 100000) : Few (cs.set s x) := by
  refine ⟨by rw [List.length_set]; exact h.1, fun y hy => ?_⟩
  rcases List.mem_or_eq_of_mem_set hy with h2 | rfl
  · exact h.2 y h2
  · exact ⟨h0, h1⟩
theorem Few.getD {cs : List Int} (h : Few cs) (i : Nat) : 0 ≤ cs.getD i 0 ∧ cs.getD i 0 ≤ 100000 := by
  rw [List.getD_eq_getElem?_getD]
  cases hi : cs[i]? with
  | none => simp
  | some x => simpa using h.2 x (List.mem_of_getElem? hi)
theorem vm_few {src : List Int} {P : List Ins} (hs : src.length ≤ 1000) (hops : ∀ o a b, Ins.op o a b ∈ P → o = 5 ∨ o = 6 → 0 ≤ a ∧ a ≤ 900) (k rl pc sp : Nat) (cs : List Int) (r : Option Nat × List Int) (h : vm src P k rl pc sp cs = some r) (hsp : sp ≤ src.length) (hf : Few cs) : Few r.2 := by
  refine vm_pres ?_ ?_ ?_ k rl pc sp cs r h hsp hf
  · intro a b sp cs hm hsp h
    have := hops _ _ _ hm (.inl rfl)
    exact (h.ext (by omega)).set (by omega) (by omega)
  · intro a b cs cs1 hm h h1
    have := hops _ _ _ hm (.inl rfl)
    have h2 := (h.ext (s := a.toNat) (by omega)).getD a.toNat
    exact h1.set h2.1 h2.2
  · intro a b sp cs hm hsp h
    have := hops _ _ _ hm (.inr rfl)
    exact ((h.ext (by omega)).set (by omega) (by omega)).set (by omega) (by omega)
theorem vm_grow {src : List Int} {P : List Ins} (n0 : Nat) (k rl pc sp : Nat) (cs : List Int) (r : Option Nat × List Int) (h : vm src P k rl pc sp cs = some r) (hsp : sp ≤ src.length) (hf : n0 ≤ cs.length) : n0 ≤ r.2.length := by
  refine vm_pres (G := fun cs => n0 ≤ cs.length) ?_ ?_ ?_ k rl pc sp cs r h hsp hf
  · intro a b sp cs hm hsp h
    unfold setc
    rw [List.length_set]
    exact Nat.le_trans h (ext_ge _ _)
  · intro a b cs cs1 hm h h1
    rw [List.length_set]
    exact h1
  · intro a b sp cs hm hsp h
    rw [List.length_set, List.length_set]
    exact Nat.le_trans h (ext_ge _ _)
end Go.Proofs.YtpjfjfloeejgiaaFmt.Vm
