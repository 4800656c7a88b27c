/- Joined texts of this seat: Pfe, Alm, Alw, Alp, Lwl. -/
import Derived.Test.YtpjfjfloeejgiaaFmtGn
/- ptFind of package spec: the walk once more, with what is told of its captures' place. -/
set_option linter.unusedVariables false
set_option linter.unusedSimpArgs false
namespace Go.Proofs.YtpjfjfloeejgiaaFmt.Rf
open Go.RowKit Go.Proofs.YtpjfjfloeejgiaaFmtW.PrintWords Go.Proofs.YtpjfjfloeejgiaaFmt.PFnPatternFirst
/-- What ptFind hands back. -/
def FndF (W : World) (o : Int × Option (Nat × Nat × List S74)) (e : Ending) (w' : World) : Prop :=
  Below W.heap.size W w' ∧ match o.2 with
  | none => e = .returned (.tuple #[.agg #[.int .i64 0, .int .i64 0, .slice none 0 0], .int .i64 o.1])
  | some (at_, en, caps) => ∃ A c, e = .returned (.tuple #[.agg #[.int .i64 (at_ : Int), .int .i64 (en : Int), .slice A caps.length c], .int .i64 o.1]) ∧ caps.length ≤ c ∧ k74.C w' A caps.length caps ∧ ∀ ad, A = some ad → 0 < caps.length → W.heap.size ≤ ad.block
section
variable {w : World} {s : ByteArray} {items : List S147}
set_option maxHeartbeats 40000000 in
set_option maxRecDepth 100000 in
theorem find_fresh {B : Option Addr} {cB : Nat} {anc : Bool} {nc : Int} {frm n : Nat} {o : Int × Option (Nat × Nat × List S74)} (hs : s.size ≤ 1000) (hB : isB s = true) (hit : ∀ x ∈ items, ItOk x) (hil : items.length ≤ 100)
    (hC : k147.C w B items.length items) (hfr : frm ≤ s.size) (ho : pFind (bytesOf s) items anc n frm 20000 = some o) :
    Calls Tryf.prog 24 #[.agg #[.bool anc, .slice B items.length cB, .int .i64 nc], .string s, .int .i64 (frm : Int)] w (FndF w o) := by
  have HM := fun (g : Nat) => match_all (W := w) (g := g) hs hB hit hil items.length 0 (by omega)
  have HMA := Aside0.mk HM
  have HO := Aside0.mk ho
  have HCI := Aside0.mk hC
  clear hit ho hC HM hB
  go_enter Tryf.func24, Tryf.ntmps24
  go_wp2_with fail
  have hb1 := blk_new w (.cells #[.bool anc, .slice B items.length cB, .int .i64 nc] 68)
  have hbw1 := below_alloc (Below.refl w.heap.size w) (.cells #[.bool anc, .slice B items.length cB, .int .i64 nc] 68)
  have hs1 : (w.alloc (.cells #[.bool anc, .slice B items.length cB, .int .i64 nc] 68)).heap.size = w.heap.size + 1 := by simp
  generalize w.alloc (.cells #[.bool anc, .slice B items.length cB, .int .i64 nc] 68) = wa at *
  have hb2 := blk_new wa (.cells #[.int .i64 0, .int .i64 0, .slice none 0 0] 53)
  rw [hs1] at hb2
  have hb1 := blk_alloc hb1 (.cells #[.int .i64 0, .int .i64 0, .slice none 0 0] 53)
  have hbw2 := below_alloc hbw1 (.cells #[.int .i64 0, .int .i64 0, .slice none 0 0] 53)
  have hs2 : (wa.alloc (.cells #[.int .i64 0, .int .i64 0, .slice none 0 0] 53)).heap.size = w.heap.size + 1 + 1 := by simp [hs1]
  generalize wa.alloc (.cells #[.int .i64 0, .int .i64 0, .slice none 0 0] 53) = wb at *
  have hb3 := blk_new wb (.cells #[.string s, .slice B items.length cB, .int .i64 20000] 100)
  rw [hs2] at hb3
  have hb1 := blk_alloc hb1 (.cells #[.string s, .slice B items.length cB, .int .i64 20000] 100)
  have hb2 := blk_alloc hb2 (.cells #[.string s, .slice B items.length cB, .int .i64 20000] 100)
  have hbw3 := below_alloc hbw2 (.cells #[.string s, .slice B items.length cB, .int .i64 20000] 100)
  generalize wb.alloc (.cells #[.string s, .slice B items.length cB, .int .i64 20000] 100) = wx at *
  have HM := Aside0.mk (show MtU w wx (w.heap.size + 1 + 1) s items 20000 from ⟨⟨B, cB, hb3, by omega, HCI.out⟩, hbw3⟩)
  have HB1 := Aside0.mk hb1
  have HB2 := Aside0.mk hb2
  have hbs : (bytesOf s).length = s.size := bytesOf_length s
  clear hs1 hs2 hb1 hb2 hb3 hbw1 hbw2 hbw3
  refine wp_loop_ghost_k (fun k a wr => ∃ (at_ : Nat) (l : Int), at_ ≤ s.size + 1 ∧ pFind (bytesOf s) items anc k at_ l = some o ∧ 0 < l ∧ l ≤ 20000 ∧ AtFnd s w.heap.size (w.heap.size + 1) (w.heap.size + 1 + 1) at_ (fun wr => MtU w wr (w.heap.size + 1 + 1) s items l ∧ KeepBut wx wr (w.heap.size + 1 + 1) none) a wr) n
    ⟨frm, 20000, by omega, HO.out, by omega, by omega, rfl, rfl, ⟨rfl, rfl, rfl, rfl, rfl, rfl⟩, HM.out, KeepBut.refl wx _ none⟩ ?_
  clear HM HO
  intro gk a wr hI J K hJ hK
  obtain ⟨at_, l, hat, hp, hl0, hl1, hI⟩ := hI
  obtain ⟨⟨u, rfl⟩, hm1, hk1⟩ := hI.open_
  have hq2 := hk1.blk HB2.out (by omega) (by simp)
  cases gk with
  | zero => simp [pFind] at hp
  | succ gk =>
  simp only [pFind] at hp
  rw [hbs] at hp
  by_cases hle : at_ ≤ s.size
  · rw [if_pos hle] at hp
    have hleI : (at_ : Int) ≤ (s.size : Int) := by omega
    have HP := Aside0.mk hp
    have HM1 := Aside0.mk hm1
    have HK1 := Aside0.mk hk1
    have HQ2 := Aside0.mk hq2
    clear hI hm1 hk1 hq2 hp
    go_wp2_with fail
    cases hmt : mt (bytesOf s) items at_ [] l with
    | none => have hp := HP.out; rw [hmt] at hp; cases hp
    | some y =>
    obtain ⟨r, l'⟩ := y
    have hp := HP.out
    rw [hmt] at hp
    simp only at hp
    have hcall := HMA.out (w.heap.size + 1 + 1) (wr.alloc (.cells #[] 74)) at_ (some ⟨wr.heap.size, 0, none⟩) 0 [] l r l' (HM1.out.below (below_alloc (Below.refl _ _) _)) ⟨⟨rfl, by simp, fun h => absurd h (Nat.lt_irrefl 0)⟩, Nat.le_refl _, fun ad _ h0 => absurd h0 (Nat.lt_irrefl _)⟩ hle ⟨by simp, by simp⟩ (by omega) (by omega) hmt
    have hl' : l' ≤ l - 1 := (mt_den _ _ _ _ _ _ _ hmt).1
    have HP2 := Aside0.mk hp
    clear hp hmt HP
    refine hcall.mono ?_
    rintro e w4 ⟨m1, m2, m3⟩
    have hk4 := (keep_alloc HK1.out (.cells #[] 74)).trans m2 (.inl rfl)
    obtain ⟨B', c', hb', _⟩ := m1.open_
    have e2 := blk_cell hb' 2
    have hq2 := hk4.blk HB2.out (by omega) (by simp)
    have hq1 := hk4.blk HB1.out (by omega) (by simp)
    have a0 := blk_cell hq1 0
    have M1 := Aside0.mk m1
    have HK4 := Aside0.mk hk4
    have HQ2 := Aside0.mk hq2
    clear hcall m1 m2 hk4 hb' hq2 hq1 HM1 HK1
    have zero : ∀ c : Int, o = (c, none) → c = o.1 ∧ FndF w o (.returned (.tuple #[.agg #[.int .i64 0, .int .i64 0, .slice none 0 0], .int .i64 c])) (((w4.setCell ⟨w.heap.size + 1, 0, none⟩ (.int .i64 0)).setCell ⟨w.heap.size + 1, 1, none⟩ (.int .i64 0)).setCell ⟨w.heap.size + 1, 2, none⟩ (.slice none 0 0)) := by
      rintro c rfl
      exact ⟨rfl, ((M1.out.b.setCell (p := ⟨w.heap.size + 1, 0, none⟩) (by simp) _).setCell (p := ⟨w.heap.size + 1, 1, none⟩) (by simp) _).setCell (p := ⟨w.heap.size + 1, 2, none⟩) (by simp) _, rfl⟩
    have ZERO := Aside0.mk zero
    clear zero
    have z0 := blk_cell HQ2.out 0
    have z1 := blk_cell HQ2.out 1
    have z2 := blk_cell HQ2.out 2
    have f0 := blk_frozen HQ2.out 0
    have f1 := blk_frozen HQ2.out 1
    have f2 := blk_frozen HQ2.out 2
    have hp := HP2.out
    by_cases hneg : l' ≤ 0
    · rw [if_pos hneg] at hp
      have ho : o = (2, none) := (Option.some.inj hp).symm
      have HOO := Aside0.mk ho
      clear hp HP2 ho
      cases r with
      | none =>
        subst m3
        go_wp2_with fail
        refine bodyPost_ret (v := .tuple #[.agg #[.int .i64 0, .int .i64 0, .slice none 0 0], .int .i64 2]) ?_ rfl (ZERO.out 2 HOO.out).2
        simp [results, Tryf.results24, go_sem, z0, z1, z2]
      | some y =>
        obtain ⟨en, caps⟩ := y
        obtain ⟨A4, c4, he, hc4⟩ := m3
        subst he
        clear hc4
        go_wp2_with fail
        refine bodyPost_ret (v := .tuple #[.agg #[.int .i64 0, .int .i64 0, .slice none 0 0], .int .i64 2]) ?_ rfl (ZERO.out 2 HOO.out).2
        simp [results, Tryf.results24, go_sem, z0, z1, z2]
    rw [if_neg hneg] at hp
    cases r with
    | some y =>
      obtain ⟨en, caps⟩ := y
      simp only at hp
      obtain ⟨A4, c4, he, hc4⟩ := m3
      subst he
      have ho : o = (0, some (at_, en, caps)) := (Option.some.inj hp).symm
      subst ho
      have hen : (0 : Int) ≤ (en : Int) := by omega
      have HC4 := Aside0.mk hc4
      clear hp HP2 hc4 ZERO
      go_wp2_with fail
      refine bodyPost_ret (v := .tuple #[.agg #[.int .i64 (at_ : Int), .int .i64 (en : Int), .slice A4 caps.length c4], .int .i64 0]) ?_ rfl ⟨?_, A4, c4, rfl, HC4.out.le, ?_, fun ad ha h0 => by have := HC4.out.ne ad ha h0; omega⟩
      · simp [results, Tryf.results24, go_sem, z0, z1, z2]
      · exact ((M1.out.b.setCell (p := ⟨w.heap.size + 1, 0, none⟩) (by simp) _).setCell (p := ⟨w.heap.size + 1, 1, none⟩) (by simp) _).setCell (p := ⟨w.heap.size + 1, 2, none⟩) (by simp) _
      · have hcu : CapU w4 (w.heap.size + 1) A4 c4 caps := ⟨HC4.out.cr, HC4.out.le, fun ad ha h0 => by have := HC4.out.ne ad ha h0; omega⟩
        exact (hcu.keep ((((KeepBut.refl w4 (w.heap.size + 1) none).set_ 0 _).set_ 1 _).set_ 2 _)).cr
    | none =>
      simp only at hp
      subst m3
      cases anc with
      | true =>
        rw [if_pos rfl] at hp
        have ho : o = (1, none) := (Option.some.inj hp).symm
        have HOO := Aside0.mk ho
        clear hp HP2 ho
        go_wp2_with fail
        refine bodyPost_ret (v := .tuple #[.agg #[.int .i64 0, .int .i64 0, .slice none 0 0], .int .i64 1]) ?_ rfl (ZERO.out 1 HOO.out).2
        simp [results, Tryf.results24, go_sem, z0, z1, z2]
      | false =>
        rw [if_neg (by simp)] at hp
        have HP3 := Aside0.mk hp
        have q1 : IntKind.i64.wrap ((at_ : Int) + 1) = (at_ : Int) + 1 := IntWalk.i64_in _ (by omega)
        clear hp HP2 z0 z1 z2 f0 f1 f2 ZERO
        go_wp2_with fail
        exact Handed.intro gk (by omega) (hJ _ _ _ ⟨at_ + 1, l', by omega, HP3.out, by omega, by omega, rfl, rfl, ⟨rfl, rfl, rfl, rfl, rfl, congrArg (Value.int .i64) (Int.natCast_succ at_).symm⟩, M1.out, HK4.out⟩)
  · rw [if_neg hle] at hp
    have hleI : ¬ (at_ : Int) ≤ (s.size : Int) := by omega
    obtain rfl : (1, none) = o := by simpa using hp
    have HM1 := Aside0.mk hm1
    have HQ2 := Aside0.mk hq2
    have z0 := blk_cell hq2 0
    have z1 := blk_cell hq2 1
    have z2 := blk_cell hq2 2
    have f0 := blk_frozen hq2 0
    have f1 := blk_frozen hq2 1
    have f2 := blk_frozen hq2 2
    clear hI hm1 hk1 hp hq2
    go_wp2_with fail
    refine bodyPost_ret (v := .tuple #[.agg #[.int .i64 0, .int .i64 0, .slice none 0 0], .int .i64 1]) ?_ rfl ⟨?_, rfl⟩
    · simp [results, Tryf.results24, go_sem, z0, z1, z2]
    · exact ((HM1.out.b.setCell (p := ⟨w.heap.size + 1, 0, none⟩) (by simp) _).setCell (p := ⟨w.heap.size + 1, 1, none⟩) (by simp) _).setCell (p := ⟨w.heap.size + 1, 2, none⟩) (by simp) _
end
end Go.Proofs.YtpjfjfloeejgiaaFmt.Rf
/- stMatches of package spec: the walk. -/
set_option linter.unusedVariables false
set_option linter.unusedSimpArgs false
namespace Go.Proofs.YtpjfjfloeejgiaaFmt.Lw
open Go.RowKit Go.Proofs.YtpjfjfloeejgiaaFmtW.PrintWords Go.Proofs.YtpjfjfloeejgiaaFmt.Rf Go.Proofs.YtpjfjfloeejgiaaFmt.Vm Go.Proofs.YtpjfjfloeejgiaaFmt.Mtc Go.Proofs.YtpjfjfloeejgiaaFmt.PFnPatternFirst
/-- At the head of stMatches' loop. -/
def AtStm (s : ByteArray) (q6 frm : Nat) (v : Value) (R : World → Prop) (a : Act) (w : World) : Prop :=
  a.tmps.size = 56 ∧ a.defers = [] ∧ (a.tmps.getD 0 undef = .string s ∧ a.tmps.getD 6 undef = .pointer (some ⟨q6, 0, none⟩) ∧ a.tmps.getD 8 undef = v ∧ a.tmps.getD 9 undef = .int .i64 (frm : Int)) ∧ R w
set_option maxRecDepth 100000 in
theorem AtStm.open_ {s : ByteArray} {q6 frm : Nat} {v : Value} {R : World → Prop} {a : Act} {w : World} (h : AtStm s q6 frm v R a w) : (∃ u : Nat → Value, a = ⟨#[.string s, u 1, u 2, u 3, u 4, u 5, .pointer (some ⟨q6, 0, none⟩), u 7, v, .int .i64 (frm : Int), u 10, u 11, u 12, u 13, u 14, u 15, u 16, u 17, u 18, u 19, u 20, u 21, u 22, u 23, u 24, u 25, u 26, u 27, u 28, u 29, u 30, u 31, u 32, u 33, u 34, u 35, u 36, u 37, u 38, u 39, u 40, u 41, u 42, u 43, u 44, u 45, u 46, u 47, u 48, u 49, u 50, u 51, u 52, u 53, u 54, u 55], []⟩) ∧ R w := by
  obtain ⟨tmps, defers⟩ := a
  obtain ⟨hs, hd, ⟨h0, h6, h8, h9⟩, hR⟩ := h
  refine ⟨⟨fun i => tmps.getD i undef, ?_⟩, hR⟩
  have hd' : defers = [] := hd
  subst hd'
  have k0 : tmps.getD 0 undef = .string s := h0
  have k6 : tmps.getD 6 undef = .pointer (some ⟨q6, 0, none⟩) := h6
  have k8 : tmps.getD 8 undef = v := h8
  have k9 : tmps.getD 9 undef = .int .i64 (frm : Int) := h9
  have h := frame_lit 56 tmps hs
  have h2 : ((List.range 56).map (fun i => tmps.getD i undef)).toArray = #[tmps.getD 0 undef, tmps.getD 1 undef, tmps.getD 2 undef, tmps.getD 3 undef, tmps.getD 4 undef, tmps.getD 5 undef, tmps.getD 6 undef, tmps.getD 7 undef, tmps.getD 8 undef, tmps.getD 9 undef, tmps.getD 10 undef, tmps.getD 11 undef, tmps.getD 12 undef, tmps.getD 13 undef, tmps.getD 14 undef, tmps.getD 15 undef, tmps.getD 16 undef, tmps.getD 17 undef, tmps.getD 18 undef, tmps.getD 19 undef, tmps.getD 20 undef, tmps.getD 21 undef, tmps.getD 22 undef, tmps.getD 23 undef, tmps.getD 24 undef, tmps.getD 25 undef, tmps.getD 26 undef, tmps.getD 27 undef, tmps.getD 28 undef, tmps.getD 29 undef, tmps.getD 30 undef, tmps.getD 31 undef, tmps.getD 32 undef, tmps.getD 33 undef, tmps.getD 34 undef, tmps.getD 35 undef, tmps.getD 36 undef, tmps.getD 37 undef, tmps.getD 38 undef, tmps.getD 39 undef, tmps.getD 40 undef, tmps.getD 41 undef, tmps.getD 42 undef, tmps.getD 43 undef, tmps.getD 44 undef, tmps.getD 45 undef, tmps.getD 46 undef, tmps.getD 47 undef, tmps.getD 48 undef, tmps.getD 49 undef, tmps.getD 50 undef, tmps.getD 51 undef, tmps.getD 52 undef, tmps.getD 53 undef, tmps.getD 54 undef, tmps.getD 55 undef] := rfl
  rw [h2] at h
  rw [k0, k6, k8, k9] at h
  exact congrArg (fun t => Act.mk t _) h
abbrev Fnd := Nat × Nat × List S74
/-- Two numbers and a slice, as they lie. -/
def kRaw : Kd (Int × Int × Value) where
  sz := 3
  E := []
  K := fun _ x cs => cs = [.int .i64 x.1, .int .i64 x.2.1, x.2.2] ∧ x.2.2.oneCell' = true
  M := fun _ _ _ x cs => cs = [.int .i64 x.1, .int .i64 x.2.1, x.2.2] ∧ x.2.2.oneCell' = true
  K_len := by rintro w x cs ⟨rfl, _⟩; rfl
  K_one := by
    rintro w x cs ⟨rfl, h⟩ u hu
    simp only [List.mem_cons, List.not_mem_nil, or_false] at hu
    rcases hu with rfl | rfl | rfl
    · rfl
    · rfl
    · exact h
  K_below := by rintro w w1 x cs _ h; exact h
  K_of_M := by rintro w base ok x cs h; exact h
  M_mono := by rintro w base ok ok' x cs _ h; exact h
  M_bound := by rintro w base ok x cs h; exact h
  M_move := by rintro w w1 base ok x cs _ h; exact h
  M_lower := by rintro w base base' ok x cs _ h; exact h
theorem info53 : (Tryf.prog.info? 53).map (fun i => (i.zero, i.size, i.bytes)) = some (some (.agg #[.int .i64 0, .int .i64 0, .slice none 0 0]), 3, 40) := by kernel_rfl
/-- An element of the row: what it tells. -/
def El (wr : World) (v : Value) (x : Int × Int × Value) (f : Fnd) : Prop :=
  ∃ A c, x = ((f.1 : Int), (f.2.1 : Int), .slice A f.2.2.length c) ∧ f.2.2.length ≤ c ∧ k74.C wr A f.2.2.length f.2.2 ∧ ∀ ad, A = some ad → 0 < f.2.2.length → some ad.block ≠ v.ownBlock
/-- The matches so far. -/
structure StU (W wr : World) (v : Value) (fs : List Fnd) : Prop where
  b : Below W.heap.size W wr
  ex : ∃ xs, kRaw.R 53 wr W.heap.size (fun _ => True) v xs ∧ xs.length = fs.length ∧ ∀ (i : Nat) x f, xs[i]? = some x → fs[i]? = some f → El wr v x f
section
variable {W wr w1 : World} {v : Value} {fs : List Fnd}
variable {ops : Array Oper} {o : Oper} {a : Act} {Q : Exit → Act → World → Prop} {rest : List Oper}
theorem El.below {x : Int × Int × Value} {f : Fnd} (h : El wr v x f) (hb : Below wr.heap.size wr w1) : El w1 v x f := by
  obtain ⟨A, c, h1, h2, h3, h4⟩ := h
  exact ⟨A, c, h1, h2, Kd.C_below h3 hb, h4⟩
theorem StU.below (h : StU W wr v fs) (hb : Below wr.heap.size wr w1) : StU W w1 v fs := by
  obtain ⟨xs, h1, h2, h3⟩ := h.ex
  exact ⟨h.b.trans (hb.mono h.b.size), xs, Kd.R_below h1 hb, h2, fun i x f hx hf => (h3 i x f hx hf).below hb⟩
theorem StU.sl (h : StU W wr v fs) : ∃ A c, v = .slice A fs.length c := by
  obtain ⟨xs, h1, h2, h3⟩ := h.ex
  rw [← h2]
  exact Kd.R_slice h1
theorem StU.new (W : World) : StU W (W.alloc (.cells #[] 53)) (.slice (some ⟨W.heap.size, 0, none⟩) 0 0) [] :=
  ⟨below_alloc (Below.refl _ _) _, [], ⟨fun k hk => trivial, _, World.ownsRow_lit (base := W.heap.size) (e := 53) (size := 3) W #[] 0 (Nat.le_refl _) (by decide) rfl, Reps.none _ _⟩, rfl, fun i x f hx => by simp at hx⟩
/-- append(out, f). -/
theorem StU.list (h : StU W wr v fs) (hb : Below wr.heap.size wr w1) (hgd : o.guard = none) (s y : Operand) (ho : o.op = .call { callee := .builtin .append, args := #[s, y], argTypes := #[48, 48] })
    (hs : a.eval s = v) {N : Nat} (hy : a.eval y = .slice (some ⟨N, 0, none⟩) 1 1) (hN : w1.heap.size = N) (hl : fs.length ≤ 100000) (f : Fnd) {A : Option Addr} {c : Nat} (hle : f.2.2.length ≤ c) (hC : k74.C w1 A f.2.2.length f.2.2) (hfr : ∀ ad, A = some ad → 0 < f.2.2.length → wr.heap.size ≤ ad.block)
    (hK : ∀ A1 n1 c1 w2, StU W w2 (.slice A1 n1 c1) (fs ++ [f]) → Below W.heap.size W w2 → (∀ q : Nat, wr.heap.size ≤ q → q < w1.heap.size → w2.heap[q]? = w1.heap[q]?) → wpList Tryf.prog ops Q rest (a.put o.dst (.slice A1 n1 c1)) w2) :
    wpList Tryf.prog ops Q (o :: rest) a (w1.alloc (.cells #[.int .i64 (f.1 : Int), .int .i64 (f.2.1 : Int), .slice A f.2.2.length c] 53)) := by
  subst hN
  have h1 := h.below hb
  obtain ⟨xs, r1, r2, r3⟩ := h1.ex
  refine Kd.R_append (P := Tryf.prog) kRaw (w0 := W) W.heap.size hgd s y 48 53 (.agg #[.int .i64 0, .int .i64 0, .slice none 0 0]) 40 ho Tryf.underlying48 info53 rfl (by decide) (by decide) v xs ((f.1 : Int), (f.2.1 : Int), .slice A f.2.2.length c) [.int .i64 (f.1 : Int), .int .i64 (f.2.1 : Int), .slice A f.2.2.length c] (fun _ => True) (fun _ => False) hs hy
    ⟨rfl, rfl⟩ (fun k hk => hk.elim) (fun k hk => trivial) r1 h1.b h1.b.size (by omega) ?_
  intro v' w2 hR hb2 hg hat
  obtain ⟨A1, c1, rfl⟩ := Kd.R_slice hR
  have hvlt : ∀ k, v.ownBlock = some k → k < wr.heap.size := fun k hk => by
    obtain ⟨xs0, s1, _⟩ := h.ex
    exact Kd.R_lt s1 k hk
  have keep : ∀ {A : Option Addr} {caps : List S74}, k74.C w1 A caps.length caps → (∀ ad, A = some ad → 0 < caps.length → some ad.block ≠ v.ownBlock) → k74.C w2 A caps.length caps := by
    intro A caps hc hn
    refine Kd.C_foot_neS (S := fun k => v.ownBlock = some k) (fun h => h) hc (fun ad ha hp hq => hn ad ha hp hq.symm) _ ⟨?_, fun i hi hs => ?_⟩
    · exact hg.size
    · exact hg.block i hi (fun hq => hs hq.symm)
  obtain ⟨vn, hvn⟩ : ∃ vn, Value.slice A1 (xs ++ [((f.1 : Int), (f.2.1 : Int), Value.slice A f.2.2.length c)]).length c1 = vn := ⟨_, rfl⟩
  rw [hvn] at hat
  have far : ∀ {A : Option Addr} {caps : List S74}, k74.C w1 A caps.length caps → (∀ ad, A = some ad → 0 < caps.length → some ad.block ≠ v.ownBlock) → ∀ ad, A = some ad → 0 < caps.length → some ad.block ≠ vn.ownBlock := by
    intro A caps hc hn ad ha hp hq
    rcases hat with hat | ⟨b, hbk, hle⟩
    · rw [hat] at hq; exact hn ad ha hp hq
    · rw [hbk] at hq
      injection hq with hq
      subst ha
      have := Kd.C_lt hc hp (by decide)
      omega
  have hnew : ∀ ad, A = some ad → 0 < f.2.2.length → some ad.block ≠ v.ownBlock := fun ad ha hp hq => by
    have := hvlt _ hq.symm
    have := hfr ad ha hp
    omega
  refine hK _ _ _ _ ⟨hb2, _, hR, by simp [r2], fun i x g hx hf => ?_⟩ hb2 (fun q hge hlt => hg.block q hlt (fun e' => by have := hvlt q e'.symm; omega))
  · rw [List.getElem?_append] at hx hf
    rw [r2] at hx
    split at hx
    · rename_i hlt
      rw [if_pos hlt] at hf
      obtain ⟨A2, c2, e1, e2, e3, e4⟩ := r3 i x g hx hf
      exact ⟨A2, c2, e1, e2, keep e3 e4, by rw [hvn]; exact far e3 e4⟩
    · rename_i hlt
      rw [if_neg hlt] at hf
      rw [List.getElem?_singleton] at hx hf
      split at hx
      · rename_i hz
        rw [if_pos hz] at hf
        cases hx
        cases hf
        exact ⟨A, c, rfl, hle, keep hC hnew, by rw [hvn]; exact far hC hnew⟩
      · cases hx
end
/-- The matches, one behind the other; none: open. -/
def pAll (s : List Int) (items : List S147) : Nat → Nat → List Fnd → Option (Option (List Fnd))
  | 0, _, _ => none
  | n + 1, frm, out =>
    match pFind s items false (s.length + 2) frm 20000 with
    | none => none
    | some (c, none) => if c = 1 then some (some out) else some none
    | some (_, some (a, e, caps)) => if e = a then some none else pAll s items n e (out ++ [(a, e, caps)])
/-- What stMatches hands back. -/
def StE (W : World) (o : Option (List Fnd)) (e : Ending) (w' : World) : Prop :=
  Below W.heap.size W w' ∧ match o with
  | none => e = .returned (.tuple #[.slice none 0 0, .int .i64 2])
  | some fs => ∃ v W2, e = .returned (.tuple #[v, .int .i64 0]) ∧ StU W2 w' v fs
/-- What stMatches tells. -/
def fAll (p s : ByteArray) : Option (List Fnd) :=
  match pRead (bytesOf p) with
  | none => none
  | some (anc, items, _) => if isB s = false ∨ anc = true then none else (pAll (bytesOf s) items (s.size + 2) 0 []).getD none
theorem dFind_ge {s : List Int} {items : List S147} {anc : Bool} : ∀ (n at_ : Nat) (a e : Nat) (c : List S74), dFind s items anc n at_ = some (some (a, e, c)) → at_ ≤ a := by
  intro n
  induction n with
  | zero => intro at_ a e c h; simp [dFind] at h
  | succ n ih =>
    intro at_ a e c h
    simp only [dFind] at h
    split at h
    · split at h
      · cases h
      · simp only [Option.some.injEq, Prod.mk.injEq] at h; omega
      · split at h
        · cases h
        · have := ih _ _ _ _ h; omega
    · cases h
/-- What holds of each match. -/
theorem all_fit {p s : ByteArray} {anc : Bool} {items : List S147} {n : Nat} (hr : pRead (bytesOf p) = some (anc, items, n)) (hB : isB s = true) (hs : s.size ≤ 200) {k at_ : Nat} {l : Int} {a e : Nat} {caps : List S74} (h : pFind (bytesOf s) items anc k at_ l = some (0, some (a, e, caps))) :
    at_ ≤ a ∧ a ≤ e ∧ e ≤ s.size ∧ caps.length ≤ 9 ∧ dFind (bytesOf s) items anc k at_ = some (some (a, e, caps)) ∧ ∀ x ∈ caps, 0 ≤ x.f0 ∧ x.f0 ≤ 1000 ∧ -2000 ≤ x.f1 ∧ x.f1 ≤ 2000 := by
  rcases pFind_d _ _ _ _ h with h3 | ⟨x, h3, h4⟩ | ⟨h3, h4⟩
  · cases h3
  · simp only [Prod.mk.injEq, Option.some.injEq, true_and] at h3
    subst h3
    obtain ⟨cs, hfit⟩ := dFind_fit hr hB hs h4
    have hle := hfit.le
    rw [bytesOf_length] at hle
    refine ⟨dFind_ge _ _ _ _ _ h4, hle.1, hle.2, hfit.nine, h4, fun y hy => ?_⟩
    obtain ⟨j, hj, rfl⟩ := List.getElem_of_mem hy
    have := hfit.at_ (List.getElem?_eq_getElem hj)
    omega
  · cases h3
theorem pAll_def {p s : ByteArray} {items : List S147} {n : Nat} (hr : pRead (bytesOf p) = some (false, items, n)) (hB : isB s = true) (hs : s.size ≤ 200) (hw : Wf items 0 []) : ∀ (k frm : Nat) (out : List Fnd), frm ≤ s.size → s.size + 1 ≤ k + frm → ∃ o, pAll (bytesOf s) items k frm out = some o := by
  intro k
  induction k with
  | zero => intro frm out h1 h2; omega
  | succ k ih =>
    intro frm out h1 h2
    have hbs : (bytesOf s).length = s.size := bytesOf_length s
    obtain ⟨o, ho⟩ := pFind_def (s := bytesOf s) (anc := false) hw ((bytesOf s).length + 2) frm 20000 (by omega) (by omega)
    simp only [pAll]
    rw [ho]
    obtain ⟨c, r⟩ := o
    cases r with
    | none => simp only; split <;> exact ⟨_, rfl⟩
    | some y =>
      obtain ⟨a, e, caps⟩ := y
      simp only
      have hc : c = 0 := by
        rcases pFind_code _ _ _ _ ho with (hq | hq) | ⟨x, hq⟩ <;> simp at hq
        exact hq.1
      subst hc
      obtain ⟨k1, k2, k3, _⟩ := all_fit hr hB hs ho
      split
      · exact ⟨_, rfl⟩
      · exact ih e _ (by omega) (by omega)
section
variable {w : World} {p s : ByteArray}
set_option maxHeartbeats 40000000 in
set_option maxRecDepth 100000 in
theorem stMatches_calls (hs : s.size ≤ 200) : Calls Tryf.prog 16 #[.string s, .string p] w (StE w (fAll p s)) := by
  have HRD := Aside0.mk (read_all (w := w) (s := p))
  have HBY := Aside0.mk (fun W => bytes_calls W (show s.size ≤ 2147483647 by omega))
  obtain ⟨o, ho⟩ : ∃ o, fAll p s = o := ⟨_, rfl⟩
  rw [ho]
  unfold fAll at ho
  have HO := Aside0.mk ho
  have hbs : (bytesOf s).length = s.size := bytesOf_length s
  clear ho
  go_enter Tryf.func16, Tryf.ntmps16
  go_wp2_with fail
  refine HRD.out.mono ?_
  rintro e w2 ⟨hb2, hE⟩
  have ho := HO.out
  cases hpr : pRead (bytesOf p) with
  | none =>
    rw [hpr] at hE ho
    obtain ⟨vb, vA, vn, vc, vk, he⟩ := hE
    subst he
    simp only at ho
    subst ho
    have HB3 := Aside0.mk (below_alloc hb2 (.cells #[.bool vb, .slice vA vn vc, .int .i64 vk] 68))
    clear hpr HO HBY HRD hb2
    go_wp2_with fail
    go_ret2
    exact ⟨HB3.out, rfl⟩
  | some y =>
    obtain ⟨anc, items, nc⟩ := y
    rw [hpr] at hE ho
    obtain ⟨A, c, he, hic, hC⟩ := hE
    subst he
    obtain ⟨ps, its, ee, hM⟩ := read_made (fun x hx => (bytes_nonneg p x hx).1) hpr
    have hl : items.length ≤ 100 := by
      rw [hM.eq, List.length_append]
      have h1 := hM.few
      have h2 : (endI ee).length ≤ 1 := by unfold endI; split <;> simp
      omega
    have HMD := Aside0.mk hM
    have HPR := Aside0.mk hpr
    have hw8 := blk_new w2 (.cells #[.bool anc, .slice A items.length c, .int .i64 (nc : Int)] 68)
    have HB3 := Aside0.mk (below_alloc hb2 (.cells #[.bool anc, .slice A items.length c, .int .i64 (nc : Int)] 68))
    have HC3 := Aside0.mk (Kd.C_below hC (below_alloc (Below.refl w2.heap.size w2) (.cells #[.bool anc, .slice A items.length c, .int .i64 (nc : Int)] 68)))
    have HO2 := Aside0.mk ho
    clear hpr HO ho hC hM hb2 HRD
    go_upto_region 2 with (fail)
    generalize w2.alloc (.cells #[.bool anc, .slice A items.length c, .int .i64 (nc : Int)] 68) = w3 at *
    generalize w2.heap.size = q6 at *
    have a0 := blk_cell hw8 0
    have a1 := blk_cell hw8 1
    have a2 := blk_cell hw8 2
    have HW8 := Aside0.mk hw8
    clear hw8
    go_wp2_with fail
    refine (HBY.out w3).mono ?_
    rintro e4 w4 ⟨he4, hd4⟩
    subst he4
    have hb4 : Below w3.heap.size w3 w4 := hd4.below
    have HB4 := Aside0.mk (HB3.out.trans (hb4.mono HB3.out.size))
    have HW4 := Aside0.mk ((hb4.block _ (blk_lt HW8.out)).trans HW8.out)
    have HC4 := Aside0.mk (Kd.C_below HC3.out hb4)
    have a0 := blk_cell HW4.out 0
    have a1 := blk_cell HW4.out 1
    have a2 := blk_cell HW4.out 2
    have ho := HO2.out
    clear hb4 hd4 HB3 HW8 HC3 HBY HO2
    cases hB : isB s with
    | false =>
      rw [if_pos (.inl hB)] at ho
      subst ho
      clear HC4 HMD HPR hB a0 a1 a2
      go_wp2_with fail
      go_ret2
      exact ⟨HB4.out, rfl⟩
    | true =>
    have HBB := Aside0.mk hB
    clear hB
    cases anc with
    | true =>
      rw [if_pos (.inr rfl)] at ho
      subst ho
      clear HC4 HMD HPR
      go_wp2_with fail
      go_ret2
      exact ⟨HB4.out, rfl⟩
    | false =>
    rw [if_neg (by rw [HBB.out]; simp)] at ho
    obtain ⟨oo, hoo⟩ := pAll_def HPR.out HBB.out hs HMD.out.wf (s.size + 2) 0 [] (Nat.zero_le _) (by omega)
    rw [hoo, Option.getD_some] at ho
    subst ho
    have HOO := Aside0.mk hoo
    clear hoo
    go_wp2_with fail
    have HS0 := Aside0.mk (StU.new w4)
    have HI0 := Aside0.mk (HC4.out)
    generalize w4.alloc (.cells #[] 53) = wx at *
    clear a0 a1 a2
    refine wp_loop_ghost_k (fun k a wr => ∃ (frm : Nat) (v : Value) (fs : List Fnd), frm ≤ s.size ∧ fs.length + k ≤ s.size + 2 ∧ pAll (bytesOf s) items k frm fs = some oo ∧ AtStm s q6 frm v (fun wr => StU w4 wr v fs) a wr) (s.size + 2)
      ⟨0, _, [], Nat.zero_le _, (by simp), HOO.out, rfl, rfl, ⟨rfl, rfl, rfl, rfl⟩, HS0.out⟩ ?_
    clear HS0 HOO
    intro gk a wr hI J K hJ hK
    obtain ⟨frm, v, fs, hfr, hlen, hall, hI⟩ := hI
    obtain ⟨⟨u, rfl⟩, hst⟩ := hI.open_
    have HST := Aside0.mk hst
    have hq6 := (hst.b.block _ (blk_lt HW4.out)).trans HW4.out
    have a0 := blk_cell hq6 0
    have a1 := blk_cell hq6 1
    have a2 := blk_cell hq6 2
    clear hI
    cases gk with
    | zero => simp [pAll] at hall
    | succ gk =>
    simp only [pAll] at hall
    cases hpf : pFind (bytesOf s) items false ((bytesOf s).length + 2) frm 20000 with
    | none => rw [hpf] at hall; cases hall
    | some o =>
    rw [hpf] at hall
    have hcode := pFind_code _ _ _ _ hpf
    have hfd := find_fresh (w := wr) (cB := c) (anc := false) (nc := (nc : Int)) (by omega) HBB.out HMD.out.it hl (Kd.C_below HC4.out hst.b) hfr hpf
    have HFD := Aside0.mk hfd
    have HFIT := Aside0.mk (fun a e caps (h : o = (0, some (a, e, caps))) => all_fit HPR.out HBB.out hs (h ▸ hpf))
    have HALL := Aside0.mk hall
    clear hfd hpf hall hst hq6
    go_wp2_with fail
    refine HFD.out.mono ?_
    rintro e5 w5 ⟨hb5, hm5⟩
    have HB5 := Aside0.mk hb5
    clear hb5 HFD a0 a1 a2
    rcases hcode with (rfl | rfl) | ⟨⟨a, e, caps⟩, rfl⟩
    · simp only at hm5
      subst hm5
      have hall := HALL.out
      simp only [if_true] at hall
      obtain rfl := Option.some.inj hall
      have HS6 := Aside0.mk ((HST.out.below HB5.out).below (below_alloc (Below.refl w5.heap.size w5) (.cells #[.int .i64 0, .int .i64 0, .slice none 0 0] 53)))
      have HB6 := Aside0.mk (HB4.out.trans (HS6.out.b.mono HB4.out.size))
      clear hall HALL HST HB5 HFIT
      go_wp2_with fail
      go_ret2
      exact ⟨HB6.out, _, w4, rfl, HS6.out⟩
    · simp only at hm5
      subst hm5
      have hall := HALL.out
      simp only [show ((2 : Int) = 1) = False by simp, if_false] at hall
      obtain rfl := Option.some.inj hall
      have HS6 := Aside0.mk ((HST.out.below HB5.out).below (below_alloc (Below.refl w5.heap.size w5) (.cells #[.int .i64 0, .int .i64 0, .slice none 0 0] 53)))
      have HB6 := Aside0.mk (HB4.out.trans (HS6.out.b.mono HB4.out.size))
      clear hall HALL HST HB5 HFIT HS6
      go_wp2_with fail
      go_ret2
      exact ⟨HB6.out, rfl⟩
    · simp only at hm5
      obtain ⟨A5, c5, he5, hl5, hc5, hfr5⟩ := hm5
      subst he5
      obtain ⟨k1, k2, k3, k4, k5, k6⟩ := HFIT.out a e caps rfl
      have hall := HALL.out
      simp only at hall
      have HX6 := Aside0.mk (blk_new w5 (.cells #[.int .i64 (a : Int), .int .i64 (e : Int), .slice A5 caps.length c5] 53))
      have HB6 := Aside0.mk (below_alloc HB5.out (.cells #[.int .i64 (a : Int), .int .i64 (e : Int), .slice A5 caps.length c5] 53))
      have HC6 := Aside0.mk (Kd.C_below hc5 (below_alloc (Below.refl w5.heap.size w5) (.cells #[.int .i64 (a : Int), .int .i64 (e : Int), .slice A5 caps.length c5] 53)))
      have HFR := Aside0.mk hfr5
      have hge6 : wr.heap.size ≤ w5.heap.size := HB5.out.size
      have hlt6 : w5.heap.size < (w5.alloc (.cells #[.int .i64 (a : Int), .int .i64 (e : Int), .slice A5 caps.length c5] 53)).heap.size := by simp
      clear hc5 hfr5 HALL HB5 k4 k5 k6 HFIT
      go_upto_block 2 with (fail)
      generalize w5.alloc (.cells #[.int .i64 (a : Int), .int .i64 (e : Int), .slice A5 caps.length c5] 53) = w6 at *
      generalize w5.heap.size = q10 at *
      have b0 := blk_cell HX6.out 0
      have b1 := blk_cell HX6.out 1
      have b2 := blk_cell HX6.out 2
      by_cases hea : e = a
      · rw [if_pos hea] at hall
        obtain rfl := Option.some.inj hall
        subst hea
        have HB7 := Aside0.mk (HB4.out.trans ((HST.out.below HB6.out).b.mono HB4.out.size))
        clear hall HST HB6 HC6 HFR
        go_wp2_with fail
        go_ret2
        exact ⟨HB7.out, rfl⟩
      · rw [if_neg hea] at hall
        have hne : ((e : Int) == (a : Int)) = false := beq_eq_false_iff_ne.mpr (by omega)
        have HALL2 := Aside0.mk hall
        have HFL := Aside0.mk (show fs.length ≤ 100000 by omega)
        obtain ⟨vA, vc, hv⟩ := HST.out.sl
        generalize hvl : fs.length = vl at hv
        subst hv
        have HLE := Aside0.mk (show (fs ++ [(a, e, caps)]).length + gk ≤ s.size + 2 by rw [List.length_append, List.length_singleton]; omega)
        clear hall hea hvl
        go_wp2_with (at_builtin; refine StU.list (HST.out) (HB6.out) rfl (.tmp 50) (.tmp 52) rfl rfl (by rfl) rfl HFL.out (a, e, caps) hl5 HC6.out HFR.out ?_; intro A7 n7 c7 w7 hS7 hb7 hkeep; have HS7 := Aside0.mk hS7; have HX7 := Aside0.mk ((hkeep q10 hge6 hlt6).trans HX6.out); clear hS7 hkeep hb7 b0 b1 b2; have b1 := blk_cell HX7.out 1)
        exact Handed.intro gk (by omega) (hJ _ _ _ ⟨e, _, fs ++ [(a, e, caps)], k3, HLE.out, HALL2.out, rfl, rfl, ⟨rfl, rfl, rfl, rfl⟩, HS7.out⟩)
end
end Go.Proofs.YtpjfjfloeejgiaaFmt.Lw
/- AllMatches of package spec: the walk. -/
set_option linter.unusedVariables false
set_option linter.unusedSimpArgs false
namespace Go.Proofs.YtpjfjfloeejgiaaFmt.Lw
open Go.RowKit Go.Proofs.YtpjfjfloeejgiaaFmtW.PrintWords Go.Proofs.YtpjfjfloeejgiaaFmt.Rf Go.Proofs.YtpjfjfloeejgiaaFmt.Vm Go.Proofs.YtpjfjfloeejgiaaFmt.Mtc Go.Proofs.YtpjfjfloeejgiaaFmt.PFnPatternFirst
/-- At the head of AllMatches' loop. -/
def AtAll (A : Option Addr) (n c i : Nat) (cd : Int) (v : Value) (R : World → Prop) (a : Act) (w : World) : Prop :=
  a.tmps.size = 35 ∧ a.defers = [] ∧ (a.tmps.getD 7 undef = .int .i64 cd ∧ a.tmps.getD 8 undef = v ∧ a.tmps.getD 21 undef = .slice A n c ∧ a.tmps.getD 22 undef = .int .i64 (n : Int) ∧ a.tmps.getD 23 undef = .int .i64 (i : Int)) ∧ R w
set_option maxRecDepth 100000 in
theorem AtAll.open_ {A : Option Addr} {n c i : Nat} {cd : Int} {v : Value} {R : World → Prop} {a : Act} {w : World} (h : AtAll A n c i cd v R a w) : (∃ u : Nat → Value, a = ⟨#[u 0, u 1, u 2, u 3, u 4, u 5, u 6, .int .i64 cd, v, u 9, u 10, u 11, u 12, u 13, u 14, u 15, u 16, u 17, u 18, u 19, u 20, .slice A n c, .int .i64 (n : Int), .int .i64 (i : Int), u 24, u 25, u 26, u 27, u 28, u 29, u 30, u 31, u 32, u 33, u 34], []⟩) ∧ R w := by
  obtain ⟨tmps, defers⟩ := a
  obtain ⟨hs, hd, ⟨h7, h8, h21, h22, h23⟩, hR⟩ := h
  refine ⟨⟨fun i => tmps.getD i undef, ?_⟩, hR⟩
  have hd' : defers = [] := hd
  subst hd'
  have k7 : tmps.getD 7 undef = .int .i64 cd := h7
  have k8 : tmps.getD 8 undef = v := h8
  have k21 : tmps.getD 21 undef = .slice A n c := h21
  have k22 : tmps.getD 22 undef = .int .i64 (n : Int) := h22
  have k23 : tmps.getD 23 undef = .int .i64 (i : Int) := h23
  have h := frame_lit 35 tmps hs
  have h2 : ((List.range 35).map (fun i => tmps.getD i undef)).toArray = #[tmps.getD 0 undef, tmps.getD 1 undef, tmps.getD 2 undef, tmps.getD 3 undef, tmps.getD 4 undef, tmps.getD 5 undef, tmps.getD 6 undef, tmps.getD 7 undef, tmps.getD 8 undef, tmps.getD 9 undef, tmps.getD 10 undef, tmps.getD 11 undef, tmps.getD 12 undef, tmps.getD 13 undef, tmps.getD 14 undef, tmps.getD 15 undef, tmps.getD 16 undef, tmps.getD 17 undef, tmps.getD 18 undef, tmps.getD 19 undef, tmps.getD 20 undef, tmps.getD 21 undef, tmps.getD 22 undef, tmps.getD 23 undef, tmps.getD 24 undef, tmps.getD 25 undef, tmps.getD 26 undef, tmps.getD 27 undef, tmps.getD 28 undef, tmps.getD 29 undef, tmps.getD 30 undef, tmps.getD 31 undef, tmps.getD 32 undef, tmps.getD 33 undef, tmps.getD 34 undef] := rfl
  rw [h2] at h
  rw [k7, k8, k21, k22, k23] at h
  exact congrArg (fun t => Act.mk t _) h
/-- A match as it is told. -/
structure S30 where
  b : Int
  e : Int
  cs : List S65
def k30 : Kd S30 := Kd.iso (Kd.pair (Kd.int .i64) (Kd.pair (Kd.int .i64) (Kd.slice 65 k65))) (fun x : S30 => (x.b, x.e, x.cs))
theorem k30_open {w : World} {x : S30} {cs : List Value} (h : k30.K w x cs) : ∃ A1 c1, cs = [.int .i64 x.b, .int .i64 x.e, .slice A1 x.cs.length c1] ∧ x.cs.length ≤ c1 ∧ k65.C w A1 x.cs.length x.cs := by
  obtain ⟨_, _, rfl, rfl, ⟨_, _, rfl, rfl, ⟨A1, c1, rfl, l1, g1⟩⟩⟩ := h
  exact ⟨A1, c1, rfl, l1, g1⟩
theorem k30_mkM (w : World) (base : Nat) (ok : Nat → Prop) (x : S30) {v1 : Value} (g1 : k65.R 65 w base ok v1 x.cs) : k30.M w base ok x [.int .i64 x.b, .int .i64 x.e, v1] :=
  ⟨[.int .i64 x.b], [.int .i64 x.e, v1], rfl, rfl, ⟨[.int .i64 x.e], [v1], rfl, rfl, ⟨v1, rfl, g1⟩⟩⟩
theorem info30 : (Tryf.prog.info? 30).map (fun i => (i.zero, i.size, i.bytes)) = some (some (.agg #[.int .i64 0, .int .i64 0, .slice none 0 0]), 3, 40) := by kernel_rfl
def toF (f : Fnd) : S30 := ⟨(f.1 : Int), (f.2.1 : Int), f.2.2.map cap65⟩
/-- The matches told so far. -/
structure AlU (W wr : World) (v : Value) (fs : List S30) : Prop where
  b : Below W.heap.size W wr
  row : k30.R 30 wr W.heap.size (fun _ => True) v fs
section
variable {W wr w1 : World} {v : Value} {fs : List S30}
variable {ops : Array Oper} {o : Oper} {a : Act} {Q : Exit → Act → World → Prop} {rest : List Oper}
theorem AlU.below (h : AlU W wr v fs) (hb : Below wr.heap.size wr w1) : AlU W w1 v fs := ⟨h.b.trans (hb.mono h.b.size), Kd.R_below h.row hb⟩
theorem AlU.sl (h : AlU W wr v fs) : ∃ A c, v = .slice A fs.length c := Kd.R_slice h.row
theorem AlU.new (W : World) : AlU W (W.alloc (.cells #[] 30)) (.slice (some ⟨W.heap.size, 0, none⟩) 0 0) [] :=
  ⟨below_alloc (Below.refl _ _) _, ⟨fun k hk => trivial, _, World.ownsRow_lit (base := W.heap.size) (e := 30) (size := 3) W #[] 0 (Nat.le_refl _) (by decide) rfl, Reps.none _ _⟩⟩
theorem AlU.list (h : AlU W wr v fs) (hgd : o.guard = none) (s y : Operand) (ho : o.op = .call { callee := .builtin .append, args := #[s, y], argTypes := #[22, 22] })
    (hs : a.eval s = v) {x : S30} {v1 : Value} {N : Nat} (hb : Below wr.heap.size wr w1) (r1 : k65.R 65 w1 wr.heap.size (fun _ => True) v1 x.cs) (hy : a.eval y = .slice (some ⟨N, 0, none⟩) 1 1) (hN : w1.heap.size = N) (hl : fs.length ≤ 100000)
    (hK : ∀ A1 n1 c1 w2, AlU W w2 (.slice A1 n1 c1) (fs ++ [x]) → wpList Tryf.prog ops Q rest (a.put o.dst (.slice A1 n1 c1)) w2) :
    wpList Tryf.prog ops Q (o :: rest) a (w1.alloc (.cells #[.int .i64 x.b, .int .i64 x.e, v1] 30)) := by
  subst hN
  have h1 := h.below hb
  refine Kd.R_append (P := Tryf.prog) k30 (w0 := W) W.heap.size hgd s y 22 30 (.agg #[.int .i64 0, .int .i64 0, .slice none 0 0]) 40 ho Tryf.underlying22 info30 rfl (by decide) (by decide) v fs x [.int .i64 x.b, .int .i64 x.e, v1] (fun _ => True) (fun k => wr.heap.size ≤ k) hs hy
    (k30_mkM _ _ _ _ (Kd.R_mono (Kd.R_lower (Kd.R_bound r1) h.b.size) (fun k hk => hk.2.1))) (fun k hk => ⟨trivial, fun e => ?_⟩) (fun _ _ => trivial) h1.row h1.b h1.b.size (by omega) ?_
  · have := Kd.R_lt h.row k e.symm
    omega
  · intro v2 w2 hR hb2 hg _
    obtain ⟨A1, c1, rfl⟩ := Kd.R_slice hR
    exact hK _ _ _ _ ⟨hb2, hR⟩
end
/-- What a row of matches reads as, from a world on. -/
def RdL (w3 : World) (A : Option Addr) (c : Nat) (fs : List Fnd) : Prop :=
  ∀ wr, Below w3.heap.size w3 wr → ∀ (i : Nat) (f : Fnd), fs[i]? = some f → ∃ r A5 c5, A = some ⟨r, 0, none⟩ ∧ fs.length ≤ c ∧ wr.cell? ⟨r, i * 3, none⟩ = some (.int .i64 (f.1 : Int)) ∧ wr.cell? ⟨r, i * 3 + 1, none⟩ = some (.int .i64 (f.2.1 : Int)) ∧ wr.cell? ⟨r, i * 3 + 2, none⟩ = some (.slice A5 f.2.2.length c5) ∧ f.2.2.length ≤ c5 ∧ k74.C wr A5 f.2.2.length f.2.2
theorem StU.rdl {W w3 : World} {A : Option Addr} {n c : Nat} {fs : List Fnd} (h : StU W w3 (.slice A n c) fs) : RdL w3 A c fs := by
  intro wr hb i f hf
  have h1 := h.below hb
  obtain ⟨xs, r1, r2, r3⟩ := h1.ex
  have hlt : i < fs.length := (List.getElem?_eq_some_iff.1 hf).1
  have hx := List.getElem?_eq_getElem (show i < xs.length by omega)
  obtain ⟨A5, c5, e1, e2, e3, e4⟩ := r3 i _ f hx hf
  obtain ⟨r, c', hv, _, hrl, _⟩ := Kd.R_form r1 (by omega)
  injection hv with hv1 hv2 hv3
  subst hv1 hv3
  have hcap := (Kd.R_reads' r1).2.1
  obtain ⟨c1, _, ⟨hcs, _⟩, hcell, _⟩ := Kd.R_elem r1 ((0 : Int), (0 : Int), Value.nilIface) (i : Nat) (by omega) (by omega)
  have hg : xs.getD ((i : Nat) : Int).toNat ((0 : Int), (0 : Int), Value.nilIface) = xs[i] := by simp [List.getD_eq_getElem?_getD, show i < xs.length by omega]
  rw [hg, e1] at hcs
  subst hcs
  have h0 := hcell 0 _ rfl
  have h1 := hcell 1 _ rfl
  have h2 := hcell 2 _ rfl
  rw [show kRaw.sz = 3 from rfl] at h0 h1 h2
  simp only [Int.toNat_natCast, Nat.add_zero] at h0 h1 h2
  exact ⟨r, A5, c5, rfl, by omega, h0, h1, h2, e2, e3⟩
/-- What AllMatches hands back. -/
def AllE (W : World) (o : Option (List Fnd)) (e : Ending) (w' : World) : Prop :=
  Below W.heap.size W w' ∧ match o with
  | none => ∃ A n c, e = .returned (.tuple #[.slice A n c, .int .i64 2])
  | some fs => ∃ v W2, e = .returned (.tuple #[v, .int .i64 0]) ∧ AlU W2 w' v (fs.map toF)
theorem pAll_mem {s : List Int} {items : List S147} {Q : Fnd → Prop} (hq : ∀ k at_ l a e c, pFind s items false k at_ l = some (0, some (a, e, c)) → Q (a, e, c)) : ∀ (n frm : Nat) (out fs : List Fnd), pAll s items n frm out = some (some fs) → (∀ f ∈ out, Q f) → (∀ f ∈ fs, Q f) ∧ fs.length ≤ out.length + n := by
  intro n
  induction n with
  | zero => intro frm out fs h; simp [pAll] at h
  | succ n ih =>
    intro frm out fs h ho
    simp only [pAll] at h
    cases hp : pFind s items false (s.length + 2) frm 20000 with
    | none => rw [hp] at h; cases h
    | some o =>
      obtain ⟨c, r⟩ := o
      rw [hp] at h
      cases r with
      | none =>
        simp only at h
        split at h
        · obtain rfl := Option.some.inj (Option.some.inj h); exact ⟨ho, by omega⟩
        · cases h
      | some y =>
        obtain ⟨a, e, caps⟩ := y
        simp only at h
        have hc : c = 0 := by
          rcases pFind_code _ _ _ _ hp with (hz | hz) | ⟨x, hz⟩ <;> simp at hz
          exact hz.1
        subst hc
        split at h
        · cases h
        · have := ih _ _ _ h (fun f hf => by
            rcases List.mem_append.1 hf with hf | hf
            · exact ho f hf
            · rw [List.mem_singleton.1 hf]; exact hq _ _ _ _ _ _ hp)
          refine ⟨this.1, ?_⟩
          have h2 := this.2
          rw [List.length_append, List.length_singleton] at h2
          omega
theorem fAll_open {p s : ByteArray} {fs : List Fnd} (h : fAll p s = some fs) : ∃ items n, pRead (bytesOf p) = some (false, items, n) ∧ isB s = true ∧ pAll (bytesOf s) items (s.size + 2) 0 [] = some (some fs) := by
  unfold fAll at h
  cases hr : pRead (bytesOf p) with
  | none => rw [hr] at h; cases h
  | some y =>
    obtain ⟨anc, items, n⟩ := y
    rw [hr] at h
    simp only at h
    split at h
    · cases h
    · rename_i hc
      simp only [not_or, Bool.not_eq_false, Bool.not_eq_true] at hc
      obtain ⟨h1, h2⟩ := hc
      subst h2
      cases hp : pAll (bytesOf s) items (s.size + 2) 0 [] with
      | none => rw [hp] at h; cases h
      | some o => rw [hp, Option.getD_some] at h; subst h; exact ⟨items, n, rfl, h1, hp⟩
theorem fAll_ok {p s : ByteArray} {fs : List Fnd} (h : fAll p s = some fs) (hs : s.size ≤ 200) : (∀ f ∈ fs, f.2.2.length ≤ 9 ∧ ∀ x ∈ f.2.2, 0 ≤ x.f0 ∧ x.f0 ≤ 1000 ∧ -2000 ≤ x.f1 ∧ x.f1 ≤ 2000) ∧ fs.length ≤ 202 := by
  obtain ⟨items, n, hr, hB, hp⟩ := fAll_open h
  have := pAll_mem (Q := fun f => f.2.2.length ≤ 9 ∧ ∀ x ∈ f.2.2, 0 ≤ x.f0 ∧ x.f0 ≤ 1000 ∧ -2000 ≤ x.f1 ∧ x.f1 ≤ 2000) (fun k at_ l a e c hf => by
    obtain ⟨_, _, _, k4, _, k6⟩ := all_fit hr hB hs hf
    exact ⟨k4, k6⟩) _ _ _ _ hp (by simp)
  refine ⟨this.1, ?_⟩
  have := this.2
  simp only [List.length_nil] at this
  omega
section
variable {w : World} {p s : ByteArray}
set_option maxHeartbeats 40000000 in
set_option maxRecDepth 100000 in
theorem allMatches_calls : Calls Tryf.prog 8 #[.string p, .string s] w (AllE w (if 200 < s.size then none else fAll p s)) := by
  by_cases hs : 200 < s.size
  · rw [if_pos hs]
    have hsI : (200 : Int) < (s.size : Int) := by omega
    go_enter Tryf.func8, Tryf.ntmps8
    go_wp2_with fail
    go_ret2
    exact ⟨Below.refl _ _, none, 0, 0, rfl⟩
  rw [if_neg hs]
  have hsI : ¬ (200 : Int) < (s.size : Int) := by omega
  have HST := Aside0.mk (stMatches_calls (w := w) (p := p) (s := s) (by omega))
  have HOK := Aside0.mk (fun fs (h : fAll p s = some fs) => fAll_ok h (by omega))
  obtain ⟨o, ho⟩ : ∃ o, fAll p s = o := ⟨_, rfl⟩
  rw [ho] at HST HOK ⊢
  clear ho
  go_enter Tryf.func8, Tryf.ntmps8
  go_wp2_with fail
  refine HST.out.mono ?_
  rintro e w3 ⟨hb3, hE⟩
  have HB3 := Aside0.mk hb3
  clear HST hb3
  -- the list, in one form
  have hone : ∃ (fs : List Fnd) (AL : Option Addr) (cL : Nat) (cd : Int), e = .returned (.tuple #[.slice AL fs.length cL, .int .i64 cd]) ∧ RdL w3 AL cL fs ∧ ((∀ f ∈ fs, f.2.2.length ≤ 9 ∧ ∀ x ∈ f.2.2, 0 ≤ x.f0 ∧ x.f0 ≤ 1000 ∧ -2000 ≤ x.f1 ∧ x.f1 ≤ 2000) ∧ fs.length ≤ 202) ∧ ((o = none ∧ cd = 2) ∨ (o = some fs ∧ cd = 0)) := by
    cases o with
    | none => exact ⟨[], none, 0, 2, hE, fun _ _ i f hf => by simp at hf, ⟨by simp, by simp⟩, .inl ⟨rfl, rfl⟩⟩
    | some fs =>
      obtain ⟨v, W2, he, hst⟩ := hE
      obtain ⟨AL, cL, rfl⟩ := hst.sl
      exact ⟨fs, AL, cL, 0, he, hst.rdl, HOK.out fs rfl, .inr ⟨rfl, rfl⟩⟩
  obtain ⟨fs, AL, cL, cd, he, hrd, hok, hcd⟩ := hone
  subst he
  have HRD := Aside0.mk hrd
  have HOK2 := Aside0.mk hok
  have HCD := Aside0.mk hcd
  obtain ⟨nL, hnL⟩ : ∃ n, fs.length = n := ⟨_, rfl⟩
  have hn202 : nL ≤ 202 := by rw [← hnL]; exact hok.2
  rw [hnL]
  have HNL := Aside0.mk hnL
  clear hE hrd hok hcd HOK hnL
  go_wp2_with fail
  have HA0 := Aside0.mk (AlU.new w3)
  generalize w3.alloc (.cells #[] 30) = wx at *
  refine wp_loop_ghost_k (fun k a wr => ∃ (i : Nat) (v : Value), i + k = nL ∧ AtAll AL nL cL i cd v (fun wr => AlU w3 wr v ((fs.take i).map toF)) a wr) nL ⟨0, _, by omega, rfl, rfl, ⟨rfl, rfl, rfl, rfl, rfl⟩, HA0.out⟩ ?_
  clear HA0
  intro gk a wr hI J K hJ hK
  obtain ⟨i, v, hik, hI⟩ := hI
  obtain ⟨⟨u, rfl⟩, hal⟩ := hI.open_
  have HAL := Aside0.mk hal
  clear hI
  cases gk with
  | zero =>
    have hii : i = nL := by omega
    have hltI : ¬ ((i : Int) < (nL : Int)) := by omega
    have HII := Aside0.mk (show (fs.take i).map toF = fs.map toF by rw [hii, ← HNL.out, List.take_length])
    clear hal hii hik
    go_wp2_with fail
    go_ret2
    have h := HAL.out
    rw [HII.out] at h
    have hbb : Below w.heap.size w wr := HB3.out.trans (h.b.mono HB3.out.size)
    rcases HCD.out with ⟨ho, hc⟩ | ⟨ho, hc⟩
    · rw [ho, hc]
      obtain ⟨A, c, rfl⟩ := h.sl
      exact ⟨hbb, A, _, c, rfl⟩
    · rw [ho, hc]
      exact ⟨hbb, v, w3, rfl, h⟩
  | succ gk =>
    have hlt : i < nL := by omega
    have hltI : (i : Int) < (nL : Int) := by omega
    have hlf : i < fs.length := by rw [HNL.out]; exact hlt
    obtain ⟨r, A5, c5, hA, hcap, v0, v1, v2, hle5, hC5⟩ := HRD.out wr hal.b i fs[i] (List.getElem?_eq_getElem hlf)
    subst hA
    have htk : (fs.take (i + 1)).map toF = (fs.take i).map toF ++ [toF fs[i]] := by rw [List.take_succ_eq_append_getElem hlf, List.map_append]; rfl
    obtain ⟨k1, k2⟩ := HOK2.out.1 fs[i] (List.getElem_mem hlf)
    generalize fs[i] = f at *
    obtain ⟨a, en, caps⟩ := f
    dsimp only at v0 v1 v2 hle5 hC5 k1 k2
    have HTK := Aside0.mk htk
    have q1 : IntKind.i64.wrap ((i : Int) + 1) = (i : Int) + 1 := IntWalk.i64_in _ (by omega)
    have HX6 := Aside0.mk (below_alloc (Below.refl wr.heap.size wr) (.cells #[.int .i64 (a : Int), .int .i64 (en : Int), .slice A5 caps.length c5] 53))
    have hfo := found_calls (w := wr.alloc (.cells #[.int .i64 (a : Int), .int .i64 (en : Int), .slice A5 caps.length c5] 53)) (at_ := a) (en := en) (Kd.C_below hC5 (below_alloc (Below.refl wr.heap.size wr) _)) hle5 (by omega) k2
    have HFO := Aside0.mk hfo
    obtain ⟨vA, vc, hv⟩ := HAL.out.sl
    have HLEN := Aside0.mk (show ((fs.take i).map toF).length ≤ 100000 by rw [List.length_map, List.length_take, HNL.out]; omega)
    generalize ((fs.take i).map toF).length = vl at hv
    subst hv
    clear hal htk hfo hC5 k2
    go_wp2_with fail
    refine HFO.out.mono ?_
    rintro e7 w7 ⟨A7, c7, he7, hb7, hR7⟩
    subst he7
    have hb := HX6.out.trans (hb7.mono HX6.out.size)
    have HB7 := Aside0.mk hb
    have HR7 := Aside0.mk (Kd.R_lower hR7 HX6.out.size)
    clear hb7 hR7 hb HFO HX6 v0 v1 v2
    go_wp2_with (at_builtin; refine AlU.list (HAL.out) rfl (.tmp 27) (.tmp 30) rfl rfl (x := toF (a, en, caps)) (HB7.out) (HR7.out) rfl (by rfl) HLEN.out ?_; intro A8 n8 c8 w8 hS8; have HS8 := Aside0.mk hS8; clear hS8)
    exact Handed.intro gk (by omega) (hJ _ _ _ ⟨i + 1, _, by omega, rfl, rfl, ⟨rfl, rfl, rfl, rfl, congrArg (Value.int .i64) (Int.natCast_succ i).symm⟩, by rw [HTK.out]; exact HS8.out⟩)
end
end Go.Proofs.YtpjfjfloeejgiaaFmt.Lw
/- All matches: what the package finds is what the reference tells. -/
set_option linter.unusedVariables false
set_option linter.unusedSimpArgs false
namespace Go.Proofs.YtpjfjfloeejgiaaFmt.Lw
open Go.RowKit Go.Proofs.YtpjfjfloeejgiaaFmtW.PrintWords Go.Proofs.YtpjfjfloeejgiaaFmt.Scan Go.Proofs.YtpjfjfloeejgiaaFmt.Ins Go.Proofs.YtpjfjfloeejgiaaFmt.Rf Go.Proofs.YtpjfjfloeejgiaaFmt.Vm Go.Proofs.YtpjfjfloeejgiaaFmt.Pat Go.Proofs.YtpjfjfloeejgiaaFmt.Fnd Go.Proofs.YtpjfjfloeejgiaaFmt.Mtc Go.Proofs.YtpjfjfloeejgiaaFmt.PFnPatternFirst
section
variable {s t : List Int} {e : Bool} {items its : List S147} {n : Nat} {ps : List Pat}
theorem finds_run (hby : ∀ x ∈ s, 0 ≤ x ∧ x ≤ 127) (hs : s.length ≤ 200) (hM : Made t false items n ps its e) : ∀ (k at_ : Nat) (r : Option (Nat × Nat × List S74)), dFind s items false k at_ = some r → at_ ≤ s.length + 1 →
    ∃ K0, (r = none → ∀ K, K0 ≤ K → ∀ (N : Nat) (acc : List (List Int)) (limit : Int), s.length + 2 ≤ N + at_ → (acc.length : Int) ≠ limit → finds s (fin true e (.op 5 0 (-1) :: (codes ps 1 2).1)) false limit K N at_ acc = some acc) ∧
      ∀ a en c, r = some (a, en, c) → ∃ cs, Fit s cs a en c ∧ ∀ K, K0 ≤ K → ∀ (N : Nat) (acc : List (List Int)) (limit : Int), s.length + 2 ≤ N + at_ → (acc.length : Int) ≠ limit →
        ∃ N', N' + a + 1 = N + at_ ∧ finds s (fin true e (.op 5 0 (-1) :: (codes ps 1 2).1)) false limit K N at_ acc = if ((acc ++ [cs]).length : Int) = limit then some (acc ++ [cs]) else finds s (fin true e (.op 5 0 (-1) :: (codes ps 1 2).1)) false limit K N' (nextSp (some en) a) (acc ++ [cs]) := by
  intro k
  induction k with
  | zero => intro at_ r h; simp [dFind] at h
  | succ k ih =>
    intro at_ r h hat
    simp only [dFind] at h
    by_cases hle : at_ ≤ s.length
    · rw [if_pos hle] at h
      cases hd : den s items at_ [] with
      | none => rw [hd] at h; cases h
      | some r0 =>
        rw [hd] at h
        obtain ⟨cs', ⟨K1, hK1⟩, hfit⟩ := top_den hby hs hM hle hd
        cases r0 with
        | some z =>
          obtain ⟨en, c⟩ := z
          simp only at h
          obtain rfl := Option.some.inj h
          refine ⟨K1, fun hq => (by cases hq), fun a en2 c2 hq => ?_⟩
          simp only [Option.some.injEq, Prod.mk.injEq] at hq
          obtain ⟨rfl, rfl, rfl⟩ := hq
          refine ⟨cs', hfit _ _ rfl, fun K hK N acc limit hN hl => ?_⟩
          obtain ⟨N, rfl⟩ : ∃ m, N = m + 1 := ⟨N - 1, by omega⟩
          refine ⟨N, by omega, ?_⟩
          simp only [finds]
          rw [if_pos hle, hK1 K hK]
          simp [nextMs]
        | none =>
          simp only at h
          rw [if_neg (by simp)] at h
          obtain ⟨K2, h1, h2⟩ := ih _ _ h (by omega)
          have step : ∀ K, K1 + K2 ≤ K → ∀ (N : Nat) (acc : List (List Int)) (limit : Int), (acc.length : Int) ≠ limit → finds s (fin true e (.op 5 0 (-1) :: (codes ps 1 2).1)) false limit K (N + 1) at_ acc = finds s (fin true e (.op 5 0 (-1) :: (codes ps 1 2).1)) false limit K N (at_ + 1) acc := by
            intro K hK N acc limit hl
            simp only [finds]
            rw [if_pos hle, hK1 K (by omega)]
            show (if ((acc.length : Int) = limit ∨ false = true) then some acc else finds s _ false limit K N (at_ + 1) acc) = _
            rw [if_neg (by simp [hl])]
          refine ⟨K1 + K2, fun hq K hK N acc limit hN hl => ?_, fun a en c hq => ?_⟩
          · obtain ⟨N, rfl⟩ : ∃ m, N = m + 1 := ⟨N - 1, by omega⟩
            rw [step K hK N acc limit hl]
            exact h1 hq K (by omega) N acc limit (by omega) hl
          · obtain ⟨cs, hf, h3⟩ := h2 a en c hq
            refine ⟨cs, hf, fun K hK N acc limit hN hl => ?_⟩
            obtain ⟨N, rfl⟩ : ∃ m, N = m + 1 := ⟨N - 1, by omega⟩
            obtain ⟨N', e1, e2⟩ := h3 K (by omega) N acc limit (by omega) hl
            exact ⟨N', by omega, by rw [step K hK N acc limit hl, e2]⟩
    · rw [if_neg hle] at h
      obtain rfl := Option.some.inj h
      refine ⟨0, fun _ K hK N acc limit hN hl => ?_, fun a en c hq => (by cases hq)⟩
      obtain ⟨N, rfl⟩ : ∃ m, N = m + 1 := ⟨N - 1, by omega⟩
      simp only [finds]
      rw [if_neg hle]
theorem finds_all (hby : ∀ x ∈ s, 0 ≤ x ∧ x ≤ 127) (hs : s.length ≤ 200) (hM : Made t false items n ps its e)
    (hfit : ∀ k at_ l a en c, pFind s items false k at_ l = some (0, some (a, en, c)) → at_ ≤ a ∧ a ≤ en ∧ en ≤ s.length) : ∀ (k frm : Nat) (out fs : List Fnd), pAll s items k frm out = some (some fs) → frm ≤ s.length →
    ∃ (new : List Fnd) (css : List (List Int)), fs = out ++ new ∧ css.length = new.length ∧ (∀ (i : Nat) cs f, css[i]? = some cs → new[i]? = some f → Fit s cs f.1 f.2.1 f.2.2) ∧
      ∃ K0, ∀ K, K0 ≤ K → ∀ (N : Nat) (acc : List (List Int)), s.length + 2 ≤ N + frm →
        (∀ limit : Int, limit < 0 → finds s (fin true e (.op 5 0 (-1) :: (codes ps 1 2).1)) false limit K N frm acc = some (acc ++ css)) ∧
        (∀ L : Nat, acc.length < L → finds s (fin true e (.op 5 0 (-1) :: (codes ps 1 2).1)) false (L : Int) K N frm acc = some (acc ++ css.take (L - acc.length))) := by
  intro k
  induction k with
  | zero => intro frm out fs h; simp [pAll] at h
  | succ k ih =>
    intro frm out fs h hfr
    simp only [pAll] at h
    cases hp : pFind s items false (s.length + 2) frm 20000 with
    | none => rw [hp] at h; cases h
    | some o =>
      obtain ⟨c, r⟩ := o
      rw [hp] at h
      cases r with
      | none =>
        simp only at h
        split at h
        · rename_i hc
          subst hc
          obtain rfl := Option.some.inj (Option.some.inj h)
          rcases pFind_d _ _ _ _ hp with h3 | ⟨x, h3, _⟩ | ⟨_, h4⟩
          · cases h3
          · cases h3
          · obtain ⟨K0, h1, _⟩ := finds_run hby hs hM _ _ _ h4 (by omega)
            refine ⟨[], [], by simp, rfl, fun i cs f hc => by simp at hc, K0, fun K hK N acc hN => ⟨fun limit hl => ?_, fun L hL => ?_⟩⟩
            · rw [h1 rfl K hK N acc limit hN (by omega)]; simp
            · rw [h1 rfl K hK N acc L hN (by omega)]; simp
        · cases h
      | some y =>
        obtain ⟨a, en, caps⟩ := y
        simp only at h
        split at h
        · cases h
        · rename_i hne
          have hc : c = 0 := by
            rcases pFind_code _ _ _ _ hp with (hz | hz) | ⟨x, hz⟩ <;> simp at hz
            exact hz.1
          subst hc
          obtain ⟨f1, f2, f3⟩ := hfit _ _ _ _ _ _ hp
          rcases pFind_d _ _ _ _ hp with h3 | ⟨x, h3, h4⟩ | ⟨h3, _⟩
          · cases h3
          · simp only [Prod.mk.injEq, Option.some.injEq, true_and] at h3
            subst h3
            obtain ⟨K1, _, h5⟩ := finds_run hby hs hM _ _ _ h4 (by omega)
            obtain ⟨cs, hfc, h6⟩ := h5 a en caps rfl
            obtain ⟨new, css, g1, g2, g3, K2, g4⟩ := ih en _ fs h f3
            have hnx : nextSp (some en) a = en := by
              unfold nextSp
              simp only
              split <;> omega
            refine ⟨(a, en, caps) :: new, cs :: css, by rw [g1]; simp, by simp [g2], ?_, K1 + K2, fun K hK N acc hN => ⟨fun limit hl => ?_, fun L hL => ?_⟩⟩
            · intro i cs' f hc hf
              cases i with
              | zero =>
                simp only [List.getElem?_cons_zero, Option.some.injEq] at hc hf
                subst hc hf
                exact hfc
              | succ i =>
                simp only [List.getElem?_cons_succ] at hc hf
                exact g3 i cs' f hc hf
            · obtain ⟨N', e1, e2⟩ := h6 K (by omega) N acc limit hN (by omega)
              rw [e2, if_neg (by simp; omega), hnx, (g4 K (by omega) N' (acc ++ [cs]) (by omega)).1 limit hl]
              simp
            · obtain ⟨N', e1, e2⟩ := h6 K (by omega) N acc L hN (by omega)
              rw [e2, hnx]
              by_cases hq : acc.length + 1 = L
              · rw [if_pos (by simp; omega), show L - acc.length = 1 by omega]
                simp
              · rw [if_neg (by simp; omega), (g4 K (by omega) N' (acc ++ [cs]) (by omega)).2 L (by simp; omega)]
                rw [List.length_append, List.length_singleton, show L - acc.length = (L - (acc.length + 1)) + 1 by omega, List.take_succ_cons]
                simp
          · cases h3
end
/-- The package's matches, all of them and the first ones, where the reference tells them. -/
theorem all_matC {p s : ByteArray} {fs : List Fnd} (h : fAll p s = some fs) (hs : s.size ≤ 200) :
    ∃ ms : List S37, ms.length = fs.length ∧ (∀ (i : Nat) m f, ms[i]? = some m → fs[i]? = some f → Due m f.1 f.2.1 (f.2.2.map cap65)) ∧ MatC p s 0 (-1) ms ∧ ∀ L : Nat, 1 ≤ L → MatC p s 0 L (ms.take L) := by
  obtain ⟨items, n, hr, hB, hp⟩ := fAll_open h
  have hlen := (fAll_ok h hs).2
  obtain ⟨ps, its, e, hM⟩ := read_made (fun x hx => (bytes_nonneg p x hx).1) hr
  have hsl : (bytesOf s).length ≤ 200 := by rw [bytesOf_length]; exact hs
  obtain ⟨new, css, g1, g2, g3, K0, g4⟩ := finds_all (isB_low hB) hsl hM (fun k at_ l a en c hf => by
    obtain ⟨k1, k2, k3, _⟩ := all_fit hr hB hs hf
    rw [bytesOf_length]
    exact ⟨k1, k2, k3⟩) _ _ _ _ hp (Nat.zero_le _)
  rw [List.nil_append] at g1
  subst g1
  have hpl : p.size ≤ 40 := by rw [← bytesOf_length p]; exact hM.len
  obtain ⟨c', htop⟩ := hM.top
  have hcl := hM.seg.all.2
  have hfew := hM.few
  have hnine := hM.nine
  have hok : ∀ cs ∈ css, MtOk cs := by
    intro cs hcs
    obtain ⟨i, hi, rfl⟩ := List.getElem_of_mem hcs
    exact (g3 i _ _ (List.getElem?_eq_getElem hi) (List.getElem?_eq_getElem (by omega : i < fs.length))).few hsl
  have run : ∀ (limit : Int) (res : List (List Int)), finds (bytesOf s) (fin true e (.op 5 0 (-1) :: (codes ps 1 2).1)) false limit K0 (s.size + 2) 0 [] = some res → (∀ cs ∈ res, MtOk cs) → res.length ≤ 100000 → MatC p s 0 limit (res.map toM) := by
    intro limit res hf hres hl w
    refine matches_any (res := res) (fun W A c1 hS hc1 => ?_) (by omega) hres hl
    refine find_any (K := K0) (n := s.size + 2) hS hc1 htop (by omega) (ptop_ok htop) (by omega) (by rw [hM.next]; omega) hM.ins (Nat.zero_le _) ?_
    rw [← hM.anc]
    exact hf
  obtain ⟨h1, h2⟩ := g4 K0 (Nat.le_refl _) (s.size + 2) [] (by rw [bytesOf_length]; omega)
  refine ⟨css.map toM, by simp [g2], ?_, ?_, ?_⟩
  · intro i m f hm hf
    rw [List.getElem?_map] at hm
    obtain ⟨cs, hcs, rfl⟩ := Option.map_eq_some_iff.1 hm
    exact (g3 i cs f hcs hf).due hsl
  · exact run (-1) css (by rw [h1 (-1) (by omega)]; simp) hok (by omega)
  · intro L hL
    rw [← List.map_take]
    have h3 := h2 L (by simp; omega)
    simp only [List.length_nil, Nat.sub_zero, List.nil_append] at h3
    exact run L _ h3 (fun cs hcs => hok cs (List.mem_of_mem_take hcs)) (by rw [List.length_take]; omega)
end Go.Proofs.YtpjfjfloeejgiaaFmt.Lw
/- The law FnPatternAll: the walk. -/
set_option linter.unusedVariables false
set_option linter.unusedSimpArgs false
namespace Go.Proofs.YtpjfjfloeejgiaaFmt.Lw
open Go.RowKit Go.Proofs.YtpjfjfloeejgiaaFmtW.PrintWords Go.Proofs.YtpjfjfloeejgiaaFmt.Rf Go.Proofs.YtpjfjfloeejgiaaFmt.Vm Go.Proofs.YtpjfjfloeejgiaaFmt.Mtc Go.Proofs.YtpjfjfloeejgiaaFmt.PFnPatternFirst
/-- What a row of the package's matches reads as, from a world on. -/
def RdM (w3 : World) (A : Option Addr) (c : Nat) (ms : List S37) : Prop :=
  ms.length ≤ c ∧ ∀ wr, Below w3.heap.size w3 wr → ∀ (i : Nat) (m : S37), ms[i]? = some m → ∃ r A1 c1 A2 c2, A = some ⟨r, 0, none⟩ ∧ wr.cell? ⟨r, i * 4, none⟩ = some (.int .i64 m.b) ∧ wr.cell? ⟨r, i * 4 + 1, none⟩ = some (.int .i64 m.e) ∧
    wr.cell? ⟨r, i * 4 + 2, none⟩ = some (.slice A1 m.cs.length c1) ∧ wr.cell? ⟨r, i * 4 + 3, none⟩ = some (.slice A2 m.ps.length c2) ∧ k33.C wr A1 m.cs.length m.cs ∧ Kd.bool.C wr A2 m.ps.length m.ps
theorem OutU.rdm {W w3 : World} {A : Option Addr} {n c : Nat} {ms : List S37} (h : OutU W w3 (.slice A n c) ms) : RdM w3 A c ms := by
  refine ⟨?_, ?_⟩
  · obtain ⟨A', c', hv⟩ := h.sl
    injection hv with h1 h2 h3
    have := (Kd.R_reads' (show k37.R 37 w3 W.heap.size (fun _ => True) (.slice A ms.length c) ms from by have := h.row; rwa [h2] at this)).2.1
    exact this
  · intro wr hb i m hm
    have h1 := (h.below hb).row
    have hlt : i < ms.length := (List.getElem?_eq_some_iff.1 hm).1
    obtain ⟨r, c', hv, _, hrl, _⟩ := Kd.R_form h1 (by omega)
    injection hv with hv1 hv2 hv3
    subst hv1 hv3
    obtain ⟨cs, _, hM, hcell, _⟩ := Kd.R_elem h1 (⟨0, 0, [], []⟩ : S37) (i : Nat) (by omega) (by omega)
    have hg : ms.getD ((i : Nat) : Int).toNat (⟨0, 0, [], []⟩ : S37) = m := by
      rw [Int.toNat_natCast, List.getD_eq_getElem?_getD, hm, Option.getD_some]
    rw [hg] at hM
    obtain ⟨A1, c1, A2, c2, rfl, ⟨_, g1⟩, ⟨_, g2⟩⟩ := k37_open (k37.K_of_M hM)
    have h0 := hcell 0 _ rfl
    have h1 := hcell 1 _ rfl
    have h2 := hcell 2 _ rfl
    have h3 := hcell 3 _ rfl
    rw [show k37.sz = 4 from rfl] at h0 h1 h2 h3
    simp only [Int.toNat_natCast, Nat.add_zero] at h0 h1 h2 h3
    exact ⟨r, A1, c1, A2, c2, rfl, h0, h1, h2, h3, g1, g2⟩
/-- What a row of the reference's matches reads as, from a world on. -/
def RdF (w3 : World) (A : Option Addr) (c : Nat) (fs : List S30) : Prop :=
  fs.length ≤ c ∧ ∀ wr, Below w3.heap.size w3 wr → ∀ (i : Nat) (f : S30), fs[i]? = some f → ∃ r A1 c1, A = some ⟨r, 0, none⟩ ∧ wr.cell? ⟨r, i * 3, none⟩ = some (.int .i64 f.b) ∧ wr.cell? ⟨r, i * 3 + 1, none⟩ = some (.int .i64 f.e) ∧
    wr.cell? ⟨r, i * 3 + 2, none⟩ = some (.slice A1 f.cs.length c1) ∧ k65.C wr A1 f.cs.length f.cs
theorem AlU.rdf {W w3 : World} {A : Option Addr} {n c : Nat} {fs : List S30} (h : AlU W w3 (.slice A n c) fs) : RdF w3 A c fs := by
  refine ⟨?_, ?_⟩
  · obtain ⟨A', c', hv⟩ := h.sl
    injection hv with h1 h2 h3
    have := (Kd.R_reads' (show k30.R 30 w3 W.heap.size (fun _ => True) (.slice A fs.length c) fs from by have := h.row; rwa [h2] at this)).2.1
    exact this
  · intro wr hb i m hm
    have h1 := (h.below hb).row
    have hlt : i < fs.length := (List.getElem?_eq_some_iff.1 hm).1
    obtain ⟨r, c', hv, _, hrl, _⟩ := Kd.R_form h1 (by omega)
    injection hv with hv1 hv2 hv3
    subst hv1 hv3
    obtain ⟨cs, _, hM, hcell, _⟩ := Kd.R_elem h1 (⟨0, 0, []⟩ : S30) (i : Nat) (by omega) (by omega)
    have hg : fs.getD ((i : Nat) : Int).toNat (⟨0, 0, []⟩ : S30) = m := by
      rw [Int.toNat_natCast, List.getD_eq_getElem?_getD, hm, Option.getD_some]
    rw [hg] at hM
    obtain ⟨A1, c1, rfl, _, g1⟩ := k30_open (k30.K_of_M hM)
    have h0 := hcell 0 _ rfl
    have h1 := hcell 1 _ rfl
    have h2 := hcell 2 _ rfl
    rw [show k30.sz = 3 from rfl] at h0 h1 h2
    simp only [Int.toNat_natCast, Nat.add_zero] at h0 h1 h2
    exact ⟨r, A1, c1, rfl, h0, h1, h2, g1⟩
/-- At the head of FnPatternAll's loop. -/
def AtLa (AD AA AS : Option Addr) (nF cD cA nS cS i : Nat) (R : World → Prop) (a : Act) (w : World) : Prop :=
  a.tmps.size = 104 ∧ a.defers = [] ∧ (a.tmps.getD 9 undef = .slice AA nF cA ∧ a.tmps.getD 11 undef = .slice AS nS cS ∧ a.tmps.getD 74 undef = .slice AD nF cD ∧ a.tmps.getD 75 undef = .int .i64 (nF : Int) ∧ a.tmps.getD 76 undef = .int .i64 (i : Int)) ∧ R w
set_option maxRecDepth 100000 in
theorem AtLa.open_ {AD AA AS : Option Addr} {nF cD cA nS cS i : Nat} {R : World → Prop} {a : Act} {w : World} (h : AtLa AD AA AS nF cD cA nS cS i R a w) : (∃ u : Nat → Value, a = ⟨#[u 0, u 1, u 2, u 3, u 4, u 5, u 6, u 7, u 8, .slice AA nF cA, u 10, .slice AS nS cS, u 12, u 13, u 14, u 15, u 16, u 17, u 18, u 19, u 20, u 21, u 22, u 23, u 24, u 25, u 26, u 27, u 28, u 29, u 30, u 31, u 32, u 33, u 34, u 35, u 36, u 37, u 38, u 39, u 40, u 41, u 42, u 43, u 44, u 45, u 46, u 47, u 48, u 49, u 50, u 51, u 52, u 53, u 54, u 55, u 56, u 57, u 58, u 59, u 60, u 61, u 62, u 63, u 64, u 65, u 66, u 67, u 68, u 69, u 70, u 71, u 72, u 73, .slice AD nF cD, .int .i64 (nF : Int), .int .i64 (i : Int), u 77, u 78, u 79, u 80, u 81, u 82, u 83, u 84, u 85, u 86, u 87, u 88, u 89, u 90, u 91, u 92, u 93, u 94, u 95, u 96, u 97, u 98, u 99, u 100, u 101, u 102, u 103], []⟩) ∧ R w := by
  obtain ⟨tmps, defers⟩ := a
  obtain ⟨hs, hd, ⟨h9, h11, h74, h75, h76⟩, hR⟩ := h
  refine ⟨⟨fun i => tmps.getD i undef, ?_⟩, hR⟩
  have hd' : defers = [] := hd
  subst hd'
  have k9 : tmps.getD 9 undef = .slice AA nF cA := h9
  have k11 : tmps.getD 11 undef = .slice AS nS cS := h11
  have k74 : tmps.getD 74 undef = .slice AD nF cD := h74
  have k75 : tmps.getD 75 undef = .int .i64 (nF : Int) := h75
  have k76 : tmps.getD 76 undef = .int .i64 (i : Int) := h76
  have h := frame_lit 104 tmps hs
  have h2 : ((List.range 104).map (fun i => tmps.getD i undef)).toArray = #[tmps.getD 0 undef, tmps.getD 1 undef, tmps.getD 2 undef, tmps.getD 3 undef, tmps.getD 4 undef, tmps.getD 5 undef, tmps.getD 6 undef, tmps.getD 7 undef, tmps.getD 8 undef, tmps.getD 9 undef, tmps.getD 10 undef, tmps.getD 11 undef, tmps.getD 12 undef, tmps.getD 13 undef, tmps.getD 14 undef, tmps.getD 15 undef, tmps.getD 16 undef, tmps.getD 17 undef, tmps.getD 18 undef, tmps.getD 19 undef, tmps.getD 20 undef, tmps.getD 21 undef, tmps.getD 22 undef, tmps.getD 23 undef, tmps.getD 24 undef, tmps.getD 25 undef, tmps.getD 26 undef, tmps.getD 27 undef, tmps.getD 28 undef, tmps.getD 29 undef, tmps.getD 30 undef, tmps.getD 31 undef, tmps.getD 32 undef, tmps.getD 33 undef, tmps.getD 34 undef, tmps.getD 35 undef, tmps.getD 36 undef, tmps.getD 37 undef, tmps.getD 38 undef, tmps.getD 39 undef, tmps.getD 40 undef, tmps.getD 41 undef, tmps.getD 42 undef, tmps.getD 43 undef, tmps.getD 44 undef, tmps.getD 45 undef, tmps.getD 46 undef, tmps.getD 47 undef, tmps.getD 48 undef, tmps.getD 49 undef, tmps.getD 50 undef, tmps.getD 51 undef, tmps.getD 52 undef, tmps.getD 53 undef, tmps.getD 54 undef, tmps.getD 55 undef, tmps.getD 56 undef, tmps.getD 57 undef, tmps.getD 58 undef, tmps.getD 59 undef, tmps.getD 60 undef, tmps.getD 61 undef, tmps.getD 62 undef, tmps.getD 63 undef, tmps.getD 64 undef, tmps.getD 65 undef, tmps.getD 66 undef, tmps.getD 67 undef, tmps.getD 68 undef, tmps.getD 69 undef, tmps.getD 70 undef, tmps.getD 71 undef, tmps.getD 72 undef, tmps.getD 73 undef, tmps.getD 74 undef, tmps.getD 75 undef, tmps.getD 76 undef, tmps.getD 77 undef, tmps.getD 78 undef, tmps.getD 79 undef, tmps.getD 80 undef, tmps.getD 81 undef, tmps.getD 82 undef, tmps.getD 83 undef, tmps.getD 84 undef, tmps.getD 85 undef, tmps.getD 86 undef, tmps.getD 87 undef, tmps.getD 88 undef, tmps.getD 89 undef, tmps.getD 90 undef, tmps.getD 91 undef, tmps.getD 92 undef, tmps.getD 93 undef, tmps.getD 94 undef, tmps.getD 95 undef, tmps.getD 96 undef, tmps.getD 97 undef, tmps.getD 98 undef, tmps.getD 99 undef, tmps.getD 100 undef, tmps.getD 101 undef, tmps.getD 102 undef, tmps.getD 103 undef] := rfl
  rw [h2] at h
  rw [k9, k11, k74, k75, k76] at h
  exact congrArg (fun t => Act.mk t _) h
section
variable {w : World} {p s : ByteArray} {limit : Int}
set_option maxHeartbeats 40000000 in
set_option maxRecDepth 100000 in
theorem law_all : Calls Tryf.prog 3 #[.string p, .string s, .int .i64 limit] w fun e w' => e = .returned (.bool true) ∧ Below w.heap.size w w' := by
  by_cases hp : 2147483647 < p.size
  · have hpI : (2147483647 : Int) < (p.size : Int) := by omega
    go_enter Tryf.func3, Tryf.ntmps3
    go_wp2_with fail
    go_ret
    exact ⟨rfl, Below.refl _ _⟩
  have hpI : ¬ (2147483647 : Int) < (p.size : Int) := by omega
  by_cases hs : 2147483647 < s.size
  · have hsI : (2147483647 : Int) < (s.size : Int) := by omega
    go_enter Tryf.func3, Tryf.ntmps3
    go_wp2_with fail
    go_ret
    exact ⟨rfl, Below.refl _ _⟩
  have hsI : ¬ (2147483647 : Int) < (s.size : Int) := by omega
  have HA := Aside0.mk (allMatches_calls (w := w) (p := p) (s := s))
  obtain ⟨o, ho⟩ : ∃ o, (if 200 < s.size then none else fAll p s) = o := ⟨_, rfl⟩
  rw [ho] at HA
  have HO := Aside0.mk ho
  clear ho
  go_enter Tryf.func3, Tryf.ntmps3
  go_wp2_with fail
  refine HA.out.mono ?_
  rintro e w1 ⟨hb1, hE⟩
  have HB1 := Aside0.mk hb1
  clear HA hb1
  cases o with
  | none =>
    obtain ⟨A, n, c, he⟩ := hE
    subst he
    clear HO
    go_wp2_with fail
    go_ret
    exact ⟨rfl, HB1.out⟩
  | some fs =>
  obtain ⟨v, W2, he, hal⟩ := hE
  subst he
  have ho := HO.out
  have h200 : s.size ≤ 200 := by
    rcases Nat.lt_or_ge 200 s.size with h | h
    · rw [if_pos h] at ho; cases ho
    · exact h
  rw [if_neg (by omega)] at ho
  have hfew := (fAll_ok ho h200)
  obtain ⟨ms, m1, m2, m3, m4⟩ := all_matC ho h200
  obtain ⟨AD, cD, hv⟩ := hal.sl
  subst hv
  rw [List.length_map]
  have HRF := Aside0.mk hal.rdf
  have HM2 := Aside0.mk m2
  have HM3 := Aside0.mk (m3 w1)
  have HM4 := Aside0.mk m4
  have HFEW := Aside0.mk hfew.1
  have HFL := Aside0.mk (show fs.length ≤ 202 from hfew.2)
  have HML := Aside0.mk m1
  obtain ⟨nF, hnF⟩ : ∃ n, fs.length = n := ⟨_, rfl⟩
  have hnF2 : nF ≤ 202 := by rw [← hnF]; exact hfew.2
  have HNF := Aside0.mk hnF
  rw [hnF]
  clear hal m1 m2 m3 m4 ho HO hfew hnF
  by_cases hl1 : limit < 1
  · clear HRF HM2 HM3 HM4 HFEW HFL HML HNF
    go_wp2_with fail
    go_ret
    exact ⟨rfl, HB1.out⟩
  by_cases hl2 : 200 < limit
  · clear HRF HM2 HM3 HM4 HFEW HFL HML HNF
    go_wp2_with fail
    go_ret
    exact ⟨rfl, HB1.out⟩
  obtain ⟨L, hL⟩ : ∃ L : Nat, limit = L := ⟨limit.toNat, by omega⟩
  subst hL
  go_wp2_with fail
  refine HM3.out.mono ?_
  rintro e w3 ⟨vA, he, hoA⟩
  subst he
  obtain ⟨AA, cA, hv⟩ := hoA.sl
  subst hv
  have hb3 : Below w1.heap.size w1 w3 := hoA.b
  have HRA := Aside0.mk (OutU.rdm hoA)
  have HRF3 := Aside0.mk (show RdF w3 AD cD (fs.map toF) from ⟨HRF.out.1, fun wr hb => HRF.out.2 wr (hb3.trans (hb.mono hb3.size))⟩)
  have HB3 := Aside0.mk (HB1.out.trans (hb3.mono HB1.out.size))
  have HM4b := Aside0.mk (HM4.out L (by omega) w3)
  rw [HML.out, HNF.out]
  clear hoA hb3 HM3 HM4 HRF HB1
  go_wp2_with fail
  refine HM4b.out.mono ?_
  rintro e w4 ⟨vS, he, hoS⟩
  subst he
  obtain ⟨AS, cS, hv⟩ := hoS.sl
  subst hv
  have hb4 : Below w3.heap.size w3 w4 := hoS.b
  have HRS := Aside0.mk (OutU.rdm hoS)
  have HRA4 := Aside0.mk (show RdM w4 AA cA ms from ⟨HRA.out.1, fun wr hb => HRA.out.2 wr (hb4.trans (hb.mono hb4.size))⟩)
  have HRF4 := Aside0.mk (show RdF w4 AD cD (fs.map toF) from ⟨HRF3.out.1, fun wr hb => HRF3.out.2 wr (hb4.trans (hb.mono hb4.size))⟩)
  have HB4 := Aside0.mk (HB3.out.trans (hb4.mono HB3.out.size))
  obtain ⟨nS, hnS⟩ : ∃ n, (ms.take L).length = n := ⟨_, rfl⟩
  have hnS2 : nS = min L nF := by rw [← hnS, List.length_take, HML.out, HNF.out]
  rw [hnS]
  have HNS := Aside0.mk hnS
  clear hoS hb4 HRA HRF3 HB3 HM4b hnS
  have hmin : ((L : Int) < (nF : Int) ∧ ¬ (nF : Int) < (L : Int) ∧ nS = L) ∨ ((L : Int) = (nF : Int) ∧ nS = nF) ∨ (¬ (L : Int) < (nF : Int) ∧ (nF : Int) < (L : Int) ∧ nS = nF) := by omega
  clear hnS2
  go_upto_region 8 with (fail)
  go_cut [73] from 52 to 74 (fun v73 wc => v73 = .bool false ∧ wc = w4)
  case first =>
    rcases hmin with ⟨h1, h2, h3⟩ | ⟨h1, h2⟩ | ⟨h1, h2, h3⟩
    · subst h3
      go_wp2
      all_goals (go_meet; (case rel => exact ⟨rfl, rfl⟩))
    · have h3 : L = nF := by omega
      subst h3 h2
      clear h1
      go_wp2
      all_goals (go_meet; (case rel => exact ⟨rfl, rfl⟩))
    · subst h3
      go_wp2
      all_goals (go_meet; (case rel => exact ⟨rfl, rfl⟩))
  obtain ⟨rfl, rfl⟩ := hcut
  clear hmin
  go_wp2_with fail
  refine wp_loop_ghost_k (fun k a wr => ∃ i : Nat, i + k = nF ∧ AtLa AD AA AS nF cD cA nS cS i (fun wr => Below wc.heap.size wc wr) a wr) nF ⟨0, by omega, rfl, rfl, ⟨rfl, rfl, rfl, rfl, rfl⟩, Below.refl _ _⟩ ?_
  intro gk a wr hI J K hJ hK
  obtain ⟨i, hik, hI⟩ := hI
  obtain ⟨⟨u, rfl⟩, hb⟩ := hI.open_
  clear hI
  cases gk with
  | zero =>
    have hii : i = nF := by omega
    have hltI : ¬ ((i : Int) < (nF : Int)) := by omega
    have HB := Aside0.mk (HB4.out.trans (hb.mono HB4.out.size))
    clear hb hii hik HRF4 HRA4 HRS HM2 HFEW HFL HML HNF HNS HB4
    go_wp2_with fail
    go_ret
    exact ⟨rfl, HB.out⟩
  | succ gk =>
    have hlt : i < nF := by omega
    have hltI : (i : Int) < (nF : Int) := by omega
    obtain ⟨⟨fb, fe, fc⟩, hf⟩ : ∃ f, fs[i]? = some f := ⟨_, List.getElem?_eq_getElem (by rw [HNF.out]; exact hlt)⟩
    obtain ⟨m, hm⟩ : ∃ m, ms[i]? = some m := ⟨_, List.getElem?_eq_getElem (by rw [HML.out, HNF.out]; exact hlt)⟩
    obtain ⟨rD, D1, d1, hAD, x0, x1, x2, hCF⟩ := HRF4.out.2 wr hb i (toF (fb, fe, fc)) (by rw [List.getElem?_map, hf]; rfl)
    have hcD : nF ≤ cD := by have := HRF4.out.1; rw [List.length_map, HNF.out] at this; exact this
    have hcA : nF ≤ cA := by have := HRA4.out.1; rw [HML.out, HNF.out] at this; exact this
    have hcS : nS ≤ cS := by have := HRS.out.1; rw [HNS.out] at this; exact this
    obtain ⟨rA, M1, k1, M2, k2, hAA, y0, y1, y2, y3, hM1, hM2⟩ := HRA4.out.2 wr hb i m hm
    subst hAD hAA
    have hdue := HM2.out i m (fb, fe, fc) hm hf
    have hfew : fc.length ≤ 9 := (HFEW.out _ (List.mem_of_getElem? hf)).1
    replace x0 : wr.cell? ⟨rD, i * 3, none⟩ = some (.int .i64 (fb : Int)) := x0
    replace x1 : wr.cell? ⟨rD, i * 3 + 1, none⟩ = some (.int .i64 (fe : Int)) := x1
    replace x2 : wr.cell? ⟨rD, i * 3 + 2, none⟩ = some (.slice D1 (fc.map cap65).length d1) := x2
    replace hCF : k65.C wr D1 (fc.map cap65).length (fc.map cap65) := hCF
    rw [List.length_map] at x2
    rw [show m.b = (fb : Int) from hdue.b] at y0
    rw [show m.e = (fe : Int) from hdue.e] at y1
    rw [show m.cs.length = fc.length from by rw [hdue.lc, List.length_map]] at y2
    rw [show m.ps.length = fc.length from by rw [hdue.lp, List.length_map]] at y3
    have HX30 := Aside0.mk (below_alloc (Below.refl wr.heap.size wr) (.cells #[.int .i64 (fb : Int), .int .i64 (fe : Int), .slice D1 fc.length d1] 30))
    have HC1 := Aside0.mk (Kd.C_below hM1 HX30.out)
    have HC2 := Aside0.mk (Kd.C_below hM2 HX30.out)
    have HC3 := Aside0.mk (Kd.C_below hCF HX30.out)
    have Y0 := Aside0.mk (pw_cell_below HX30.out y0)
    have Y1 := Aside0.mk (pw_cell_below HX30.out y1)
    have Y2 := Aside0.mk (pw_cell_below HX30.out y2)
    have Y3 := Aside0.mk (pw_cell_below HX30.out y3)
    have HN := Aside0.mk (blk_new wr (.cells #[.int .i64 (fb : Int), .int .i64 (fe : Int), .slice D1 fc.length d1] 30))
    have HBW := Aside0.mk (below_alloc hb (.cells #[.int .i64 (fb : Int), .int .i64 (fe : Int), .slice D1 fc.length d1] 30))
    have HDUE := Aside0.mk hdue
    have HF := Aside0.mk hf
    have HM := Aside0.mk hm
    clear hM1 hM2 hCF y0 y1 y2 y3 hdue hf hm hb
    go_upto_region 13 with (fail)
    generalize wr.alloc (.cells #[.int .i64 (fb : Int), .int .i64 (fe : Int), .slice D1 fc.length d1] 30) = w5 at *
    generalize wr.heap.size = n5 at *
    have a0 := blk_cell HN.out 0
    have a1 := blk_cell HN.out 1
    have a2 := blk_cell HN.out 2
    have y0 := Y0.out
    have y1 := Y1.out
    have y2 := Y2.out
    have y3 := Y3.out
    have hcS2 : nS ≤ nF := by rw [← HNS.out, ← HNF.out, ← HML.out, List.length_take]; omega
    have qi : IntKind.i64.wrap ((i : Int) + 1) = (i : Int) + 1 := IntWalk.i64_in _ (by omega)
    have hi1 : Calls Tryf.prog 10 #[.agg #[.int .i64 (fb : Int), .int .i64 (fe : Int), .slice M1 fc.length k1, .slice M2 fc.length k2], .agg #[.int .i64 (fb : Int), .int .i64 (fe : Int), .slice D1 fc.length d1]] w5.drew fun e w' => e = .returned (.bool true) ∧ Below w5.drew.heap.size w5.drew w' := by
      have h := ism_true (w := w5.drew) (c1 := k1) (c2 := k2) (c3 := d1) HDUE.out HC1.out HC2.out HC3.out (by show (List.map cap65 fc).length ≤ 100000; rw [List.length_map]; omega)
      rw [List.length_map, show m.b = (fb : Int) from HDUE.out.b, show m.e = (fe : Int) from HDUE.out.e, show m.cs.length = fc.length from by rw [HDUE.out.lc, List.length_map], show m.ps.length = fc.length from by rw [HDUE.out.lp, List.length_map]] at h
      exact h
    have HI1 := Aside0.mk hi1
    clear hi1 Y0 Y1 Y2 Y3 HC1 HC2 x0 x1 x2
    by_cases hiS : i < nS
    · have hiSI : (i : Int) < (nS : Int) := by omega
      obtain ⟨m', hm'⟩ : ∃ m', (ms.take L)[i]? = some m' := ⟨_, List.getElem?_eq_getElem (by rw [HNS.out]; exact hiS)⟩
      obtain ⟨rS, N1, j1, N2, j2, hAS, z0, z1, z2, z3, hS1, hS2⟩ := HRS.out.2 w5 HBW.out i m' hm'
      subst hAS
      obtain rfl : m' = m := by
        rw [List.getElem?_take] at hm'
        split at hm'
        · rw [HM.out] at hm'; exact (Option.some.inj hm').symm
        · cases hm'
      rw [show m'.b = (fb : Int) from HDUE.out.b] at z0
      rw [show m'.e = (fe : Int) from HDUE.out.e] at z1
      rw [show m'.cs.length = fc.length from by rw [HDUE.out.lc, List.length_map]] at z2
      rw [show m'.ps.length = fc.length from by rw [HDUE.out.lp, List.length_map]] at z3
      have HI2 := Aside0.mk (fun (w' : World) (hb : Below w5.drew.heap.size w5.drew w') => (show Calls Tryf.prog 10 #[.agg #[.int .i64 (fb : Int), .int .i64 (fe : Int), .slice N1 fc.length j1, .slice N2 fc.length j2], .agg #[.int .i64 (fb : Int), .int .i64 (fe : Int), .slice D1 fc.length d1]] w' fun e w'' => e = .returned (.bool true) ∧ Below w'.heap.size w' w'' from by
        have h := ism_true (w := w') (c1 := j1) (c2 := j2) (c3 := d1) HDUE.out (Kd.C_below (w := w5.drew) hS1 hb) (Kd.C_below (w := w5.drew) hS2 hb) (Kd.C_below (w := w5.drew) HC3.out hb) (by show (List.map cap65 fc).length ≤ 100000; rw [List.length_map]; omega)
        rw [List.length_map, show m'.b = (fb : Int) from HDUE.out.b, show m'.e = (fe : Int) from HDUE.out.e, show m'.cs.length = fc.length from by rw [HDUE.out.lc, List.length_map], show m'.ps.length = fc.length from by rw [HDUE.out.lp, List.length_map]] at h
        exact h))
      clear hS1 hS2 hm' HC3 HM
      have HKEEP := Aside0.mk (fun (w' : World) (hb : Below w5.drew.heap.size w5.drew w') => (show w'.cell? ⟨n5, 0, none⟩ = some (.int .i64 (fb : Int)) ∧ w'.cell? ⟨n5, 1, none⟩ = some (.int .i64 (fe : Int)) ∧ w'.cell? ⟨n5, 2, none⟩ = some (.slice D1 fc.length d1) ∧ w'.cell? ⟨rA, i * 4, none⟩ = some (.int .i64 (fb : Int)) ∧ w'.cell? ⟨rA, i * 4 + 1, none⟩ = some (.int .i64 (fe : Int)) ∧ w'.cell? ⟨rA, i * 4 + 2, none⟩ = some (.slice M1 fc.length k1) ∧ w'.cell? ⟨rA, i * 4 + 3, none⟩ = some (.slice M2 fc.length k2) ∧ w'.cell? ⟨rS, i * 4, none⟩ = some (.int .i64 (fb : Int)) ∧ w'.cell? ⟨rS, i * 4 + 1, none⟩ = some (.int .i64 (fe : Int)) ∧ w'.cell? ⟨rS, i * 4 + 2, none⟩ = some (.slice N1 fc.length j1) ∧ w'.cell? ⟨rS, i * 4 + 3, none⟩ = some (.slice N2 fc.length j2) from ⟨pw_cell_below (w := w5.drew) hb a0, pw_cell_below (w := w5.drew) hb a1, pw_cell_below (w := w5.drew) hb a2, pw_cell_below (w := w5.drew) hb y0, pw_cell_below (w := w5.drew) hb y1, pw_cell_below (w := w5.drew) hb y2, pw_cell_below (w := w5.drew) hb y3, pw_cell_below (w := w5.drew) hb z0, pw_cell_below (w := w5.drew) hb z1, pw_cell_below (w := w5.drew) hb z2, pw_cell_below (w := w5.drew) hb z3⟩))
      go_upto_region 13 with (fail)
      go_region_held3 (fun w' => w'.cell? ⟨n5, 0, none⟩ = some (.int .i64 (fb : Int)) ∧ w'.cell? ⟨n5, 1, none⟩ = some (.int .i64 (fe : Int)) ∧ w'.cell? ⟨n5, 2, none⟩ = some (.slice D1 fc.length d1) ∧ w'.cell? ⟨rA, i * 4, none⟩ = some (.int .i64 (fb : Int)) ∧ w'.cell? ⟨rA, i * 4 + 1, none⟩ = some (.int .i64 (fe : Int)) ∧ w'.cell? ⟨rA, i * 4 + 2, none⟩ = some (.slice M1 fc.length k1) ∧ w'.cell? ⟨rA, i * 4 + 3, none⟩ = some (.slice M2 fc.length k2) ∧ w'.cell? ⟨rS, i * 4, none⟩ = some (.int .i64 (fb : Int)) ∧ w'.cell? ⟨rS, i * 4 + 1, none⟩ = some (.int .i64 (fe : Int)) ∧ w'.cell? ⟨rS, i * 4 + 2, none⟩ = some (.slice N1 fc.length j1) ∧ w'.cell? ⟨rS, i * 4 + 3, none⟩ = some (.slice N2 fc.length j2)) (first | exact ⟨a0, a1, a2, y0, y1, y2, y3, z0, z1, z2, z3⟩ | exact HKEEP.out _ HB11.out | exact HKEEP.out _ HB10.out) (first | (go_at_call 10; refine (HI2.out w10 HB10.out).mono ?_; rintro e w11 ⟨he11, hb11⟩; subst he11; have HB11 := Aside0.mk (HB10.out.trans (hb11.mono HB10.out.size)); clear hb11) | (go_at_call 10; refine HI1.out.mono ?_; rintro e w10 ⟨he10, hb10⟩; subst he10; have HB10 := Aside0.mk hb10; clear hb10))
      go_wp2_with fail
      exact Handed.intro gk (by omega) (hJ _ _ _ ⟨i + 1, by omega, rfl, rfl, ⟨rfl, rfl, rfl, rfl, congrArg (Value.int .i64) (Int.natCast_succ i).symm⟩, (below_drew HBW.out).trans (HB11.out.mono HBW.out.size)⟩)
    · have hiSI : ¬ ((i : Int) < (nS : Int)) := by omega
      clear HC3 HM
      have HKEEP := Aside0.mk (fun (w' : World) (hb : Below w5.drew.heap.size w5.drew w') => (show w'.cell? ⟨n5, 0, none⟩ = some (.int .i64 (fb : Int)) ∧ w'.cell? ⟨n5, 1, none⟩ = some (.int .i64 (fe : Int)) ∧ w'.cell? ⟨n5, 2, none⟩ = some (.slice D1 fc.length d1) ∧ w'.cell? ⟨rA, i * 4, none⟩ = some (.int .i64 (fb : Int)) ∧ w'.cell? ⟨rA, i * 4 + 1, none⟩ = some (.int .i64 (fe : Int)) ∧ w'.cell? ⟨rA, i * 4 + 2, none⟩ = some (.slice M1 fc.length k1) ∧ w'.cell? ⟨rA, i * 4 + 3, none⟩ = some (.slice M2 fc.length k2) from ⟨pw_cell_below (w := w5.drew) hb a0, pw_cell_below (w := w5.drew) hb a1, pw_cell_below (w := w5.drew) hb a2, pw_cell_below (w := w5.drew) hb y0, pw_cell_below (w := w5.drew) hb y1, pw_cell_below (w := w5.drew) hb y2, pw_cell_below (w := w5.drew) hb y3⟩))
      go_upto_region 13 with (fail)
      refine wp_region_held_drew (S := fun w' => w'.cell? ⟨n5, 0, none⟩ = some (.int .i64 (fb : Int)) ∧ w'.cell? ⟨n5, 1, none⟩ = some (.int .i64 (fe : Int)) ∧ w'.cell? ⟨n5, 2, none⟩ = some (.slice D1 fc.length d1) ∧ w'.cell? ⟨rA, i * 4, none⟩ = some (.int .i64 (fb : Int)) ∧ w'.cell? ⟨rA, i * 4 + 1, none⟩ = some (.int .i64 (fe : Int)) ∧ w'.cell? ⟨rA, i * 4 + 2, none⟩ = some (.slice M1 fc.length k1) ∧ w'.cell? ⟨rA, i * 4 + 3, none⟩ = some (.slice M2 fc.length k2)) (by kernel_rfl) (by first | exact ⟨a0, a1, a2, y0, y1, y2, y3⟩) (fun hHeld => ?_)
      refine wpAnyH_take (i := 0) (oi := ?oi0) (v := ?v0) ?hi0 (by kernel_rfl) (by kernel_rfl) (by kernel_rfl) ?hq0 ?hy0 (by assumption) ?rest0
      case hi0 => (simp only [List.getElem?_toArray, List.getElem?_cons_zero, List.getElem?_cons_succ]; rfl)
      case hq0 => exact fun _ _ _ h => h
      case hy0 => (refine Or.inl ⟨by rfl, ?_⟩; intro w hSw; (try dsimp only at hSw); go_simp; (first | done | with_reducible rfl))
      (try simp only [Act.put, List.setIfInBounds_toArray, List.set_cons_zero, List.set_cons_succ])
      refine wpAnyH_take (i := 1) (oi := ?oi1) (v := ?v1) ?hi1 (by kernel_rfl) (by kernel_rfl) (by kernel_rfl) ?hq1 ?hy1 (by assumption) ?rest1
      case hi1 => (simp only [List.getElem?_toArray, List.getElem?_cons_zero, List.getElem?_cons_succ]; rfl)
      case hq1 => exact fun _ _ _ h => h
      case hy1 => (refine Or.inl ⟨by rfl, ?_⟩; intro w hSw; (try dsimp only at hSw); go_simp; (first | done | with_reducible rfl))
      (try simp only [Act.put, List.setIfInBounds_toArray, List.set_cons_zero, List.set_cons_succ])
      refine wpAnyH_take (i := 2) (oi := ?oi2) (v := ?v2) ?hi2 (by kernel_rfl) (by kernel_rfl) (by kernel_rfl) ?hq2 ?hy2 (by assumption) ?rest2
      case hi2 => (simp only [List.getElem?_toArray, List.getElem?_cons_zero, List.getElem?_cons_succ]; rfl)
      case hq2 => exact fun _ _ _ h => h
      case hy2 => (refine Or.inl ⟨by rfl, ?_⟩; intro w hSw; (try dsimp only at hSw); go_simp; (first | done | with_reducible rfl))
      (try simp only [Act.put, List.setIfInBounds_toArray, List.set_cons_zero, List.set_cons_succ])
      refine wpAnyH_take (i := 3) (oi := ?oi3) (v := ?v3) ?hi3 (by kernel_rfl) (by kernel_rfl) (by kernel_rfl) ?hq3 ?hy3 (by assumption) ?rest3
      case hi3 => (simp only [List.getElem?_toArray, List.getElem?_cons_zero, List.getElem?_cons_succ]; rfl)
      case hq3 => exact fun _ _ _ h => h
      case hy3 => (refine Or.inl ⟨by rfl, ?_⟩; intro w hSw; (try dsimp only at hSw); go_simp; (first | done | with_reducible rfl))
      (try simp only [Act.put, List.setIfInBounds_toArray, List.set_cons_zero, List.set_cons_succ])
      refine wpAnyH_take (i := 4) (oi := ?oi4) (v := ?v4) ?hi4 (by kernel_rfl) (by kernel_rfl) (by kernel_rfl) ?hq4 ?hy4 (by assumption) ?rest4
      case hi4 => (simp only [List.getElem?_toArray, List.getElem?_cons_zero, List.getElem?_cons_succ]; rfl)
      case hq4 => exact fun _ _ _ h => h
      case hy4 => (refine Or.inl ⟨by rfl, ?_⟩; intro w hSw; (try dsimp only at hSw); go_simp; (first | done | with_reducible rfl))
      (try simp only [Act.put, List.setIfInBounds_toArray, List.set_cons_zero, List.set_cons_succ])
      refine wpAnyH_ready (rs := [5]) (by kernel_rfl) (by simp) ?_
      refine AllReadyH.cons (o := ?o5) ?ho5 ?hk5 AllReadyH.nil
      case ho5 => (simp only [List.getElem?_toArray, List.getElem?_cons_zero, List.getElem?_cons_succ]; rfl)
      intro K hK
      go_simp
      go_at_call 10
      refine HI1.out.mono ?_
      rintro e w10 ⟨he10, hb10⟩
      subst he10
      have HB10 := Aside0.mk hb10
      clear hb10
      go_wp2_with fail
      refine hK.out _ _ (HKEEP.out _ HB10.out) (fun hHeld => ?_)
      clear hK K
      (try simp only [Act.put, List.setIfInBounds_toArray, List.set_cons_zero, List.set_cons_succ])
      refine wpAnyH_take (i := 6) (oi := ?oi6) (v := ?v6) ?hi6 (by kernel_rfl) (by kernel_rfl) (by kernel_rfl) ?hq6 ?hy6 (by assumption) ?rest6
      case hi6 => (simp only [List.getElem?_toArray, List.getElem?_cons_zero, List.getElem?_cons_succ]; rfl)
      case hq6 => exact fun _ _ _ h => h
      case hy6 => (refine Or.inl ⟨by rfl, ?_⟩; intro w hSw; (try dsimp only at hSw); go_simp; (first | done | with_reducible rfl))
      (try simp only [Act.put, List.setIfInBounds_toArray, List.set_cons_zero, List.set_cons_succ])
      refine wpAnyH_take (i := 7) (oi := ?oi7) (v := ?v7) ?hi7 (by kernel_rfl) (by kernel_rfl) (by kernel_rfl) ?hq7 ?hy7 (by assumption) ?rest7
      case hi7 => (simp only [List.getElem?_toArray, List.getElem?_cons_zero, List.getElem?_cons_succ]; rfl)
      case hq7 => exact fun _ _ _ h => h
      case hy7 => (refine Or.inl ⟨by rfl, ?_⟩; intro w hSw; (try dsimp only at hSw); go_simp; (first | done | with_reducible rfl))
      (try simp only [Act.put, List.setIfInBounds_toArray, List.set_cons_zero, List.set_cons_succ])
      refine wpAnyH_take (i := 8) (oi := ?oi8) (v := ?v8) ?hi8 (by kernel_rfl) (by kernel_rfl) (by kernel_rfl) ?hq8 ?hy8 (by assumption) ?rest8
      case hi8 => (simp only [List.getElem?_toArray, List.getElem?_cons_zero, List.getElem?_cons_succ]; rfl)
      case hq8 => exact fun _ _ _ h => h
      case hy8 => (refine Or.inl ⟨by rfl, ?_⟩; intro w hSw; (try dsimp only at hSw); go_simp; (first | done | with_reducible rfl))
      (try simp only [Act.put, List.setIfInBounds_toArray, List.set_cons_zero, List.set_cons_succ])
      refine wpAnyH_take (i := 9) (oi := ?oi9) (v := ?v9) ?hi9 (by kernel_rfl) (by kernel_rfl) (by kernel_rfl) ?hq9 ?hy9 (by assumption) ?rest9
      case hi9 => (simp only [List.getElem?_toArray, List.getElem?_cons_zero, List.getElem?_cons_succ]; rfl)
      case hq9 => exact fun _ _ _ h => h
      case hy9 => (refine Or.inl ⟨by rfl, ?_⟩; intro w hSw; (try dsimp only at hSw); go_simp; (first | done | with_reducible rfl))
      (try simp only [Act.put, List.setIfInBounds_toArray, List.set_cons_zero, List.set_cons_succ])
      refine wpAnyH_take (i := 10) (oi := ?oi10) (v := ?v10) ?hi10 (by kernel_rfl) (by kernel_rfl) (by kernel_rfl) ?hq10 ?hy10 (by assumption) ?rest10
      case hi10 => (simp only [List.getElem?_toArray, List.getElem?_cons_zero, List.getElem?_cons_succ]; rfl)
      case hq10 => exact fun _ _ _ h => h
      case hy10 => (refine Or.inl ⟨by rfl, ?_⟩; intro w hSw; (try dsimp only at hSw); go_simp; (first | done | with_reducible rfl))
      (try simp only [Act.put, List.setIfInBounds_toArray, List.set_cons_zero, List.set_cons_succ])
      refine wpAnyH_take (i := 11) (oi := ?oi11) (v := ?v11) ?hi11 (by kernel_rfl) (by kernel_rfl) (by kernel_rfl) ?hq11 ?hy11 (by assumption) ?rest11
      case hi11 => (simp only [List.getElem?_toArray, List.getElem?_cons_zero, List.getElem?_cons_succ]; rfl)
      case hq11 => exact fun _ _ _ h => h
      case hy11 => (refine Or.inl ⟨by rfl, ?_⟩; intro w hSw; (try dsimp only at hSw); go_simp; (first | done | with_reducible rfl))
      (try simp only [Act.put, List.setIfInBounds_toArray, List.set_cons_zero, List.set_cons_succ])
      refine wpAnyH_take (i := 12) (oi := ?oi12) (v := ?v12) ?hi12 (by kernel_rfl) (by kernel_rfl) (by kernel_rfl) ?hq12 ?hy12 (by assumption) ?rest12
      case hi12 => (simp only [List.getElem?_toArray, List.getElem?_cons_zero, List.getElem?_cons_succ]; rfl)
      case hq12 => exact fun _ _ _ h => h
      case hy12 => (refine Or.inl ⟨by rfl, ?_⟩; intro w hSw; (try dsimp only at hSw); go_simp; (first | done | with_reducible rfl))
      (try simp only [Act.put, List.setIfInBounds_toArray, List.set_cons_zero, List.set_cons_succ])
      refine wpAnyH_take (i := 13) (oi := ?oi13) (v := undef) ?hi13 (by kernel_rfl) (by kernel_rfl) (by kernel_rfl) ?hq13 ?hy13 (by assumption) ?rest13
      case hi13 => (simp only [List.getElem?_toArray, List.getElem?_cons_zero, List.getElem?_cons_succ]; rfl)
      case hq13 => exact fun _ _ _ h => h
      case hy13 => exact Or.inr ⟨by rfl, rfl⟩
      (try simp only [Act.put, List.setIfInBounds_toArray, List.set_cons_zero, List.set_cons_succ])
      refine wpAnyH_take (i := 14) (oi := ?oi14) (v := undef) ?hi14 (by kernel_rfl) (by kernel_rfl) (by kernel_rfl) ?hq14 ?hy14 (by assumption) ?rest14
      case hi14 => (simp only [List.getElem?_toArray, List.getElem?_cons_zero, List.getElem?_cons_succ]; rfl)
      case hq14 => exact fun _ _ _ h => h
      case hy14 => exact Or.inr ⟨by rfl, rfl⟩
      (try simp only [Act.put, List.setIfInBounds_toArray, List.set_cons_zero, List.set_cons_succ])
      refine wpAnyH_take (i := 15) (oi := ?oi15) (v := undef) ?hi15 (by kernel_rfl) (by kernel_rfl) (by kernel_rfl) ?hq15 ?hy15 (by assumption) ?rest15
      case hi15 => (simp only [List.getElem?_toArray, List.getElem?_cons_zero, List.getElem?_cons_succ]; rfl)
      case hq15 => exact fun _ _ _ h => h
      case hy15 => exact Or.inr ⟨by rfl, rfl⟩
      (try simp only [Act.put, List.setIfInBounds_toArray, List.set_cons_zero, List.set_cons_succ])
      refine wpAnyH_take (i := 16) (oi := ?oi16) (v := undef) ?hi16 (by kernel_rfl) (by kernel_rfl) (by kernel_rfl) ?hq16 ?hy16 (by assumption) ?rest16
      case hi16 => (simp only [List.getElem?_toArray, List.getElem?_cons_zero, List.getElem?_cons_succ]; rfl)
      case hq16 => exact fun _ _ _ h => h
      case hy16 => exact Or.inr ⟨by rfl, rfl⟩
      (try simp only [Act.put, List.setIfInBounds_toArray, List.set_cons_zero, List.set_cons_succ])
      refine wpAnyH_take (i := 17) (oi := ?oi17) (v := undef) ?hi17 (by kernel_rfl) (by kernel_rfl) (by kernel_rfl) ?hq17 ?hy17 (by assumption) ?rest17
      case hi17 => (simp only [List.getElem?_toArray, List.getElem?_cons_zero, List.getElem?_cons_succ]; rfl)
      case hq17 => exact fun _ _ _ h => h
      case hy17 => exact Or.inr ⟨by rfl, rfl⟩
      (try simp only [Act.put, List.setIfInBounds_toArray, List.set_cons_zero, List.set_cons_succ])
      refine wpAnyH_take (i := 18) (oi := ?oi18) (v := undef) ?hi18 (by kernel_rfl) (by kernel_rfl) (by kernel_rfl) ?hq18 ?hy18 (by assumption) ?rest18
      case hi18 => (simp only [List.getElem?_toArray, List.getElem?_cons_zero, List.getElem?_cons_succ]; rfl)
      case hq18 => exact fun _ _ _ h => h
      case hy18 => exact Or.inr ⟨by rfl, rfl⟩
      (try simp only [Act.put, List.setIfInBounds_toArray, List.set_cons_zero, List.set_cons_succ])
      refine wpAnyH_take (i := 19) (oi := ?oi19) (v := undef) ?hi19 (by kernel_rfl) (by kernel_rfl) (by kernel_rfl) ?hq19 ?hy19 (by assumption) ?rest19
      case hi19 => (simp only [List.getElem?_toArray, List.getElem?_cons_zero, List.getElem?_cons_succ]; rfl)
      case hq19 => exact fun _ _ _ h => h
      case hy19 => exact Or.inr ⟨by rfl, rfl⟩
      (try simp only [Act.put, List.setIfInBounds_toArray, List.set_cons_zero, List.set_cons_succ])
      refine wpAnyH_take (i := 20) (oi := ?oi20) (v := ?v20) ?hi20 (by kernel_rfl) (by kernel_rfl) (by kernel_rfl) ?hq20 ?hy20 (by assumption) ?rest20
      case hi20 => (simp only [List.getElem?_toArray, List.getElem?_cons_zero, List.getElem?_cons_succ]; rfl)
      case hq20 => exact fun _ _ _ h => h
      case hy20 => (refine Or.inl ⟨by rfl, ?_⟩; intro w hSw; (try dsimp only at hSw); go_simp; (first | done | with_reducible rfl))
      (try simp only [Act.put, List.setIfInBounds_toArray, List.set_cons_zero, List.set_cons_succ])
      refine wpAnyH_take (i := 21) (oi := ?oi21) (v := ?v21) ?hi21 (by kernel_rfl) (by kernel_rfl) (by kernel_rfl) ?hq21 ?hy21 (by assumption) ?rest21
      case hi21 => (simp only [List.getElem?_toArray, List.getElem?_cons_zero, List.getElem?_cons_succ]; rfl)
      case hq21 => exact fun _ _ _ h => h
      case hy21 => (refine Or.inl ⟨by rfl, ?_⟩; intro w hSw; (try dsimp only at hSw); go_simp; (first | done | with_reducible rfl))
      (try simp only [Act.put, List.setIfInBounds_toArray, List.set_cons_zero, List.set_cons_succ])
      refine wpAnyH_done (by kernel_rfl) ?_ _
      all_goals (go_wp2_with fail; exact Handed.intro gk (by omega) (hJ _ _ _ ⟨i + 1, by omega, rfl, rfl, ⟨rfl, rfl, rfl, rfl, congrArg (Value.int .i64) (Int.natCast_succ i).symm⟩, (below_drew HBW.out).trans (HB10.out.mono HBW.out.size)⟩))
end
end Go.Proofs.YtpjfjfloeejgiaaFmt.Lw
