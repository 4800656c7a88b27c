/- Joined texts of this seat: Lwf. -/
import Derived.Test.YtpjfjfloeejgiaaFmtGn
import Derived.Deep.RegionHeld3
/- The law FnPatternFirst: the walk. -/
set_option linter.unusedVariables false
set_option linter.unusedSimpArgs false
namespace Go.Proofs.YtpjfjfloeejgiaaFmt.Lw
open Go.RowKit Go.Proofs.YtpjfjfloeejgiaaFmtW.PrintWords Go.Proofs.YtpjfjfloeejgiaaFmt.Rf Go.Proofs.YtpjfjfloeejgiaaFmt.Vm Go.Proofs.YtpjfjfloeejgiaaFmt.Mtc Go.Proofs.YtpjfjfloeejgiaaFmt.PFnPatternFirst
theorem o_cases (p s : ByteArray) (frm : Int) : fFirst p s frm = (2, none) ∨ (fFirst p s frm = (1, none)) ∨ ∃ a en caps, fFirst p s frm = (0, some (a, en, caps)) := by
  by_cases h2 : (fFirst p s frm).1 = 2
  · left
    unfold fFirst at h2 ⊢
    cases hr : pRead (bytesOf p) with
    | none => rfl
    | some y =>
      obtain ⟨anc, items, n⟩ := y
      rw [hr] at h2
      simp only at h2 ⊢
      split
      · rfl
      · rename_i hc
        rw [if_neg hc] at h2
        cases hp : pFind (bytesOf s) items anc (s.size + 2) frm.toNat 20000 with
        | none => rfl
        | some o =>
          rw [hp, Option.getD_some] at h2
          rw [Option.getD_some]
          rcases pFind_code _ _ _ _ hp with (rfl | rfl) | ⟨x, rfl⟩
          · cases h2
          · rfl
          · cases h2
  · right
    obtain ⟨_, _, _, _, _, _, _, _, _, _, hk, _⟩ := fFirst_told rfl h2
    rcases hk with ⟨⟨a, en, caps⟩, hk⟩ | hk
    · exact .inr ⟨a, en, caps, hk⟩
    · exact .inl hk
theorem o_few {p s : ByteArray} {frm : Int} {a en : Nat} {caps : List S74} (h : fFirst p s frm = (0, some (a, en, caps))) : caps.length ≤ 9 := by
  obtain ⟨anc, items, n, fn, hr, hB, hs, _, _, _, _, hd⟩ := fFirst_told h (by simp)
  obtain ⟨cs, hfit⟩ := dFind_fit hr hB hs hd
  exact hfit.nine
section
variable {w : World} {p s : ByteArray} {frm : Int}
set_option maxHeartbeats 40000000 in
set_option maxRecDepth 100000 in
theorem law_first : Calls Tryf.prog 5 #[.string p, .string s, .int .i64 frm] w fun e w' => e = .returned (.bool true) ∧ Below w.heap.size w w' := by
  by_cases hp : 2147483647 < p.size
  · have hpI : (2147483647 : Int) < (p.size : Int) := by omega
    go_enter Tryf.func5, Tryf.ntmps5
    go_wp2_with fail
    go_ret
    exact ⟨rfl, Below.refl _ _⟩
  have hpI : ¬ (2147483647 : Int) < (p.size : Int) := by omega
  by_cases hs : 2147483647 < s.size
  · have hsI : (2147483647 : Int) < (s.size : Int) := by omega
    go_enter Tryf.func5, Tryf.ntmps5
    go_wp2_with fail
    go_ret
    exact ⟨rfl, Below.refl _ _⟩
  have hsI : ¬ (2147483647 : Int) < (s.size : Int) := by omega
  have HF := Aside0.mk (firstMatch_any (w := w) (p := p) (s := s) (frm := frm) (by omega))
  have HN := Aside0.mk (fun (W : World) o (h : fFirst p s frm = o) h2 => nine_any (w := W) h h2)
  have hoc := o_cases p s frm
  clear hp hs
  go_enter Tryf.func5, Tryf.ntmps5
  go_wp2_with fail
  refine HF.out.mono ?_
  rintro e w1 ⟨hb1, h1⟩
  rcases hoc with ho | ho | ⟨a, en, caps, ho⟩
  · rw [ho] at h1
    simp only at h1
    subst h1
    have HB1 := Aside0.mk (below_alloc hb1 (.cells #[.int .i64 0, .int .i64 0, .slice none 0 0] 30))
    clear hb1 HF HN ho
    go_wp2_with fail
    go_ret
    exact ⟨rfl, HB1.out⟩
  · rw [ho] at h1
    simp only at h1
    subst h1
    have HB1 := Aside0.mk (below_alloc hb1 (.cells #[.int .i64 0, .int .i64 0, .slice none 0 0] 30))
    have HN2 := Aside0.mk (HN.out (w1.alloc (.cells #[.int .i64 0, .int .i64 0, .slice none 0 0] 30)) _ ho (by simp))
    clear hb1 HF HN ho
    go_wp2_with fail
    refine HN2.out.mono ?_
    rintro e w2 ⟨hb2, h2⟩
    simp only at h2
    subst h2
    have HB2 := Aside0.mk (below_alloc (HB1.out.trans (hb2.mono HB1.out.size)) (.cells #[.int .i64 0, .int .i64 0, .slice none 0 0, .slice none 0 0] 37))
    clear hb2 HB1 HN2
    go_wp2_with fail
    go_ret
    exact ⟨rfl, HB2.out⟩
  · rw [ho] at h1
    obtain ⟨A, c, he, hle, hC⟩ := h1
    have hfew := o_few ho
    subst he
    have HB1 := Aside0.mk (below_alloc hb1 (.cells #[.int .i64 (a : Int), .int .i64 (en : Int), .slice A caps.length c] 30))
    have HN2 := Aside0.mk (HN.out (w1.alloc (.cells #[.int .i64 (a : Int), .int .i64 (en : Int), .slice A caps.length c] 30)) _ ho (by simp))
    have hx := blk_new w1 (.cells #[.int .i64 (a : Int), .int .i64 (en : Int), .slice A caps.length c] 30)
    have HX := Aside0.mk hx
    have HC := Aside0.mk (Kd.C_below hC (below_alloc (Below.refl w1.heap.size w1) (.cells #[.int .i64 (a : Int), .int .i64 (en : Int), .slice A caps.length c] 30)))
    clear hb1 HF HN ho hC hx
    go_upto_region 4 with (fail)
    generalize w1.alloc (.cells #[.int .i64 (a : Int), .int .i64 (en : Int), .slice A caps.length c] 30) = w2 at *
    generalize w1.heap.size = q1 at *
    go_wp2_with fail
    refine HN2.out.mono ?_
    rintro e w3 ⟨hb3, m, A1, c1, A2, c2, he, r1, r2, hdue⟩
    subst he
    have HX3 := Aside0.mk ((hb3.block _ (blk_lt HX.out)).trans HX.out)
    have HB3 := Aside0.mk (HB1.out.trans (hb3.mono HB1.out.size))
    have HB4 := Aside0.mk (below_alloc HB3.out (.cells #[.int .i64 m.b, .int .i64 m.e, .slice A1 m.cs.length c1, .slice A2 m.ps.length c2] 37))
    have bel := below_alloc (Below.refl w3.heap.size w3) (.cells #[.int .i64 m.b, .int .i64 m.e, .slice A1 m.cs.length c1, .slice A2 m.ps.length c2] 37)
    have hi := (ism_true (w := (w3.alloc (.cells #[.int .i64 m.b, .int .i64 m.e, .slice A1 m.cs.length c1, .slice A2 m.ps.length c2] 37))) (A1 := A1) (A2 := A2) (A3 := A) (c1 := c1) (c2 := c2) (c3 := c) hdue (Kd.C_below r1 bel) (Kd.C_below r2 bel) (by rw [List.length_map]; exact Kd.C_below (Kd.C_below HC.out hb3) bel) (by rw [List.length_map]; omega))
    rw [List.length_map] at hi
    have HI := Aside0.mk hi
    have hy := blk_new w3 (.cells #[.int .i64 m.b, .int .i64 m.e, .slice A1 m.cs.length c1, .slice A2 m.ps.length c2] 37)
    have hx4 := blk_alloc HX3.out (.cells #[.int .i64 m.b, .int .i64 m.e, .slice A1 m.cs.length c1, .slice A2 m.ps.length c2] 37)
    clear hb3 r1 r2 hdue bel HN2 HC HX HB1
    go_upto_region 7 with (fail)
    generalize w3.alloc (.cells #[.int .i64 m.b, .int .i64 m.e, .slice A1 m.cs.length c1, .slice A2 m.ps.length c2] 37) = w4 at *
    generalize w3.heap.size = q3 at *
    have a0 := blk_cell hx4 0
    have a1 := blk_cell hx4 1
    have a2 := blk_cell hx4 2
    have b0 := blk_cell hy 0
    have b1 := blk_cell hy 1
    have b2 := blk_cell hy 2
    have b3 := blk_cell hy 3
    clear hx4 hy
    go_wp2_with fail
    refine HI.out.mono ?_
    rintro e w5 ⟨he5, hb5⟩
    subst he5
    have HB5 := Aside0.mk (HB4.out.trans (hb5.mono HB4.out.size))
    clear hb5 HI
    go_wp2_with fail
    go_ret
    exact ⟨rfl, HB5.out⟩
end
end Go.Proofs.YtpjfjfloeejgiaaFmt.Lw
