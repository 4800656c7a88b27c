/- Joined texts of this seat: PatC, PatD. -/
import Derived.Test.YtpjfjfloeejgiaaFmtGd
/- parsePattern of package pm: the walk. -/
set_option linter.unusedVariables false
set_option linter.unusedSimpArgs false
namespace Go.Proofs.YtpjfjfloeejgiaaFmt.Pat
open Go.RowKit Go.Proofs.YtpjfjfloeejgiaaFmtW.PrintWords Go.Proofs.YtpjfjfloeejgiaaFmt.Scan Go.Proofs.YtpjfjfloeejgiaaFmt.Cls

section
variable {w0 w : World} {g : Nat} {A : Option Addr} {cap : Nat} {src : List Int} {c : Nat} {D : Nat}
set_option maxHeartbeats 40000000 in
set_option maxRecDepth 100000 in
theorem seq_any {ps : List Pat} {mt : Bool} {c' c0 : Nat} {top mh : Bool} (hs : Src w0 A src) (hB : Below w0.heap.size w0 w) (hg : w0.heap.size ≤ g) (h : Sc w g A src.length cap c none) (hnest : Nested D w0 g A src cap)
    (hpre : (top = true ∧ mh = true ∧ chr src c = 94 ∧ c0 = c + 1) ∨ (top = true ∧ mh = false ∧ chr src c ≠ 94 ∧ c0 = c) ∨ (top = false ∧ mh = false ∧ c0 = c))
    (hp : ploop src top (pseq src D) (src.length + 2) c0 [] false = some (ps, mt, c')) :
    Calls Tryf.prog 26 #[.pointer (some ⟨g, 0, none⟩), .bool top] w fun e w' => ∃ q, e = .returned (.pointer (some ⟨q, 0, none⟩)) ∧ SeqAt (patK (D + 1)) w' w.heap.size (fun _ => True) q mh mt ps ∧ Sc w' g A src.length cap c' none ∧ Kp w0 w w' g := by
  have HS := Aside0.mk hs
  have HG := Aside0.mk hg
  have HB := Aside0.mk hB
  have H0 := Aside0.mk h
  have HNEST := Aside0.mk hnest
  have HP0 := Aside0.mk hp
  have HPRE := Aside0.mk hpre
  have hw0 : w0.heap.size ≤ w.heap.size := hB.size
  clear hs hB hg h hnest hp hpre
  go_enter Tryf.func26, Tryf.ntmps26
  go_wp2_with fail
  refine wp_scope_jumps 0 (AtExit w.heap.size (fun wf => ∃ v, SeqU D w0 w wf g w.heap.size A src.length cap mh mt ps c' v)) (fun _ _ => 0) rfl ?_ ?_
  · have HN := Aside0.mk (SeqU.new (D := D) HB.out H0.out)
    go_upto_if 12 with (fail)
    go_cut [] from 13 to 20 (fun wc => SeqC D w0 w wc g w.heap.size A src.length cap mh false [] c0)
    case first =>
      have HPK := Aside0.mk (peek_sc HS.out HN.out.kp.b HG.out HN.out.sc)
      rcases HPRE.out with ⟨rfl, rfl, h94, rfl⟩ | ⟨rfl, rfl, h94, hce⟩ | ⟨rfl, rfl, hce⟩
      · have hc0 := chr_lt (src := src) (c := c) (by omega)
        rw [h94] at HPK
        clear h94
        go_wp2_with fail
        refine HPK.out.mono ?_
        rintro e w2 ⟨rfl, h2, k2⟩
        have HS2 := Aside0.mk (HN.out.keep k2 h2)
        clear h2 k2
        go_wp2_with fail
        refine (next_sc HS.out HS2.out.kp.b HG.out HS2.out.sc).mono ?_
        rintro e w3 ⟨rfl, h3, k3⟩
        have hm : min (c + 1) src.length = c + 1 := by omega
        rw [hm] at h3
        have HS3 := Aside0.mk (HS2.out.keep k3 h3)
        have e1 : w3.cell? ⟨w.heap.size, 0, none⟩ = some (.bool false) := blk_cell HS3.out.hv 0
        have f1 := blk_frozen HS3.out.hv 0
        clear h3 k3 hm
        go_wp2
        go_meet
        case rel => exact ⟨_, HS3.out.head hw0 true⟩
      · obtain rfl : c = c0 := hce.symm
        have b1 : (chr src c == 94) = false := beq_eq_false_iff_ne.mpr h94
        clear h94
        go_wp2_with fail
        refine HPK.out.mono ?_
        rintro e w2 ⟨rfl, h2, k2⟩
        have HS2 := Aside0.mk (HN.out.keep k2 h2)
        clear h2 k2
        go_wp2
        go_meet
        case rel => exact ⟨_, HS2.out⟩
      · obtain rfl : c = c0 := hce.symm
        go_wp2
        go_meet
        case rel => exact ⟨_, HN.out⟩
    obtain ⟨v0, hS0⟩ := hcut
    have HS0 := Aside0.mk hS0
    clear hS0
    go_wp2_with fail
    refine wp_loop_ghost_k (AtLoop g w.heap.size top (PRel D w0 w g w.heap.size A src cap mh top (pseq src D) (ps, mt, c'))) (src.length + 2) ⟨rfl, rfl, ⟨rfl, rfl, rfl⟩, ⟨_, _, _, _, by simp, HP0.out, HS0.out⟩⟩ ?_
    · intro gk a wr hI J K hJ hK
      obtain ⟨⟨u, rfl⟩, hrel⟩ := hI.open_
      clear hI
      obtain ⟨c1, ps1, mt1, v1, hal, hp1, hS⟩ := hrel
      have hc1n := hS.sc.le
      have hln := HS.out.n
      have HS1 := Aside0.mk hS
      clear hS HN HP0 HS0 HPRE
      have HPK := Aside0.mk (peek_sc HS.out HS1.out.kp.b HG.out HS1.out.sc)
      obtain ⟨m, rfl⟩ : ∃ m, gk = m + 1 := by
        cases gk with
        | zero => exact absurd hp1 (by simp [ploop])
        | succ m => exact ⟨m, rfl⟩
      unfold ploop at hp1
      by_cases h37 : chr src c1 = 37
      · rw [if_pos h37] at hp1
        rw [h37] at HPK
        have hc1 := chr_lt (src := src) (c := c1) (by omega)
        have hm : min (c1 + 1) src.length = c1 + 1 := by omega
        clear h37
        go_wp2_with fail
        refine HPK.out.mono ?_
        rintro e w2 ⟨rfl, h2, k2⟩
        have HS2 := Aside0.mk (HS1.out.keep k2 h2)
        clear h2 k2 HS1 HPK
        go_wp2_with fail
        refine (save_sc HS2.out.kp.b HG.out HS2.out.sc).mono ?_
        rintro e w3 ⟨rfl, h3, k3⟩
        have HS3 := Aside0.mk (HS2.out.keep k3 h3.any)
        have HD3 := Aside0.mk h3
        clear h3 k3 HS2
        go_wp2_with fail
        refine (next_sc HS.out HS3.out.kp.b HG.out HD3.out).mono ?_
        rintro e w4 ⟨rfl, h4, k4⟩
        rw [hm] at h4
        have HS4 := Aside0.mk (HS3.out.keep k4 h4.any)
        have HD4 := Aside0.mk h4
        clear h4 k4 HS3 HD3 hm
        go_wp2_with fail
        refine (peek_sc HS.out HS4.out.kp.b HG.out HD4.out).mono ?_
        rintro e w5 ⟨rfl, h5, k5⟩
        have HS5 := Aside0.mk (HS4.out.keep k5 h5.any)
        have HD5 := Aside0.mk h5
        clear h5 k5 HS4 HD4
        by_cases x48 : chr src (c1 + 1) = 48
        · rw [if_pos x48] at hp1; cases hp1
        rw [if_neg x48] at hp1
        by_cases xd : 49 ≤ chr src (c1 + 1) ∧ chr src (c1 + 1) ≤ 57
        · rw [if_pos xd] at hp1
          have HP2 := Aside0.mk hp1
          have HXD := Aside0.mk xd
          have hc2 := chr_lt (src := src) (c := c1 + 1) (by omega)
          have hm : min (c1 + 1 + 1) src.length = c1 + 2 := by omega
          have b0 : (chr src (c1 + 1) == 48) = false := beq_eq_false_iff_ne.mpr x48
          clear hp1 x48 xd
          go_upto_if 72 with (fail)
          go_cut [72] from 73 to 81 (fun v wc => v = .bool true ∧ SeqU D w0 w wc g w.heap.size A src.length cap mh mt1 ps1 (c1 + 1) v1)
          case first =>
            clear hm hc2 HD5 HP2
            have hx := HXD.out
            have h9 : chr src (c1 + 1) = 49 ∨ chr src (c1 + 1) = 50 ∨ chr src (c1 + 1) = 51 ∨ chr src (c1 + 1) = 52 ∨ chr src (c1 + 1) = 53 ∨ chr src (c1 + 1) = 54 ∨ chr src (c1 + 1) = 55 ∨ chr src (c1 + 1) = 56 ∨ chr src (c1 + 1) = 57 := by omega
            clear hx HXD
            rcases h9 with h9 | h9 | h9 | h9 | h9 | h9 | h9 | h9 | h9
            · have x49 : (chr src (c1 + 1) == 49) = true := beq_iff_eq.mpr h9
              clear h9
              go_wp2
              go_meet
              case rel => exact ⟨by first | rfl | simp only [*], HS5.out⟩
            · have x49 : (chr src (c1 + 1) == 49) = false := by rw [h9]; rfl
              have x50 : (chr src (c1 + 1) == 50) = true := beq_iff_eq.mpr h9
              clear h9
              go_wp2
              go_meet
              case rel => exact ⟨by first | rfl | simp only [*], HS5.out⟩
            · have x49 : (chr src (c1 + 1) == 49) = false := by rw [h9]; rfl
              have x50 : (chr src (c1 + 1) == 50) = false := by rw [h9]; rfl
              have x51 : (chr src (c1 + 1) == 51) = true := beq_iff_eq.mpr h9
              clear h9
              go_wp2
              go_meet
              case rel => exact ⟨by first | rfl | simp only [*], HS5.out⟩
            · have x49 : (chr src (c1 + 1) == 49) = false := by rw [h9]; rfl
              have x50 : (chr src (c1 + 1) == 50) = false := by rw [h9]; rfl
              have x51 : (chr src (c1 + 1) == 51) = false := by rw [h9]; rfl
              have x52 : (chr src (c1 + 1) == 52) = true := beq_iff_eq.mpr h9
              clear h9
              go_wp2
              go_meet
              case rel => exact ⟨by first | rfl | simp only [*], HS5.out⟩
            · have x49 : (chr src (c1 + 1) == 49) = false := by rw [h9]; rfl
              have x50 : (chr src (c1 + 1) == 50) = false := by rw [h9]; rfl
              have x51 : (chr src (c1 + 1) == 51) = false := by rw [h9]; rfl
              have x52 : (chr src (c1 + 1) == 52) = false := by rw [h9]; rfl
              have x53 : (chr src (c1 + 1) == 53) = true := beq_iff_eq.mpr h9
              clear h9
              go_wp2
              go_meet
              case rel => exact ⟨by first | rfl | simp only [*], HS5.out⟩
            · have x49 : (chr src (c1 + 1) == 49) = false := by rw [h9]; rfl
              have x50 : (chr src (c1 + 1) == 50) = false := by rw [h9]; rfl
              have x51 : (chr src (c1 + 1) == 51) = false := by rw [h9]; rfl
              have x52 : (chr src (c1 + 1) == 52) = false := by rw [h9]; rfl
              have x53 : (chr src (c1 + 1) == 53) = false := by rw [h9]; rfl
              have x54 : (chr src (c1 + 1) == 54) = true := beq_iff_eq.mpr h9
              clear h9
              go_wp2
              go_meet
              case rel => exact ⟨by first | rfl | simp only [*], HS5.out⟩
            · have x49 : (chr src (c1 + 1) == 49) = false := by rw [h9]; rfl
              have x50 : (chr src (c1 + 1) == 50) = false := by rw [h9]; rfl
              have x51 : (chr src (c1 + 1) == 51) = false := by rw [h9]; rfl
              have x52 : (chr src (c1 + 1) == 52) = false := by rw [h9]; rfl
              have x53 : (chr src (c1 + 1) == 53) = false := by rw [h9]; rfl
              have x54 : (chr src (c1 + 1) == 54) = false := by rw [h9]; rfl
              have x55 : (chr src (c1 + 1) == 55) = true := beq_iff_eq.mpr h9
              clear h9
              go_wp2
              go_meet
              case rel => exact ⟨by first | rfl | simp only [*], HS5.out⟩
            · have x49 : (chr src (c1 + 1) == 49) = false := by rw [h9]; rfl
              have x50 : (chr src (c1 + 1) == 50) = false := by rw [h9]; rfl
              have x51 : (chr src (c1 + 1) == 51) = false := by rw [h9]; rfl
              have x52 : (chr src (c1 + 1) == 52) = false := by rw [h9]; rfl
              have x53 : (chr src (c1 + 1) == 53) = false := by rw [h9]; rfl
              have x54 : (chr src (c1 + 1) == 54) = false := by rw [h9]; rfl
              have x55 : (chr src (c1 + 1) == 55) = false := by rw [h9]; rfl
              have x56 : (chr src (c1 + 1) == 56) = true := beq_iff_eq.mpr h9
              clear h9
              go_wp2
              go_meet
              case rel => exact ⟨by first | rfl | simp only [*], HS5.out⟩
            · have x49 : (chr src (c1 + 1) == 49) = false := by rw [h9]; rfl
              have x50 : (chr src (c1 + 1) == 50) = false := by rw [h9]; rfl
              have x51 : (chr src (c1 + 1) == 51) = false := by rw [h9]; rfl
              have x52 : (chr src (c1 + 1) == 52) = false := by rw [h9]; rfl
              have x53 : (chr src (c1 + 1) == 53) = false := by rw [h9]; rfl
              have x54 : (chr src (c1 + 1) == 54) = false := by rw [h9]; rfl
              have x55 : (chr src (c1 + 1) == 55) = false := by rw [h9]; rfl
              have x56 : (chr src (c1 + 1) == 56) = false := by rw [h9]; rfl
              have x57 : (chr src (c1 + 1) == 57) = true := beq_iff_eq.mpr h9
              clear h9
              go_wp2
              go_meet
              case rel => exact ⟨by first | rfl | simp only [*], HS5.out⟩
          obtain ⟨rfl, hS6⟩ := hcut
          have HS6 := Aside0.mk hS6
          have hwr : IntKind.i64.wrap (chr src (c1 + 1) - 48) = chr src (c1 + 1) - 48 := IntWalk.i64_in _ (by have := HXD.out; omega)
          have HWR := Aside0.mk hwr
          clear hS6 HS5 HD5 b0 hc2 HXD hwr
          obtain ⟨va, vc, rfl⟩ := Kd.R_slice HS6.out.row
          have e1 : wc.cell? ⟨w.heap.size, 2, none⟩ = some (.slice va ps1.length vc) := blk_cell HS6.out.hv 2
          have HV := Aside0.mk HS6.out.hv
          have HM := Aside0.mk hm
          clear hm
          go_wp2_with fail
          go_region_law (first | (refine SeqU.append_num_step HS7.out hw0 (by omega) rfl (.tmp 86) (.tmp 93) rfl rfl rfl ?_; intro A4 n4 c4 w4 hS8 hc4 hf4; have HS8 := Aside0.mk hS8; clear hS8) | (go_simp; go_at_call 33; refine (next_sc HS.out HS6.out.drew.kp.b HG.out HS6.out.drew.sc).mono ?_; rintro e w7 ⟨rfl, s7, k7⟩; rw [HM.out] at s7; have HS7 := Aside0.mk (HS6.out.drew.keep k7 s7); have hk3 := (cell_keep (w := wc.drew) (i := 2) HV.out k7 HS6.out.ne rfl); have hk3a := fun (ob : Obj) => pw_cell_below (below_alloc (Below.refl w7.heap.size w7) ob) hk3; have hk3b := fun (ob ob' : Obj) => pw_cell_below (below_alloc (below_alloc (Below.refl w7.heap.size w7) ob) ob') hk3; clear s7 k7))
          all_goals
            go_wp2
            exact Handed.intro m (by omega) (hJ _ _ _ ⟨rfl, rfl, ⟨rfl, rfl, rfl⟩, ⟨_, _, _, _, by simp; omega, HP2.out, HWR.out ▸ HS8.out⟩⟩)
        rw [if_neg xd] at hp1
        by_cases x98 : chr src (c1 + 1) = 98
        · rw [if_pos x98] at hp1
          split at hp1
          · rename_i hn3
            have HP2 := Aside0.mk hp1
            have hm : min (c1 + 1 + 1) src.length = c1 + 2 := by omega
            have hm3 : min (c1 + 2 + 1) src.length = c1 + 3 := by omega
            have hm4 : min (c1 + 3 + 1) src.length = c1 + 4 := by omega
            have HM := Aside0.mk hm3
            have HM4 := Aside0.mk hm4
            clear hp1 x48 xd hm3 hm4
            have x48 : (chr src (c1 + 1) == 48) = false := by rw [x98]; rfl
            have x49 : (chr src (c1 + 1) == 49) = false := by rw [x98]; rfl
            have x50 : (chr src (c1 + 1) == 50) = false := by rw [x98]; rfl
            have x51 : (chr src (c1 + 1) == 51) = false := by rw [x98]; rfl
            have x52 : (chr src (c1 + 1) == 52) = false := by rw [x98]; rfl
            have x53 : (chr src (c1 + 1) == 53) = false := by rw [x98]; rfl
            have x54 : (chr src (c1 + 1) == 54) = false := by rw [x98]; rfl
            have x55 : (chr src (c1 + 1) == 55) = false := by rw [x98]; rfl
            have x56 : (chr src (c1 + 1) == 56) = false := by rw [x98]; rfl
            have x57 : (chr src (c1 + 1) == 57) = false := by rw [x98]; rfl
            have y98 : (chr src (c1 + 1) == 98) = true := beq_iff_eq.mpr x98
            clear x98 hn3
            go_wp2_with fail
            refine (next_sc HS.out HS5.out.kp.b HG.out HS5.out.sc).mono ?_
            rintro e w6 ⟨rfl, h6, k6⟩
            rw [hm] at h6
            have HS6 := Aside0.mk (HS5.out.keep k6 h6)
            clear h6 k6 hm HS5 HD5
            clear x48 x49 x50 x51 x52 x53 x54 x55 x56 x57 y98
            obtain ⟨va, vc, rfl⟩ := Kd.R_slice HS6.out.row
            have e1 : w6.cell? ⟨w.heap.size, 2, none⟩ = some (.slice va ps1.length vc) := blk_cell HS6.out.hv 2
            have HV := Aside0.mk HS6.out.hv
            go_wp2_with fail
            go_region_law (first | (refine SeqU.append_brace_step HS8.out hw0 (by omega) rfl (.tmp 105) (.tmp 113) rfl rfl rfl ?_; intro A4 n4 c4 w4 hS9 hc4 hf4; have HS9 := Aside0.mk hS9; clear hS9) | (go_simp; go_at_call 33; refine (next_sc HS.out HS7.out.kp.b HG.out HS7.out.sc).mono ?_; rintro e w8 ⟨rfl, s8, k8⟩; rw [HM4.out] at s8; have hk4 := (cell_keep (w := w7) (i := 2) HS7.out.hv k8 HS7.out.ne rfl); have HS8 := Aside0.mk (HS7.out.keep k8 s8); have hk4a := fun (ob : Obj) => pw_cell_below (below_alloc (Below.refl w8.heap.size w8) ob) hk4; have hk4b := fun (ob ob' : Obj) => pw_cell_below (below_alloc (below_alloc (Below.refl w8.heap.size w8) ob) ob') hk4; clear s8 k8) | (go_simp; go_at_call 33; refine (next_sc HS.out HS6.out.drew.kp.b HG.out HS6.out.drew.sc).mono ?_; rintro e w7 ⟨rfl, s7, k7⟩; rw [HM.out] at s7; have HS7 := Aside0.mk (HS6.out.drew.keep k7 s7); have hk3 := (cell_keep (w := w6.drew) (i := 2) HV.out k7 HS6.out.ne rfl); clear s7 k7))
            all_goals
              go_wp2
              exact Handed.intro m (by omega) (hJ _ _ _ ⟨rfl, rfl, ⟨rfl, rfl, rfl⟩, ⟨_, _, _, _, by simp; omega, HP2.out, HS9.out⟩⟩)
          · cases hp1
        rw [if_neg x98] at hp1
        obtain ⟨⟨cl, c2⟩, hpc, hp2⟩ := Option.bind_eq_some_iff.1 hp1
        have HPC := Aside0.mk hpc
        have HP2 := Aside0.mk hp2
        have hc12 := pcls_lt HPC.out
        have y48 : (chr src (c1 + 1) == 48) = false := beq_eq_false_iff_ne.mpr (by omega)
        have y49 : (chr src (c1 + 1) == 49) = false := beq_eq_false_iff_ne.mpr (by omega)
        have y50 : (chr src (c1 + 1) == 50) = false := beq_eq_false_iff_ne.mpr (by omega)
        have y51 : (chr src (c1 + 1) == 51) = false := beq_eq_false_iff_ne.mpr (by omega)
        have y52 : (chr src (c1 + 1) == 52) = false := beq_eq_false_iff_ne.mpr (by omega)
        have y53 : (chr src (c1 + 1) == 53) = false := beq_eq_false_iff_ne.mpr (by omega)
        have y54 : (chr src (c1 + 1) == 54) = false := beq_eq_false_iff_ne.mpr (by omega)
        have y55 : (chr src (c1 + 1) == 55) = false := beq_eq_false_iff_ne.mpr (by omega)
        have y56 : (chr src (c1 + 1) == 56) = false := beq_eq_false_iff_ne.mpr (by omega)
        have y57 : (chr src (c1 + 1) == 57) = false := beq_eq_false_iff_ne.mpr (by omega)
        have y98 : (chr src (c1 + 1) == 98) = false := beq_eq_false_iff_ne.mpr (by omega)
        clear hp1 hpc hp2 x48 xd x98
        go_wp2_with fail
        refine (restore_sc HS5.out.kp.b HG.out HD5.out).mono ?_
        rintro e w6 ⟨rfl, h6, k6⟩
        have HS6 := Aside0.mk (HS5.out.keep k6 h6)
        clear h6 k6 HS5 HD5
        clear y48 y49 y50 y51 y52 y53 y54 y55 y56 y57 y98
        obtain ⟨va, vc, rfl⟩ := Kd.R_slice HS6.out.row
        have e1 : w6.cell? ⟨w.heap.size, 2, none⟩ = some (.slice va ps1.length vc) := blk_cell HS6.out.hv 2
        have HV := Aside0.mk HS6.out.hv
        go_wp2_with fail
        go_region_law (first | (refine SeqU.append_one_step HS3.out hw0 (by omega) rfl (.tmp 56) (.tmp 62) rfl rfl rfl HS6.out.kp.k.1 k3l (blk_lt HS6.out.hv) (Kd.R_lt HS6.out.row) H3.out ?_; intro A4 n4 c4 w4 hS4 hc4 hf4; have HS4 := Aside0.mk hS4; clear hS4) | (go_simp; go_at_call 38; refine (parse_class HS.out HS6.out.drew.kp.b HG.out HS6.out.drew.sc HPC.out).mono ?_; rintro e w3 ⟨v3, rfl, h3, s3, k3⟩; obtain ⟨ty, x3, rfl⟩ := ClsAt.iface h3; have H3 := Aside0.mk h3; have k3l := k3.k.1; have HS3 := Aside0.mk (HS6.out.drew.keep k3 s3); have hk3 := (cell_keep (w := w6.drew) (i := 2) HV.out k3 HS6.out.ne rfl); have hk3a := fun (ob : Obj) => pw_cell_below (below_alloc (Below.refl w3.heap.size w3) ob) hk3; have hk3b := fun (ob ob' : Obj) => pw_cell_below (below_alloc (below_alloc (Below.refl w3.heap.size w3) ob) ob') hk3; clear h3 s3 k3))
        all_goals
          go_wp2
          exact Handed.intro m (by omega) (hJ _ _ _ ⟨rfl, rfl, ⟨rfl, rfl, rfl⟩, ⟨_, _, _, _, by simp; omega, HP2.out, HS4.out⟩⟩)
      rw [if_neg h37] at hp1
      by_cases h46 : chr src c1 = 46 ∨ chr src c1 = 91 ∨ chr src c1 = 93
      · rw [if_pos h46] at hp1
        obtain ⟨⟨cl, c2⟩, hpc, hp2⟩ := Option.bind_eq_some_iff.1 hp1
        have HPC := Aside0.mk hpc
        have HP2 := Aside0.mk hp2
        have hc12 := pcls_lt HPC.out
        clear hp1 hpc hp2 h37
        rcases h46 with h46 | h46 | h46
        all_goals
          rw [h46] at HPK
          clear h46
          go_wp2_with fail
          refine HPK.out.mono ?_
          rintro e w2 ⟨rfl, h2, k2⟩
          have HS2 := Aside0.mk (HS1.out.keep k2 h2)
          clear h2 k2 HS1 HPK
          obtain ⟨va, vc, rfl⟩ := Kd.R_slice HS2.out.row
          have e1 : w2.cell? ⟨w.heap.size, 2, none⟩ = some (.slice va ps1.length vc) := blk_cell HS2.out.hv 2
          have HV := Aside0.mk HS2.out.hv
          go_wp2_with fail
          go_region_law (first | (refine SeqU.append_one_step HS3.out hw0 (by omega) rfl (.tmp 125) (.tmp 131) rfl rfl rfl HS2.out.kp.k.1 k3l (blk_lt HS2.out.hv) (Kd.R_lt HS2.out.row) H3.out ?_; intro A4 n4 c4 w4 hS4 hc4 hf4; have HS4 := Aside0.mk hS4; clear hS4) | (go_simp; go_at_call 38; refine (parse_class HS.out HS2.out.drew.kp.b HG.out HS2.out.drew.sc HPC.out).mono ?_; rintro e w3 ⟨v3, rfl, h3, s3, k3⟩; obtain ⟨ty, x3, rfl⟩ := ClsAt.iface h3; have H3 := Aside0.mk h3; have k3l := k3.k.1; have HS3 := Aside0.mk (HS2.out.drew.keep k3 s3); have hk3 := (cell_keep (w := w2.drew) (i := 2) HV.out k3 HS2.out.ne rfl); have hk3a := fun (ob : Obj) => pw_cell_below (below_alloc (Below.refl w3.heap.size w3) ob) hk3; have hk3b := fun (ob ob' : Obj) => pw_cell_below (below_alloc (below_alloc (Below.refl w3.heap.size w3) ob) ob') hk3; clear h3 s3 k3))
          all_goals
            go_wp2
            exact Handed.intro m (by omega) (hJ _ _ _ ⟨rfl, rfl, ⟨rfl, rfl, rfl⟩, ⟨_, _, _, _, by simp; omega, HP2.out, HS4.out⟩⟩)
      rw [if_neg h46] at hp1
      by_cases h41 : chr src c1 = 41
      · rw [if_pos h41] at hp1
        split at hp1
        · cases hp1
        · rename_i htop
          obtain rfl : top = false := by simpa using htop
          simp only [Option.some.injEq, Prod.mk.injEq] at hp1
          obtain ⟨rfl, rfl, rfl⟩ := hp1
          rw [h41] at HPK
          clear h41 h37 h46
          go_wp2_with fail
          refine HPK.out.mono ?_
          rintro e w2 ⟨rfl, h2, k2⟩
          have HS2 := Aside0.mk (HS1.out.keep k2 h2)
          clear h2 k2 HS1 HPK
          go_wp2
          simp only [Exit.jump]
          go_ret
          exact ⟨_, rfl, HS2.out.seq, HS2.out.sc, HS2.out.kp⟩
      rw [if_neg h41] at hp1
      by_cases h40 : chr src c1 = 40
      · rw [if_pos h40] at hp1
        rw [h40] at HPK
        have hc1 := chr_lt (src := src) (c := c1) (by omega)
        have hm : min (c1 + 1) src.length = c1 + 1 := by omega
        clear h41 h37 h46 h40
        split at hp1
        · rename_i h41
          have HP2 := Aside0.mk hp1
          have hc2 := chr_lt (src := src) (c := c1 + 1) (by omega)
          have hm2 : min (c1 + 1 + 1) src.length = c1 + 2 := by omega
          clear hp1
          go_wp2_with fail
          refine HPK.out.mono ?_
          rintro e w2 ⟨rfl, h2, k2⟩
          have HS2 := Aside0.mk (HS1.out.keep k2 h2)
          clear h2 k2 HS1 HPK
          go_wp2_with fail
          refine (next_sc HS.out HS2.out.kp.b HG.out HS2.out.sc).mono ?_
          rintro e w3 ⟨rfl, h3, k3⟩
          rw [hm] at h3
          have HS3 := Aside0.mk (HS2.out.keep k3 h3)
          clear h3 k3 HS2
          have HPK3 := Aside0.mk (peek_sc HS.out HS3.out.kp.b HG.out HS3.out.sc)
          rw [h41] at HPK3
          clear h41
          go_wp2_with fail
          refine HPK3.out.mono ?_
          rintro e w4 ⟨rfl, h4, k4⟩
          have HS4 := Aside0.mk (HS3.out.keep k4 h4)
          clear h4 k4 HS3 HPK3
          go_wp2_with fail
          refine (next_sc HS.out HS4.out.kp.b HG.out HS4.out.sc).mono ?_
          rintro e w5 ⟨rfl, h5, k5⟩
          rw [hm2] at h5
          have HS5 := Aside0.mk (HS4.out.keep k5 h5)
          clear h5 k5 HS4 hm hm2
          obtain ⟨va, vc, rfl⟩ := Kd.R_slice HS5.out.row
          have e1 : w5.cell? ⟨w.heap.size, 2, none⟩ = some (.slice va ps1.length vc) := blk_cell HS5.out.hv 2
          go_wp2_with (at_builtin; refine SeqU.append_pos HS5.out hw0 (by omega) rfl (.tmp 156) (.tmp 160) rfl rfl rfl ?_; intro A7 n7 c7 w7 hS7 hc7 hf7; have HS7 := Aside0.mk hS7; clear hS7)
          exact Handed.intro m (by omega) (hJ _ _ _ ⟨rfl, rfl, ⟨rfl, rfl, rfl⟩, ⟨_, _, _, _, by simp; omega, HP2.out, HS7.out⟩⟩)
        · rename_i h41
          have b41 : (chr src (c1 + 1) == 41) = false := beq_eq_false_iff_ne.mpr h41
          obtain ⟨⟨ps2, c2⟩, hps, hp2⟩ := Option.bind_eq_some_iff.1 hp1
          split at hp2
          · rename_i h42
            have HPS := Aside0.mk hps
            have HP2 := Aside0.mk hp2
            have hc2 := chr_lt (src := src) (c := c2) (by simp only at h42; omega)
            have hc12 := pseq_le hps
            have H42 := Aside0.mk h42
            have hm2 : min (c2 + 1) src.length = c2 + 1 := by omega
            clear hp1 hp2 hps h41 h42
            go_wp2_with fail
            refine HPK.out.mono ?_
            rintro e w2 ⟨rfl, h2, k2⟩
            have HS2 := Aside0.mk (HS1.out.keep k2 h2)
            clear h2 k2 HS1 HPK
            go_wp2_with fail
            refine (next_sc HS.out HS2.out.kp.b HG.out HS2.out.sc).mono ?_
            rintro e w3 ⟨rfl, h3, k3⟩
            rw [hm] at h3
            have HS3 := Aside0.mk (HS2.out.keep k3 h3)
            clear h3 k3 HS2 hm
            go_wp2_with fail
            refine (peek_sc HS.out HS3.out.kp.b HG.out HS3.out.sc).mono ?_
            rintro e w4 ⟨rfl, h4, k4⟩
            have HS4 := Aside0.mk (HS3.out.keep k4 h4)
            clear h4 k4 HS3
            go_wp2_with fail
            refine (HNEST.out w4 (c1 + 1) ps2 c2 HPS.out HS4.out.kp.b HS4.out.sc).mono ?_
            rintro e w5 ⟨q5, rfl, hq5, h5, k5⟩
            have HS5 := Aside0.mk (HS4.out.keep k5 h5)
            have HQ5 := Aside0.mk hq5
            have hsz := k5.k.1
            clear h5 k5 hq5
            have HN5 := Aside0.mk (CapAt.mk' HS5.out HQ5.out HS4.out.kp.k.1 (blk_lt HS4.out.hv) (Kd.R_lt HS4.out.row) hsz HS4.out.sc.lt)
            clear HQ5 HS5 HS4 hsz
            have HPK5 := Aside0.mk (peek_sc HS.out HN5.out.s.kp.b HG.out HN5.out.s.sc)
            rw [H42.out] at HPK5
            go_wp2_with fail
            refine HPK5.out.mono ?_
            rintro e w6 ⟨rfl, h6, k6⟩
            have HN6 := Aside0.mk (HN5.out.keep k6 h6)
            clear h6 k6 HN5 HPK5 H42
            go_wp2_with fail
            refine (next_sc HS.out HN6.out.s.kp.b HG.out HN6.out.s.sc).mono ?_
            rintro e w7 ⟨rfl, h7, k7⟩
            rw [hm2] at h7
            have HN7 := Aside0.mk (HN6.out.keep k7 h7)
            clear h7 k7 HN6 hm2
            obtain ⟨va, vc, rfl⟩ := Kd.R_slice HN7.out.s.row
            have e1 : w7.cell? ⟨w.heap.size, 2, none⟩ = some (.slice va ps1.length vc) := blk_cell HN7.out.s.hv 2
            go_wp2_with (at_builtin; refine SeqU.append_cap HN7.out.s hw0 (by omega) rfl (.tmp 182) (.tmp 185) rfl rfl rfl HN7.out.hwb HN7.out.hq HN7.out.hvb HN7.out.bk HN7.out.at_ ?_; intro A8 n8 c8 w8 hS8 hc8 hf8; have HS8 := Aside0.mk hS8; clear hS8)
            exact Handed.intro m (by omega) (hJ _ _ _ ⟨rfl, rfl, ⟨rfl, rfl, rfl⟩, ⟨_, _, _, _, by simp; omega, HP2.out, HS8.out⟩⟩)
          · cases hp2
      rw [if_neg h40] at hp1
      by_cases h42 : chr src c1 = 42 ∨ chr src c1 = 43 ∨ chr src c1 = 45 ∨ chr src c1 = 63
      · rw [if_pos h42] at hp1
        split at hp1
        · rename_i cl hl
          obtain ⟨ps0, rfl⟩ := List.getLast?_eq_some_iff.1 hl
          rw [List.dropLast_concat] at hp1
          have HP2 := Aside0.mk hp1
          have hc1 := chr_lt (src := src) (c := c1) (by omega)
          have hm : min (c1 + 1) src.length = c1 + 1 := by omega
          clear hp1 hl
          have H42 := Aside0.mk h42
          simp only [not_or] at h46
          have b1 : (chr src c1 == 37) = false := beq_eq_false_iff_ne.mpr h37
          have b2 : (chr src c1 == 46) = false := beq_eq_false_iff_ne.mpr h46.1
          have b3 : (chr src c1 == 91) = false := beq_eq_false_iff_ne.mpr h46.2.1
          have b4 : (chr src c1 == 93) = false := beq_eq_false_iff_ne.mpr h46.2.2
          have b5 : (chr src c1 == 41) = false := beq_eq_false_iff_ne.mpr h41
          have b6 : (chr src c1 == 40) = false := beq_eq_false_iff_ne.mpr h40
          clear h42 h37 h46 h41 h40
          go_wp2_with fail
          refine HPK.out.mono ?_
          rintro e w2 ⟨rfl, h2, k2⟩
          have HS2 := Aside0.mk (HS1.out.keep k2 h2)
          clear h2 k2 HS1 HPK
          go_upto_if 189 with (fail)
          go_cut [189] from 190 to 193 (fun v wc => v = .bool true ∧ SeqU D w0 w wc g w.heap.size A src.length cap mh mt1 (ps0 ++ [.one cl]) c1 v1)
          case first =>
            rcases H42.out with h42 | h42 | h42 | h42
            · have b7 : (chr src c1 == 42) = true := beq_iff_eq.mpr h42
              clear h42 H42
              go_wp2
              go_meet
              case rel => exact ⟨by first | rfl | simp only [*], HS2.out⟩
            · have b7 : (chr src c1 == 42) = false := by rw [h42]; rfl
              have b8 : (chr src c1 == 43) = true := beq_iff_eq.mpr h42
              clear h42 H42
              go_wp2
              go_meet
              case rel => exact ⟨by first | rfl | simp only [*], HS2.out⟩
            · have b7 : (chr src c1 == 42) = false := by rw [h42]; rfl
              have b8 : (chr src c1 == 43) = false := by rw [h42]; rfl
              have b9 : (chr src c1 == 45) = true := beq_iff_eq.mpr h42
              clear h42 H42
              go_wp2
              go_meet
              case rel => exact ⟨by first | rfl | simp only [*], HS2.out⟩
            · have b7 : (chr src c1 == 42) = false := by rw [h42]; rfl
              have b8 : (chr src c1 == 43) = false := by rw [h42]; rfl
              have b9 : (chr src c1 == 45) = false := by rw [h42]; rfl
              have b10 : (chr src c1 == 63) = true := beq_iff_eq.mpr h42
              clear h42 H42
              go_wp2
              go_meet
              case rel => exact ⟨by first | rfl | simp only [*], HS2.out⟩
          clear b1 b2 b3 b4 b5 b6 HS2
          obtain ⟨rfl, hS2⟩ := hcut
          have HS2 := Aside0.mk hS2
          clear hS2
          go_wp2_with fail
          refine (next_sc HS.out HS2.out.kp.b HG.out HS2.out.sc).mono ?_
          rintro e w3 ⟨rfl, h3, k3⟩
          rw [hm] at h3
          have HS3 := Aside0.mk (HS2.out.keep k3 h3)
          clear h3 k3 HS2 hm
          obtain ⟨r, gp, vc, c5, rfl, hcap, hrl, hx5, hb5, hc5⟩ := HS3.out.last
          obtain ⟨tc, xc, rfl⟩ := ClsAt.iface hc5
          have e1 : w3.cell? ⟨w.heap.size, 2, none⟩ = some (.slice (some ⟨r, 0, none⟩) (ps0.length + 1) c5) := blk_cell HS3.out.hv 2
          have f1 := blk_frozen HS3.out.hv 2
          have hN : ps0.length ≤ 1000 := by simp at hal; omega
          have HB5 := Aside0.mk hb5
          have HC5 := Aside0.mk hc5
          clear hb5 hc5
          go_wp2_with fail
          have hwr : IntKind.i64.wrap (ps0.length : Int) = (ps0.length : Int) := IntWalk.i64_in _ (by omega)
          have hN0 : (0 : Int) ≤ (ps0.length : Int) := by omega
          have hNc : (ps0.length : Int) ≤ (c5 : Int) := by omega
          have hN1 : (ps0.length : Int) < (ps0.length : Int) + 1 := by omega
          have hta := Asserts.ta110 (.pointer (some ⟨gp, 0, none⟩))
          go_quiet (fail)
          clear hta
          go_wp2_with fail
          have HCUT := Aside0.mk (fun k : Nat => SeqCut.mk' (HS3.out.drewN k) hw0 hrl (HB5.out.step (w1 := w3.drewN k) (fun _ _ _ => rfl)) (HC5.out.step (w1 := w3.drewN k) (fun _ _ _ => rfl)))
          go_cut [] from 219 to 232 (fun wc => SeqCut D w0 w wc g w.heap.size A src.length cap mh mt1 ps0 (c1 + 1) r ps0.length c5 gp (.iface tc xc) cl)
          case first =>
            go_region_law (fail)
            all_goals
              go_wp2
              go_meet
              case rel => exact HCUT.out _
          have HC6 := Aside0.mk hcut
          clear hcut HCUT HB5 HC5 HS3 e1 f1 hx5 hwr hN1
          have e6 : wc.cell? ⟨w.heap.size, 2, none⟩ = some (.slice (some ⟨r, 0, none⟩) ps0.length c5) := blk_cell HC6.out.s.hv 2
          have g6 : wc.cell? ⟨gp, 0, none⟩ = some (.iface tc xc) := blk_cell HC6.out.bp.h 0
          have e6a := fun (ob : Obj) => pw_cell_below (below_alloc (Below.refl wc.heap.size wc) ob) e6
          have e6b := fun (ob ob' : Obj) => pw_cell_below (below_alloc (below_alloc (Below.refl wc.heap.size wc) ob) ob') e6
          go_wp2_with fail
          go_region_law (first | (refine SeqCut.append_rep_step (HC6.out.drew) hw0 hN rfl (.tmp 237) (.tmp 246) rfl rfl rfl ?_; intro A4 n4 c4 w4 hS4 hc4 hf4; have HS4 := Aside0.mk hS4; clear hS4))
          all_goals
            go_wp2
            exact Handed.intro m (by omega) (hJ _ _ _ ⟨rfl, rfl, ⟨rfl, rfl, rfl⟩, ⟨_, _, _, _, by simp at hal ⊢; omega, HP2.out, HS4.out⟩⟩)
        · cases hp1
      rw [if_neg h42] at hp1
      by_cases h36 : chr src c1 = 36
      · rw [if_pos h36] at hp1
        rw [h36] at HPK
        have hc1 := chr_lt (src := src) (c := c1) (by omega)
        have hm : min (c1 + 1) src.length = c1 + 1 := by omega
        clear h41 h37 h46 h40 h42 h36
        split at hp1
        · rename_i hT
          obtain ⟨rfl, hn1⟩ := hT
          have HP2 := Aside0.mk hp1
          have HN1 := Aside0.mk hn1
          have HM := Aside0.mk hm
          clear hp1 hn1 hm
          go_wp2_with fail
          refine HPK.out.mono ?_
          rintro e w2 ⟨rfl, h2, k2⟩
          have HS2 := Aside0.mk (HS1.out.keep k2 h2)
          clear h2 k2 HS1 HPK
          go_upto_region 61 with (fail)
          go_cut [281] from 268 to 281 (fun v wc => v = .bool true ∧ SeqU D w0 w wc g w.heap.size A src.length cap mh mt1 ps1 c1 v1)
          case first =>
            have HNP := Aside0.mk (nextpos_sc HS.out HS2.out.sc hc1)
            have HLN := Aside0.mk (fun k => length_sc (HS2.out.drewN k).sc)
            by_cases h1 : src.length = 1
            · have HNQ := Aside0.mk (fun k => nextpos_sc HS.out (HS2.out.drewN k).sc hc1)
              rw [if_pos h1] at HNP
              simp only [h1, if_true] at HLN HNQ
              clear h1 HN1 hc1
              go_wp2_with fail
              refine HNP.out.mono ?_
              rintro e w3 ⟨rfl, k3⟩
              obtain ⟨n3, rfl⟩ := k3
              go_wp2_with fail
              refine (HLN.out _).mono ?_
              rintro e w4 ⟨rfl, rfl⟩
              go_wp2_with fail
              refine (HNQ.out _).mono ?_
              rintro e w5 ⟨rfl, k5⟩
              obtain ⟨n5, rfl⟩ := k5
              go_wp2
              go_meet
              case rel => exact ⟨rfl, HS2.out.drewN _⟩
            · rw [if_neg h1] at HNP
              have h3 : ((c1 : Int) == (src.length : Int) - 1) = true := by have := HN1.out; exact beq_iff_eq.mpr (by omega)
              have h4 : IntKind.i64.wrap ((src.length : Int) - 1) = (src.length : Int) - 1 := IntWalk.i64_in _ (by omega)
              have H4 := Aside0.mk h4
              clear h1 HN1 hc1 h4
              go_wp2_with fail
              refine HNP.out.mono ?_
              rintro e w3 ⟨rfl, k3⟩
              obtain ⟨n3, rfl⟩ := k3
              go_wp2_with fail
              refine (HLN.out _).mono ?_
              rintro e w4 ⟨rfl, rfl⟩
              have h4 := H4.out
              go_wp2
              go_meet
              case rel => exact ⟨rfl, HS2.out.drewN _⟩
          obtain ⟨rfl, hS3⟩ := hcut
          have HS3 := Aside0.mk hS3
          clear hS3 HS2 hc1
          have e1 : wc.cell? ⟨w.heap.size, 1, none⟩ = some (.bool mt1) := blk_cell HS3.out.hv 1
          have f1 := blk_frozen HS3.out.hv 1
          have HS4 := Aside0.mk (HS3.out.tail hw0 true)
          clear HS3
          go_wp2_with fail
          refine (next_sc HS.out HS4.out.kp.b HG.out HS4.out.sc).mono ?_
          rintro e w5 ⟨rfl, h5, k5⟩
          rw [HM.out] at h5
          have HS5 := Aside0.mk (HS4.out.keep k5 h5)
          clear h5 k5 HS4
          go_wp2
          exact Handed.intro m (by omega) (hJ _ _ _ ⟨rfl, rfl, ⟨rfl, rfl, rfl⟩, ⟨_, _, _, _, by omega, HP2.out, HS5.out⟩⟩)
        · rename_i hT
          have HP2 := Aside0.mk hp1
          have HT := Aside0.mk hT
          have HM := Aside0.mk hm
          clear hp1 hT hm
          go_wp2_with fail
          refine HPK.out.mono ?_
          rintro e w2 ⟨rfl, h2, k2⟩
          have HS2 := Aside0.mk (HS1.out.keep k2 h2)
          clear h2 k2 HS1 HPK
          go_upto_region 61 with (fail)
          go_cut [281] from 268 to 281 (fun v wc => v = .bool false ∧ SeqU D w0 w wc g w.heap.size A src.length cap mh mt1 ps1 c1 v1)
          case first =>
            cases top with
            | false =>
              clear HT hc1
              go_wp2
              go_meet
              case rel => exact ⟨rfl, HS2.out⟩
            | true =>
              have hT2 : c1 + 1 ≠ src.length := fun e => HT.out ⟨rfl, e⟩
              have HNP := Aside0.mk (nextpos_sc HS.out HS2.out.sc hc1)
              have HLN := Aside0.mk (fun k => length_sc (HS2.out.drewN k).sc)
              have HNQ := Aside0.mk (fun k => nextpos_sc HS.out (HS2.out.drewN k).sc hc1)
              rw [if_neg (by omega)] at HNP
              simp only [if_neg (show ¬ src.length = 1 by omega)] at HNQ
              have h3 : ((c1 : Int) == (src.length : Int) - 1) = false := beq_eq_false_iff_ne.mpr (by omega)
              have h5 : ((c1 : Int) == -1) = false := beq_eq_false_iff_ne.mpr (by omega)
              have h4 : IntKind.i64.wrap ((src.length : Int) - 1) = (src.length : Int) - 1 := IntWalk.i64_in _ (by omega)
              have H4 := Aside0.mk h4
              clear hT2 HT hc1 h4
              go_wp2_with fail
              refine HNP.out.mono ?_
              rintro e w3 ⟨rfl, k3⟩
              obtain ⟨n3, rfl⟩ := k3
              go_wp2_with fail
              refine (HLN.out _).mono ?_
              rintro e w4 ⟨rfl, rfl⟩
              have h4 := H4.out
              go_wp2_with fail
              refine (HNQ.out _).mono ?_
              rintro e w5 ⟨rfl, k5⟩
              obtain ⟨n5, rfl⟩ := k5
              go_wp2
              go_meet
              case rel => exact ⟨rfl, HS2.out.drewN _⟩
          obtain ⟨rfl, hS3⟩ := hcut
          have HS3 := Aside0.mk hS3
          clear hS3 HS2 hc1
          obtain ⟨va, vc, rfl⟩ := Kd.R_slice HS3.out.row
          have e1 : wc.cell? ⟨w.heap.size, 2, none⟩ = some (.slice va ps1.length vc) := blk_cell HS3.out.hv 2
          go_wp2_with (at_builtin; refine SeqU.append_chr HS3.out hw0 (by omega) rfl (.tmp 289) (.tmp 297) rfl rfl rfl ?_; intro A7 n7 c7 w7 hS7 hc7 hf7; have HS7 := Aside0.mk hS7; clear hS7)
          go_wp2_with fail
          refine (next_sc HS.out HS7.out.kp.b HG.out HS7.out.sc).mono ?_
          rintro e w8 ⟨rfl, h8, k8⟩
          rw [HM.out] at h8
          have HS8 := Aside0.mk (HS7.out.keep k8 h8)
          clear h8 k8 HS7
          go_wp2
          exact Handed.intro m (by omega) (hJ _ _ _ ⟨rfl, rfl, ⟨rfl, rfl, rfl⟩, ⟨_, _, _, _, by simp; omega, HP2.out, HS8.out⟩⟩)
      rw [if_neg h36] at hp1
      by_cases hm1 : chr src c1 = -1
      · rw [if_pos hm1] at hp1
        split at hp1
        · rename_i htop
          subst htop
          simp only [Option.some.injEq, Prod.mk.injEq] at hp1
          obtain ⟨rfl, rfl, rfl⟩ := hp1
          have hcc : src.length ≤ c1 := by
            rcases Nat.lt_or_ge c1 src.length with h1 | h1
            · have := chr_ne HS.out h1; omega
            · exact h1
          rw [hm1] at HPK
          clear h41 h37 h46 h40 h42 h36 hm1
          go_wp2_with fail
          refine HPK.out.mono ?_
          rintro e w2 ⟨rfl, h2, k2⟩
          have HS2 := Aside0.mk (HS1.out.keep k2 h2)
          clear h2 k2 HS1 HPK
          go_wp2_with fail
          refine (next_sc HS.out HS2.out.kp.b HG.out HS2.out.sc).mono ?_
          rintro e w3 ⟨rfl, h3, k3⟩
          have hm : min (c1 + 1) src.length = c1 := by omega
          rw [hm] at h3
          have HS3 := Aside0.mk (HS2.out.keep k3 h3)
          clear h3 k3 hm HS2
          go_wp2
          go_step3
          exact ⟨rfl, ⟨rfl, rfl, rfl, _, HS3.out⟩⟩
        · cases hp1
      rw [if_neg hm1] at hp1
      have hc1 := chr_lt hm1
      simp only [not_or] at h46 h42
      have b1 : (chr src c1 == 37) = false := beq_eq_false_iff_ne.mpr h37
      have b2 : (chr src c1 == 46) = false := beq_eq_false_iff_ne.mpr h46.1
      have b3 : (chr src c1 == 91) = false := beq_eq_false_iff_ne.mpr h46.2.1
      have b4 : (chr src c1 == 93) = false := beq_eq_false_iff_ne.mpr h46.2.2
      have b5 : (chr src c1 == 41) = false := beq_eq_false_iff_ne.mpr h41
      have b6 : (chr src c1 == 40) = false := beq_eq_false_iff_ne.mpr h40
      have b7 : (chr src c1 == 42) = false := beq_eq_false_iff_ne.mpr h42.1
      have b8 : (chr src c1 == 43) = false := beq_eq_false_iff_ne.mpr h42.2.1
      have b9 : (chr src c1 == 45) = false := beq_eq_false_iff_ne.mpr h42.2.2.1
      have b10 : (chr src c1 == 63) = false := beq_eq_false_iff_ne.mpr h42.2.2.2
      have b11 : (chr src c1 == 36) = false := beq_eq_false_iff_ne.mpr h36
      have b12 : (chr src c1 == -1) = false := beq_eq_false_iff_ne.mpr hm1
      have HP1 := Aside0.mk hp1
      clear hp1 h37 h46 h41 h40 h42 h36 hm1
      go_wp2_with fail
      refine HPK.out.mono ?_
      rintro e w2 ⟨rfl, h2, k2⟩
      have HS2 := Aside0.mk (HS1.out.keep k2 h2)
      clear h2 k2 HS1 HPK
      go_wp2_with fail
      refine (next_sc HS.out HS2.out.kp.b HG.out HS2.out.sc).mono ?_
      rintro e w3 ⟨rfl, h3, k3⟩
      have hm : min (c1 + 1) src.length = c1 + 1 := by omega
      rw [hm] at h3
      have HS3 := Aside0.mk (HS2.out.keep k3 h3)
      clear h3 k3 hm HS2
      obtain ⟨va, vc, rfl⟩ := Kd.R_slice HS3.out.row
      have e1 : w3.cell? ⟨w.heap.size, 2, none⟩ = some (.slice va ps1.length vc) := blk_cell HS3.out.hv 2
      go_wp2_with (at_builtin; refine SeqU.append_chr HS3.out hw0 (by omega) rfl (.tmp 30) (.tmp 38) rfl rfl rfl ?_; intro A7 n7 c7 w7 hS7 hc7 hf7; have HS7 := Aside0.mk hS7; clear hS7)
      exact Handed.intro m (by omega) (hJ _ _ _ ⟨rfl, rfl, ⟨rfl, rfl, rfl⟩, ⟨_, _, _, _, by simp; omega, HP1.out, HS7.out⟩⟩)
  · intro a wf h
    obtain ⟨⟨u, rfl⟩, hw⟩ := h.open_
    clear h
    have HW := Aside0.mk hw
    clear hw
    go_wp2
    simp only [Exit.jump]
    go_ret
    obtain ⟨v, hS⟩ := HW.out
    exact ⟨_, rfl, hS.seq, hS.sc, hS.kp⟩
end
end Go.Proofs.YtpjfjfloeejgiaaFmt.Pat
/- parsePattern of package pm: for every pattern. -/
set_option linter.unusedVariables false
set_option linter.unusedSimpArgs false
namespace Go.Proofs.YtpjfjfloeejgiaaFmt.Pat
open Go.RowKit Go.Proofs.YtpjfjfloeejgiaaFmtW.PrintWords Go.Proofs.YtpjfjfloeejgiaaFmt.Scan Go.Proofs.YtpjfjfloeejgiaaFmt.Cls Go.Proofs.YtpjfjfloeejgiaaFmt.Ins

/-- What holds of the parts gathered stays true of them. -/
theorem ploop_all {P : Pat → Prop} {src : List Int} {top : Bool} {nest : Nat → Option (List Pat × Nat)}
    (hn : ∀ c r, nest c = some r → P (.cap r.1)) (h1 : ∀ c, P (.one c)) (h2 : ∀ t c, (t = 42 ∨ t = 43 ∨ t = 45 ∨ t = 63) → P (.rep t c)) (h3 : P .pos) (h4 : ∀ b e, P (.brace b e)) (h5 : ∀ n, P (.num n)) :
    ∀ {k c : Nat} {ps : List Pat} {mt : Bool} {r : List Pat × Bool × Nat}, ploop src top nest k c ps mt = some r → (∀ p ∈ ps, P p) → (∀ p ∈ r.1, P p) ∧ (top = false → r.2.1 = mt) := by
  intro k
  induction k with
  | zero => intro c ps mt r h; simp [ploop] at h
  | succ k ih =>
    intro c ps mt r h hp
    have snoc : ∀ {x : Pat}, P x → ∀ p ∈ ps ++ [x], P p := by
      intro x hx p hm
      rcases List.mem_append.1 hm with hm | hm
      · exact hp p hm
      · rw [List.mem_singleton.1 hm]; exact hx
    unfold ploop at h
    split at h
    · split at h
      · cases h
      · split at h
        · exact ih h (snoc (h5 _))
        · split at h
          · split at h
            · exact ih h (snoc (h4 _ _))
            · cases h
          · obtain ⟨x, _, hq⟩ := Option.bind_eq_some_iff.1 h
            exact ih hq (snoc (h1 _))
    · split at h
      · obtain ⟨x, _, hq⟩ := Option.bind_eq_some_iff.1 h
        exact ih hq (snoc (h1 _))
      · split at h
        · split at h
          · cases h
          · obtain rfl := Option.some.inj h; exact ⟨hp, fun _ => rfl⟩
        · split at h
          · split at h
            · exact ih h (snoc h3)
            · obtain ⟨x, hx, hq⟩ := Option.bind_eq_some_iff.1 h
              split at hq
              · exact ih hq (snoc (hn _ _ hx))
              · cases hq
          · split at h
            · rename_i ht
              split at h
              · rename_i cl hl
                refine ih h ?_
                intro p hm
                rcases List.mem_append.1 hm with hm | hm
                · exact hp p (List.dropLast_subset _ hm)
                · rw [List.mem_singleton.1 hm]; exact h2 _ _ ht
              · cases h
            · split at h
              · split at h
                · rename_i hT
                  have := ih h hp
                  exact ⟨this.1, fun ht => by rw [hT.1] at ht; cases ht⟩
                · exact ih h (snoc (h1 _))
              · split at h
                · split at h
                  · obtain rfl := Option.some.inj h; exact ⟨hp, fun _ => rfl⟩
                  · cases h
                · exact ih h (snoc (h1 _))
theorem okps_of : ∀ {ps : List Pat}, (∀ p ∈ ps, Ins.okp p) → okps ps
  | [], _ => trivial
  | p :: ps, h => ⟨h p (List.mem_cons_self ..), okps_of (fun q hq => h q (List.mem_cons_of_mem _ hq))⟩
theorem pseq_ok {src : List Int} : ∀ (D c : Nat) (r : List Pat × Nat), pseq src D c = some r → okps r.1 := by
  intro D
  induction D with
  | zero => intro c r h; simp [pseq] at h
  | succ D ih =>
    intro c r h
    obtain ⟨x, hx, rfl⟩ := Option.map_eq_some_iff.1 h
    refine okps_of (ploop_all (P := Ins.okp) (fun c r hr => ?_) (fun _ => trivial) (fun _ _ ht => ht) trivial (fun _ _ => trivial) (fun _ => trivial) hx (fun p hp => by cases hp)).1
    exact ih c r hr
theorem ploop_ok {src : List Int} {D k c : Nat} {top mt : Bool} {r : List Pat × Bool × Nat} (h : ploop src top (pseq src D) k c [] mt = some r) : okps r.1 := by
  refine okps_of (ploop_all (P := Ins.okp) (fun c r hr => ?_) (fun _ => trivial) (fun _ _ ht => ht) trivial (fun _ _ => trivial) (fun _ => trivial) h (fun p hp => by cases hp)).1
  exact pseq_ok D c r hr

section
variable {w0 : World} {g : Nat} {A : Option Addr} {cap : Nat} {src : List Int}
theorem nested_any (hs : Src w0 A src) (hg : w0.heap.size ≤ g) : ∀ D, Nested D w0 g A src cap := by
  intro D
  induction D with
  | zero => intro w c ps c' h; simp [pseq] at h
  | succ D ih =>
    intro w c ps c' h hB hsc
    obtain ⟨⟨ps1, mt1, c1⟩, hx, he⟩ := Option.map_eq_some_iff.1 h
    have hmt := (ploop_all (P := fun _ => True) (fun _ _ _ => trivial) (fun _ => trivial) (fun _ _ _ => trivial) trivial (fun _ _ => trivial) (fun _ => trivial) hx (fun _ _ => trivial)).2 rfl
    simp only [Prod.mk.injEq] at he
    obtain ⟨rfl, rfl⟩ := he
    simp only at hmt
    subst hmt
    exact seq_any hs hB hg hsc ih (.inr (.inr ⟨rfl, rfl, rfl⟩)) hx
/-- What a pattern is: its anchor at the head, its parts, its anchor at the end. -/
def ptop (src : List Int) : Option (List Pat × Bool × Nat) := ploop src true (pseq src (src.length + 2)) (src.length + 2) (if chr src 0 = 94 then 1 else 0) [] false
/-- parsePattern, as Find calls it. -/
theorem parse_top {w : World} {ps : List Pat} {mt : Bool} {c' : Nat} (hs : Src w0 A src) (hB : Below w0.heap.size w0 w) (hg : w0.heap.size ≤ g) (h : Sc w g A src.length cap 0 none) (hp : ptop src = some (ps, mt, c')) :
    Calls Tryf.prog 26 #[.pointer (some ⟨g, 0, none⟩), .bool true] w fun e w' => ∃ q, e = .returned (.pointer (some ⟨q, 0, none⟩)) ∧ SeqAt (patK (src.length + 2 + 1)) w' w.heap.size (fun _ => True) q (chr src 0 == 94) mt ps ∧ Sc w' g A src.length cap c' none ∧ Kp w0 w w' g := by
  unfold ptop at hp
  by_cases h94 : chr src 0 = 94
  · rw [if_pos h94] at hp
    rw [show (chr src 0 == 94) = true from beq_iff_eq.mpr h94]
    exact seq_any hs hB hg h (nested_any hs hg _) (.inl ⟨rfl, rfl, h94, rfl⟩) hp
  · rw [if_neg h94] at hp
    rw [show (chr src 0 == 94) = false from beq_eq_false_iff_ne.mpr h94]
    exact seq_any hs hB hg h (nested_any hs hg _) (.inr (.inl ⟨rfl, rfl, h94, rfl⟩)) hp
theorem ptop_ok {ps : List Pat} {mt : Bool} {c' : Nat} (hp : ptop src = some (ps, mt, c')) : okps ps := ploop_ok hp
end
end Go.Proofs.YtpjfjfloeejgiaaFmt.Pat
