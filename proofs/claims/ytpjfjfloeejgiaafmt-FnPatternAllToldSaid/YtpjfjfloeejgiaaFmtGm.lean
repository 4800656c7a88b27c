/- Joined texts of this seat: Rpt, Pfd, Fnu, Fsm. -/
import Derived.Test.YtpjfjfloeejgiaaFmtGl
import Derived.Test.YtpjfjfloeejgiaaFmtGc
import Derived.Test.YtpjfjfloeejgiaaFmtGh
import Derived.Test.YtpjfjfloeejgiaaFmtGj
/- ptMatcher.repeated of package spec: the walk; match at every item. -/
set_option linter.unusedVariables false
set_option linter.unusedSimpArgs false
namespace Go.Proofs.YtpjfjfloeejgiaaFmt.Rf
open Go.RowKit Go.Proofs.YtpjfjfloeejgiaaFmtW.PrintWords Go.Proofs.YtpjfjfloeejgiaaFmt.PFnPatternFirst
/-- At the head of the loop that counts. -/
def AtHas (A : Option Addr) (g i at_ l c q m : Nat) (R : World → Prop) (a : Act) (w : World) : Prop :=
  a.tmps.size = 74 ∧ a.defers = [] ∧ (a.tmps.getD 0 undef = .pointer (some ⟨g, 0, none⟩) ∧ a.tmps.getD 1 undef = .int .i64 (i : Int) ∧ a.tmps.getD 2 undef = .int .i64 (at_ : Int) ∧ a.tmps.getD 3 undef = .slice A l c ∧ a.tmps.getD 10 undef = .pointer (some ⟨q, 0, none⟩) ∧ a.tmps.getD 11 undef = .int .i64 0 ∧ a.tmps.getD 12 undef = .int .i64 (m : Int)) ∧ R w
set_option maxRecDepth 100000 in
theorem AtHas.open_ {A : Option Addr} {g i at_ l c q m : Nat} {R : World → Prop} {a : Act} {w : World} (h : AtHas A g i at_ l c q m R a w) : (∃ u : Nat → Value, a = ⟨#[.pointer (some ⟨g, 0, none⟩), .int .i64 (i : Int), .int .i64 (at_ : Int), .slice A l c, u 4, u 5, u 6, u 7, u 8, u 9, .pointer (some ⟨q, 0, none⟩), .int .i64 0, .int .i64 (m : Int), u 13, u 14, u 15, u 16, u 17, u 18, u 19, u 20, u 21, u 22, u 23, u 24, u 25, u 26, u 27, u 28, u 29, u 30, u 31, u 32, u 33, u 34, u 35, u 36, u 37, u 38, u 39, u 40, u 41, u 42, u 43, u 44, u 45, u 46, u 47, u 48, u 49, u 50, u 51, u 52, u 53, u 54, u 55, u 56, u 57, u 58, u 59, u 60, u 61, u 62, u 63, u 64, u 65, u 66, u 67, u 68, u 69, u 70, u 71, u 72, u 73], []⟩) ∧ R w := by
  obtain ⟨tmps, defers⟩ := a
  obtain ⟨hs, hd, ⟨h0, h1, h2, h3, h10, h11, h12⟩, hR⟩ := h
  refine ⟨⟨fun i => tmps.getD i undef, ?_⟩, hR⟩
  have hd' : defers = [] := hd
  subst hd'
  have k0 : tmps.getD 0 undef = .pointer (some ⟨g, 0, none⟩) := h0
  have k1 : tmps.getD 1 undef = .int .i64 (i : Int) := h1
  have k2 : tmps.getD 2 undef = .int .i64 (at_ : Int) := h2
  have k3 : tmps.getD 3 undef = .slice A l c := h3
  have k10 : tmps.getD 10 undef = .pointer (some ⟨q, 0, none⟩) := h10
  have k11 : tmps.getD 11 undef = .int .i64 0 := h11
  have k12 : tmps.getD 12 undef = .int .i64 (m : Int) := h12
  have h := frame_lit 74 tmps hs
  have h2 : ((List.range 74).map (fun i => tmps.getD i undef)).toArray = #[tmps.getD 0 undef, tmps.getD 1 undef, tmps.getD 2 undef, tmps.getD 3 undef, tmps.getD 4 undef, tmps.getD 5 undef, tmps.getD 6 undef, tmps.getD 7 undef, tmps.getD 8 undef, tmps.getD 9 undef, tmps.getD 10 undef, tmps.getD 11 undef, tmps.getD 12 undef, tmps.getD 13 undef, tmps.getD 14 undef, tmps.getD 15 undef, tmps.getD 16 undef, tmps.getD 17 undef, tmps.getD 18 undef, tmps.getD 19 undef, tmps.getD 20 undef, tmps.getD 21 undef, tmps.getD 22 undef, tmps.getD 23 undef, tmps.getD 24 undef, tmps.getD 25 undef, tmps.getD 26 undef, tmps.getD 27 undef, tmps.getD 28 undef, tmps.getD 29 undef, tmps.getD 30 undef, tmps.getD 31 undef, tmps.getD 32 undef, tmps.getD 33 undef, tmps.getD 34 undef, tmps.getD 35 undef, tmps.getD 36 undef, tmps.getD 37 undef, tmps.getD 38 undef, tmps.getD 39 undef, tmps.getD 40 undef, tmps.getD 41 undef, tmps.getD 42 undef, tmps.getD 43 undef, tmps.getD 44 undef, tmps.getD 45 undef, tmps.getD 46 undef, tmps.getD 47 undef, tmps.getD 48 undef, tmps.getD 49 undef, tmps.getD 50 undef, tmps.getD 51 undef, tmps.getD 52 undef, tmps.getD 53 undef, tmps.getD 54 undef, tmps.getD 55 undef, tmps.getD 56 undef, tmps.getD 57 undef, tmps.getD 58 undef, tmps.getD 59 undef, tmps.getD 60 undef, tmps.getD 61 undef, tmps.getD 62 undef, tmps.getD 63 undef, tmps.getD 64 undef, tmps.getD 65 undef, tmps.getD 66 undef, tmps.getD 67 undef, tmps.getD 68 undef, tmps.getD 69 undef, tmps.getD 70 undef, tmps.getD 71 undef, tmps.getD 72 undef, tmps.getD 73 undef] := rfl
  rw [h2] at h
  rw [k0, k1, k2, k3, k10, k11, k12] at h
  exact congrArg (fun t => Act.mk t _) h
/-- At the head of the loop that tries. -/
def AtTry (A : Option Addr) (g i at_ l c q m e kk : Nat) (R : World → Prop) (a : Act) (w : World) : Prop :=
  a.tmps.size = 74 ∧ a.defers = [] ∧ (a.tmps.getD 0 undef = .pointer (some ⟨g, 0, none⟩) ∧ a.tmps.getD 1 undef = .int .i64 (i : Int) ∧ a.tmps.getD 2 undef = .int .i64 (at_ : Int) ∧ a.tmps.getD 3 undef = .slice A l c ∧ a.tmps.getD 10 undef = .pointer (some ⟨q, 0, none⟩) ∧ a.tmps.getD 11 undef = .int .i64 (e : Int) ∧ a.tmps.getD 12 undef = .int .i64 (m : Int) ∧ a.tmps.getD 13 undef = .int .i64 (kk : Int)) ∧ R w
set_option maxRecDepth 100000 in
theorem AtTry.open_ {A : Option Addr} {g i at_ l c q m e kk : Nat} {R : World → Prop} {a : Act} {w : World} (h : AtTry A g i at_ l c q m e kk R a w) : (∃ u : Nat → Value, a = ⟨#[.pointer (some ⟨g, 0, none⟩), .int .i64 (i : Int), .int .i64 (at_ : Int), .slice A l c, u 4, u 5, u 6, u 7, u 8, u 9, .pointer (some ⟨q, 0, none⟩), .int .i64 (e : Int), .int .i64 (m : Int), .int .i64 (kk : Int), u 14, u 15, u 16, u 17, u 18, u 19, u 20, u 21, u 22, u 23, u 24, u 25, u 26, u 27, u 28, u 29, u 30, u 31, u 32, u 33, u 34, u 35, u 36, u 37, u 38, u 39, u 40, u 41, u 42, u 43, u 44, u 45, u 46, u 47, u 48, u 49, u 50, u 51, u 52, u 53, u 54, u 55, u 56, u 57, u 58, u 59, u 60, u 61, u 62, u 63, u 64, u 65, u 66, u 67, u 68, u 69, u 70, u 71, u 72, u 73], []⟩) ∧ R w := by
  obtain ⟨tmps, defers⟩ := a
  obtain ⟨hs, hd, ⟨h0, h1, h2, h3, h10, h11, h12, h13⟩, hR⟩ := h
  refine ⟨⟨fun i => tmps.getD i undef, ?_⟩, hR⟩
  have hd' : defers = [] := hd
  subst hd'
  have k0 : tmps.getD 0 undef = .pointer (some ⟨g, 0, none⟩) := h0
  have k1 : tmps.getD 1 undef = .int .i64 (i : Int) := h1
  have k2 : tmps.getD 2 undef = .int .i64 (at_ : Int) := h2
  have k3 : tmps.getD 3 undef = .slice A l c := h3
  have k10 : tmps.getD 10 undef = .pointer (some ⟨q, 0, none⟩) := h10
  have k11 : tmps.getD 11 undef = .int .i64 (e : Int) := h11
  have k12 : tmps.getD 12 undef = .int .i64 (m : Int) := h12
  have k13 : tmps.getD 13 undef = .int .i64 (kk : Int) := h13
  have h := frame_lit 74 tmps hs
  have h2 : ((List.range 74).map (fun i => tmps.getD i undef)).toArray = #[tmps.getD 0 undef, tmps.getD 1 undef, tmps.getD 2 undef, tmps.getD 3 undef, tmps.getD 4 undef, tmps.getD 5 undef, tmps.getD 6 undef, tmps.getD 7 undef, tmps.getD 8 undef, tmps.getD 9 undef, tmps.getD 10 undef, tmps.getD 11 undef, tmps.getD 12 undef, tmps.getD 13 undef, tmps.getD 14 undef, tmps.getD 15 undef, tmps.getD 16 undef, tmps.getD 17 undef, tmps.getD 18 undef, tmps.getD 19 undef, tmps.getD 20 undef, tmps.getD 21 undef, tmps.getD 22 undef, tmps.getD 23 undef, tmps.getD 24 undef, tmps.getD 25 undef, tmps.getD 26 undef, tmps.getD 27 undef, tmps.getD 28 undef, tmps.getD 29 undef, tmps.getD 30 undef, tmps.getD 31 undef, tmps.getD 32 undef, tmps.getD 33 undef, tmps.getD 34 undef, tmps.getD 35 undef, tmps.getD 36 undef, tmps.getD 37 undef, tmps.getD 38 undef, tmps.getD 39 undef, tmps.getD 40 undef, tmps.getD 41 undef, tmps.getD 42 undef, tmps.getD 43 undef, tmps.getD 44 undef, tmps.getD 45 undef, tmps.getD 46 undef, tmps.getD 47 undef, tmps.getD 48 undef, tmps.getD 49 undef, tmps.getD 50 undef, tmps.getD 51 undef, tmps.getD 52 undef, tmps.getD 53 undef, tmps.getD 54 undef, tmps.getD 55 undef, tmps.getD 56 undef, tmps.getD 57 undef, tmps.getD 58 undef, tmps.getD 59 undef, tmps.getD 60 undef, tmps.getD 61 undef, tmps.getD 62 undef, tmps.getD 63 undef, tmps.getD 64 undef, tmps.getD 65 undef, tmps.getD 66 undef, tmps.getD 67 undef, tmps.getD 68 undef, tmps.getD 69 undef, tmps.getD 70 undef, tmps.getD 71 undef, tmps.getD 72 undef, tmps.getD 73 undef] := rfl
  rw [h2] at h
  rw [k0, k1, k2, k3, k10, k11, k12, k13] at h
  exact congrArg (fun t => Act.mk t _) h
section
variable {W wr w1 : World} {g : Nat} {s : ByteArray} {items : List S147} {left : Int}
set_option maxHeartbeats 40000000 in
set_option maxRecDepth 100000 in
theorem rep_step {i : Nat} (hs : s.size ≤ 1000) (hB : isB s = true) (hit : ∀ x ∈ items, ItOk x) (hil : items.length ≤ 100) (hlt : i < items.length) (hk1 : (items[i]).f0 = 1)
    (ih : MtC 31 (-1000000) (mt (bytesOf s)) W g s items (i + 1)) :
    MtC 52 0 (fun l a cs left => match l with | [] => none | x :: rest => tries (fun c l => mt (bytesOf s) rest (a + c) cs l) (counts x.f2 (run (bytesOf s) x.f1 (s.size + 1 - a) a)) left) W g s items i := by
  intro w0 at_ A c caps left res left' h hc ha hok hl0 hl1 hv
  obtain ⟨B, cB, hb, hC⟩ := h.open_
  have e1 : w0.cell? ⟨g, 1, none⟩ = some (.slice B items.length cB) := blk_cell hb 1
  have hltI : (i : Int) < (items.length : Int) := by omega
  obtain ⟨ad, A1, d1, hBB, y0, y1, y2, y3, y4, y5, y6, y7⟩ := at_T147 hC (i : Int) (by omega) hltI
  have hxe : rd_T147 items (i : Int) = items[i] := by simp [rd_T147, List.getD_eq_getElem?_getD, hlt]
  have hdrop : items.drop i = items[i] :: items.drop (i + 1) := List.drop_eq_getElem_cons hlt
  have hxo := hit items[i] (List.getElem_mem hlt)

  rw [hxe] at y0 y1 y2 y3 y4 y5 y6 y7
  rw [hdrop] at hv
  simp only at hv
  generalize hxx : items[i] = x at *
  subst hBB
  simp only [Int.toNat_natCast] at y0 y1 y2 y3 y4 y5
  have z0 := pw_cell_below h.b y0
  have z1 := pw_cell_below h.b y1
  have z2 := pw_cell_below h.b y2
  have z3 := pw_cell_below h.b y3
  have z4 := pw_cell_below h.b y4
  have z5 := pw_cell_below h.b y5
  have HY6 := Aside0.mk y6
  have HY7 := Aside0.mk y7
  have HM := Aside0.mk h
  have HC := Aside0.mk hc
  have HV := Aside0.mk hv
  have HOK := Aside0.mk hok
  have HIH := Aside0.mk ih
  have HL := Aside0.mk (hxo.s hk1)
  have HISB := Aside0.mk hB
  clear h hc hv hok ih hxo hk1 hxe hdrop y0 y1 y2 y3 y4 y5 y6 y7 hit hxx hb hC hB
  go_enter Tryf.func52, Tryf.ntmps52
  go_wp2_with fail
  have hbx := blk_new w0 (.cells #[.int .i64 x.f0, .slice A1 x.f1.length d1, .int .u8 x.f2, .int .i64 x.f3, .int .u8 x.f4, .int .u8 x.f5] 147)
  have hbw := below_alloc (Below.refl w0.heap.size w0) (.cells #[.int .i64 x.f0, .slice A1 x.f1.length d1, .int .u8 x.f2, .int .i64 x.f3, .int .u8 x.f4, .int .u8 x.f5] 147)
  generalize w0.alloc (.cells #[.int .i64 x.f0, .slice A1 x.f1.length d1, .int .u8 x.f2, .int .i64 x.f3, .int .u8 x.f4, .int .u8 x.f5] 147) = wx at *
  have HK := Aside0.mk (KeepBut.of_below hbw g none)
  have HM2 := Aside0.mk (HM.out.below hbw)
  have HC2 := Aside0.mk (HC.out.keep (KeepBut.of_below hbw g none))
  have HBX := Aside0.mk hbx
  have HGW := Aside0.mk (show w0.heap.size ≠ g by have := HM.out.lt; omega)
  obtain ⟨M, hM⟩ : ∃ M, run (bytesOf s) x.f1 (s.size + 1 - at_) at_ = M := ⟨_, rfl⟩
  have hv := HV.out
  rw [hM] at hv
  have HV2 := Aside0.mk hv
  have hbs : (bytesOf s).length = s.size := bytesOf_length s
  have hMle : at_ + M ≤ s.size := by rw [← hM, ← hbs]; exact run_le _ _ _ _ (by omega)
  clear z0 z1 z2 z3 z4 z5 hbx hbw e1 HM HC HV hv
  refine wp_loop_ghost_k (fun k a wr => ∃ (m : Nat), at_ + m + k = s.size ∧ m + run (bytesOf s) x.f1 (s.size + 1 - (at_ + m)) (at_ + m) = M ∧ AtHas A g i at_ caps.length c w0.heap.size m (fun wr => MtU W wr g s items left ∧ KeepBut wx wr g none) a wr) (s.size - at_)
    ⟨0, by omega, by simpa using hM, rfl, rfl, ⟨rfl, rfl, rfl, rfl, rfl, rfl, rfl⟩, HM2.out, KeepBut.refl wx g none⟩ ?_
  intro gk a wr hI J K hJ hK
  obtain ⟨m, hmk, hrun, hI⟩ := hI
  obtain ⟨⟨u, rfl⟩, hm1, hk1⟩ := hI.open_
  have hq := hk1.blk HBX.out HGW.out (by simp)
  have g0 := blk_cell hq 0
  have g1 := blk_cell hq 1
  have g2 := blk_cell hq 2
  have g3 := blk_cell hq 3
  have g4 := blk_cell hq 4
  have g5 := blk_cell hq 5
  have qs : IntKind.i64.wrap ((at_ : Int) + (m : Int)) = ((at_ + m : Nat) : Int) := by rw [IntWalk.i64_in _ (by omega)]; omega
  have hhas := has_calls (x := x) (at_ := at_ + m) hm1 HISB.out HL.out (Kd.C_below HY7.out hm1.b) HY6.out (fun ad he hp => by
    subst he
    have h1 := Kd.C_lt HY7.out hp (by decide)
    have h2 := hm1.i.ge
    omega)
  have HK1 := Aside0.mk hk1
  clear hI hm1 hk1 hq hM
  by_cases hcnd : at_ + m < s.size ∧ x.f1.getD (bt s ((at_ + m : Nat) : Int)).toNat false = true
  · rw [decide_eq_true hcnd] at hhas
    have HH := Aside0.mk hhas
    have q1 : IntKind.i64.wrap ((m : Int) + 1) = (m : Int) + 1 := IntWalk.i64_in _ (by omega)
    have hr2 : m + 1 + run (bytesOf s) x.f1 (s.size + 1 - (at_ + (m + 1))) (at_ + (m + 1)) = M := by
      rw [← hrun, show s.size + 1 - (at_ + m) = (s.size + 1 - (at_ + (m + 1))) + 1 by omega]
      simp only [run]
      rw [if_pos (by rw [hbs, rd_bytesOf]; exact hcnd), show at_ + (m + 1) = at_ + m + 1 by omega]
      omega
    have HR2 := Aside0.mk hr2
    have hgk : 0 < gk := by omega
    clear hhas hcnd hrun hr2
    go_wp2_with fail
    refine HH.out.mono ?_
    rintro e w3 ⟨he, hm3, hk3⟩
    subst he
    have HM3 := Aside0.mk hm3
    have HK3 := Aside0.mk (HK1.out.trans hk3 (.inl rfl))
    clear hm3 hk3 HH HK1
    go_wp2_with fail
    exact Handed.intro (gk - 1) (by omega) (hJ _ _ _ ⟨m + 1, by omega, HR2.out, rfl, rfl, ⟨rfl, rfl, rfl, rfl, rfl, rfl, congrArg (Value.int .i64) (Int.natCast_succ m).symm⟩, HM3.out, HK3.out⟩)
  rw [decide_eq_false hcnd] at hhas
  have HH := Aside0.mk hhas
  have hm : m = M := by
    have h0 : run (bytesOf s) x.f1 (s.size + 1 - (at_ + m)) (at_ + m) = 0 := by
      rw [show s.size + 1 - (at_ + m) = (s.size - (at_ + m)) + 1 by omega]
      simp only [run]
      rw [if_neg (by rw [hbs, rd_bytesOf]; exact hcnd)]
    omega
  subst hm
  clear hhas hcnd hrun
  go_wp2_with fail
  refine HH.out.mono ?_
  rintro e w3 ⟨he, hm3, hk3⟩
  subst he
  clear g0 g1 g2 g3 g4 g5
  have hk4 := HK1.out.trans hk3 (.inl rfl)
  have hq := hk4.blk HBX.out HGW.out (by simp)
  have g2 := blk_cell hq 2
  have HM3 := Aside0.mk hm3
  have HK4 := Aside0.mk hk4
  clear hm3 hk3 hk4 hq HH HK1
  go_upto_block 2 with (fail)
  go_cut [11, 12] from 34 to 44 (fun v11 v12 wc => v11 = .int .i64 ((Rf.least x.f2 : Nat) : Int) ∧ v12 = .int .i64 ((Rf.most x.f2 m : Nat) : Int) ∧ wc = w3)
  case first =>
    have HL1 := Aside0.mk (show Rf.least x.f2 = if x.f2 = 32 ∨ x.f2 = 43 then 1 else 0 from rfl)
    have HM1 := Aside0.mk (show Rf.most x.f2 m = if x.f2 = 32 ∨ x.f2 = 63 then min m 1 else m from rfl)
    by_cases h32 : x.f2 = 32
    · have b32 : (x.f2 == 32) = true := beq_iff_eq.mpr h32
      have hl := HL1.out
      have hmo := HM1.out
      rw [if_pos (.inl h32)] at hl hmo
      have HLL := Aside0.mk hl
      have HMO := Aside0.mk hmo
      clear hl hmo h32 HL1 HM1
      go_wp2
      all_goals (go_meet; (case rel => exact ⟨by rw [HLL.out]; rfl, by rw [HMO.out]; exact congrArg (Value.int .i64) (by omega), rfl⟩))
    by_cases h63 : x.f2 = 63
    · have b32 : (x.f2 == 32) = false := beq_eq_false_iff_ne.mpr h32
      have b63 : (x.f2 == 63) = true := beq_iff_eq.mpr h63
      have hl := HL1.out
      have hmo := HM1.out
      rw [if_neg (by omega)] at hl
      rw [if_pos (.inr h63)] at hmo
      have HLL := Aside0.mk hl
      have HMO := Aside0.mk hmo
      clear hl hmo h32 h63 HL1 HM1
      go_wp2
      all_goals (go_meet; (case rel => exact ⟨by rw [HLL.out]; rfl, by rw [HMO.out]; exact congrArg (Value.int .i64) (by omega), rfl⟩))
    by_cases h43 : x.f2 = 43
    · have b32 : (x.f2 == 32) = false := beq_eq_false_iff_ne.mpr h32
      have b63 : (x.f2 == 63) = false := beq_eq_false_iff_ne.mpr h63
      have b43 : (x.f2 == 43) = true := beq_iff_eq.mpr h43
      have hl := HL1.out
      have hmo := HM1.out
      rw [if_pos (.inr h43)] at hl
      rw [if_neg (by omega)] at hmo
      have HLL := Aside0.mk hl
      have HMO := Aside0.mk hmo
      clear hl hmo h32 h63 h43 HL1 HM1
      go_wp2
      go_meet
      case rel => exact ⟨by rw [HLL.out] <;> rfl, by rw [HMO.out] <;> rfl, rfl⟩
    · have b32 : (x.f2 == 32) = false := beq_eq_false_iff_ne.mpr h32
      have b63 : (x.f2 == 63) = false := beq_eq_false_iff_ne.mpr h63
      have b43 : (x.f2 == 43) = false := beq_eq_false_iff_ne.mpr h43
      have hl := HL1.out
      have hmo := HM1.out
      rw [if_neg (by omega)] at hl hmo
      have HLL := Aside0.mk hl
      have HMO := Aside0.mk hmo
      clear hl hmo h32 h63 h43 HL1 HM1
      go_wp2
      go_meet
      case rel => exact ⟨by rw [HLL.out] <;> rfl, by rw [HMO.out] <;> rfl, rfl⟩
  obtain ⟨rfl, rfl, rfl⟩ := hcut
  obtain ⟨e, he⟩ : ∃ e, Rf.least x.f2 = e := ⟨_, rfl⟩
  obtain ⟨mm, hmm⟩ : ∃ e, Rf.most x.f2 m = e := ⟨_, rfl⟩
  rw [he, hmm]
  have he1 : e ≤ 1 := by rw [← he]; unfold Rf.least; split <;> omega
  have hm1 : mm ≤ m := by rw [← hmm]; unfold Rf.most; split <;> omega
  have hem : e ≤ mm + 1 := by omega
  have HCNT := Aside0.mk (show counts x.f2 m = (List.range (mm + 1 - e)).map (fun j => if x.f2 = 45 then e + j else mm - j) by rw [← he, ← hmm]; rfl)
  have HV3 := Aside0.mk (show tries (fun c l => mt (bytesOf s) (items.drop (i + 1)) (at_ + c) caps l) ((counts x.f2 m).drop 0) left = some (res, left') from HV2.out)
  have hrl : (items.drop (i + 1)).length ≤ 100 := by rw [List.length_drop]; omega
  clear g2 he hmm HV2
  go_wp2_with fail
  refine wp_loop_ghost_k (fun k a wr => ∃ (j : Nat) (l : Int), j + k = mm + 1 - e ∧ tries (fun c l => mt (bytesOf s) (items.drop (i + 1)) (at_ + c) caps l) ((counts x.f2 m).drop j) l = some (res, left') ∧ -200000 - (j : Int) ≤ l ∧ l ≤ left ∧ AtTry A g i at_ caps.length c w0.heap.size mm e (e + j) (fun wr => MtU W wr g s items l ∧ KeepBut wx wr g none) a wr) (mm + 1 - e)
    ⟨0, left, by omega, HV3.out, by omega, Int.le_refl _, rfl, rfl, ⟨rfl, rfl, rfl, rfl, rfl, rfl, rfl, rfl⟩, HM3.out, HK4.out⟩ ?_
  clear HM3 HK4 HV3
  intro gk2 a2 wr2 hI J2 K2 hJ2 hK2
  obtain ⟨j, l, hjk, htr, hlo, hhi, hI⟩ := hI
  obtain ⟨⟨u2, rfl⟩, hm5, hk5⟩ := hI.open_
  have hq := hk5.blk HBX.out HGW.out (by simp)
  have g2 := blk_cell hq 2
  have M2 := Aside0.mk (HK.out.trans hk5 (.inl rfl))
  clear hI hq
  cases gk2 with
  | zero =>
    have hnl : ¬ ((e + j : Nat) : Int) ≤ (mm : Int) := by omega
    have hdr : (counts x.f2 m).drop j = [] := by rw [HCNT.out]; apply List.drop_eq_nil_of_le; simp; omega
    rw [hdr] at htr
    simp only [tries] at htr
    obtain ⟨rfl, rfl⟩ : (none : Option (Nat × List S74)) = res ∧ l = left' := by simpa using htr
    have M1 := Aside0.mk hm5
    clear htr hdr hk5 hm5
    go_wp2_with fail
    go_ret2
    exact ⟨M1.out, M2.out, rfl⟩
  | succ gk2 =>
    have hle : ((e + j : Nat) : Int) ≤ (mm : Int) := by omega
    obtain ⟨cj, hcj⟩ : ∃ cj, (if x.f2 = 45 then e + j else mm - j) = cj := ⟨_, rfl⟩
    have hcm : cj ≤ mm := by rw [← hcj]; split <;> omega
    have hg : (counts x.f2 m)[j]? = some cj := by rw [HCNT.out, List.getElem?_map, List.getElem?_range (by omega), Option.map_some, hcj]
    obtain ⟨hg1, hg2⟩ := List.getElem?_eq_some_iff.1 hg
    rw [List.drop_eq_getElem_cons hg1, hg2] at htr
    simp only [tries] at htr
    cases hmt : mt (bytesOf s) (items.drop (i + 1)) (at_ + cj) caps l with
    | none => rw [hmt] at htr; cases htr
    | some y =>
    obtain ⟨r1, l1⟩ := y
    rw [hmt] at htr
    have hl1 : l1 ≤ l - 1 := (mt_den _ _ _ _ _ _ _ hmt).1
    have hl2 : -200000 - ((j + 1 : Nat) : Int) ≤ l1 := by
      by_cases h0 : 0 < l
      · have := mt_low (bytesOf s) (by omega) _ _ _ _ _ _ (by omega) hmt h0
        omega
      · rw [mt_neg _ _ _ _ _ (by omega)] at hmt
        simp only [Option.some.injEq, Prod.mk.injEq] at hmt
        omega
    have hcall := HIH.out wr2 (at_ + cj) A c caps l r1 l1 hm5 (HC2.out.keep hk5) (by omega) HOK.out (by omega) (by omega) hmt
    have hi1 : ((i + 1 : Nat) : Int) = (i : Int) + 1 := by omega
    rw [hi1] at hcall
    have HCALL := Aside0.mk hcall
    have HTR := Aside0.mk htr
    have HK5 := Aside0.mk hk5
    have hcjb : (x.f2 = 45 ∧ cj = e + j) ∨ (x.f2 ≠ 45 ∧ cj = mm - j) := by
      by_cases h45 : x.f2 = 45
      · rw [if_pos h45] at hcj; exact .inl ⟨h45, hcj.symm⟩
      · rw [if_neg h45] at hcj; exact .inr ⟨h45, hcj.symm⟩
    have qa : IntKind.i64.wrap (((e + j : Nat) : Int) - (e : Int)) = (j : Int) := by rw [IntWalk.i64_in _ (by omega)]; omega
    have qb : IntKind.i64.wrap ((mm : Int) - (j : Int)) = ((mm - j : Nat) : Int) := by rw [IntWalk.i64_in _ (by omega)]; omega
    have qc : IntKind.i64.wrap ((at_ : Int) + (cj : Int)) = ((at_ + cj : Nat) : Int) := by rw [IntWalk.i64_in _ (by omega)]; omega
    have qd : IntKind.i64.wrap ((i : Int) + 1) = (i : Int) + 1 := IntWalk.i64_in _ (by omega)
    have qe : IntKind.i64.wrap (((e + j : Nat) : Int) + 1) = ((e + (j + 1) : Nat) : Int) := by rw [IntWalk.i64_in _ (by omega)]; omega
    have hjj : j + 1 + gk2 = mm + 1 - e := by omega
    have hl3 : l1 ≤ left := by omega
    have HL2 := Aside0.mk hl2
    clear hcall htr hk5 hm5 hg hg1 hg2 hcj hmt hlo hhi hl1 hl2 hi1 hjk
    go_upto_if 53 with (fail)
    go_cut [14] from 51 to 59 (fun v14 wc => v14 = .int .i64 (cj : Int) ∧ wc = wr2)
    case first =>
      rcases hcjb with ⟨h45, rfl⟩ | ⟨h45, rfl⟩
      · have hb : (x.f2 == 45) = true := beq_iff_eq.mpr h45
        clear h45
        go_wp2
        go_meet
        case rel => exact ⟨congrArg (Value.int .i64) (by omega), rfl⟩
      · have hb : (x.f2 == 45) = false := beq_eq_false_iff_ne.mpr h45
        clear h45
        go_wp2
        go_meet
        case rel => exact ⟨congrArg (Value.int .i64) (by omega), rfl⟩
    obtain ⟨rfl, rfl⟩ := hcut
    clear hcjb g2 qa qb
    go_wp2_with fail
    refine HCALL.out.mono ?_
    intro ee w4 h4
    obtain ⟨m1, m2, m3⟩ := h4
    have M1 := Aside0.mk m1
    have HK6 := Aside0.mk (HK5.out.trans m2 (.inl rfl))
    have M3 := Aside0.mk (M2.out.trans m2 (.inl rfl))
    clear m1 m2 HCALL HK5 M2
    cases r1 with
    | none =>
      subst m3
      have htr := HTR.out
      simp only at htr
      have HTR2 := Aside0.mk htr
      clear htr HTR
      go_wp2_with fail
      exact Handed.intro gk2 (by omega) (hJ2 _ _ _ ⟨j + 1, l1, hjj, HTR2.out, HL2.out, hl3, rfl, rfl, ⟨rfl, rfl, rfl, rfl, rfl, rfl, rfl, rfl⟩, M1.out, HK6.out⟩)
    | some y =>
      obtain ⟨yn, yc⟩ := y
      obtain ⟨A4, c4, hee, hc4⟩ := m3
      subst hee
      have HC4 := Aside0.mk hc4
      have htr := HTR.out
      obtain ⟨rfl, rfl⟩ : some (yn, yc) = res ∧ l1 = left' := by simpa using htr
      have hyn : (0 : Int) ≤ (yn : Int) := by omega
      clear hc4 htr HTR
      go_wp2_with fail
      go_ret2
      exact ⟨M1.out, M3.out, _, _, rfl, HC4.out⟩
/-- match, at every item. -/
theorem match_all (hs : s.size ≤ 1000) (hB : isB s = true) (hit : ∀ x ∈ items, ItOk x) (hil : items.length ≤ 100) : ∀ (k i : Nat), i + k = items.length → MtC 31 (-1000000) (mt (bytesOf s)) W g s items i := by
  intro k
  induction k with
  | zero => intro i h; exact match_step hs hit hil (fun hlt => absurd hlt (by omega)) (fun hlt _ => absurd hlt (by omega)) (by omega)
  | succ k ihk =>
    intro i h
    have h1 := ihk (i + 1) (by omega)
    exact match_step hs hit hil (fun _ => h1) (fun hlt hk1 => rep_step hs hB hit hil hlt hk1 h1) (by omega)
end
end Go.Proofs.YtpjfjfloeejgiaaFmt.Rf
/- ptFind of package spec: the walk. -/
set_option linter.unusedVariables false
set_option linter.unusedSimpArgs false
namespace Go.Proofs.YtpjfjfloeejgiaaFmt.Rf
open Go.RowKit Go.Proofs.YtpjfjfloeejgiaaFmtW.PrintWords Go.Proofs.YtpjfjfloeejgiaaFmt.PFnPatternFirst
/-- At the head of the loop that tries each place. -/
def AtFnd (s : ByteArray) (q1 q2 g at_ : Nat) (R : World → Prop) (a : Act) (w : World) : Prop :=
  a.tmps.size = 50 ∧ a.defers = [] ∧ (a.tmps.getD 1 undef = .string s ∧ a.tmps.getD 3 undef = .pointer (some ⟨q1, 0, none⟩) ∧ a.tmps.getD 6 undef = .pointer (some ⟨q2, 0, none⟩) ∧ a.tmps.getD 7 undef = .int .i64 0 ∧ a.tmps.getD 8 undef = .pointer (some ⟨g, 0, none⟩) ∧ a.tmps.getD 9 undef = .int .i64 (at_ : Int)) ∧ R w
set_option maxRecDepth 100000 in
theorem AtFnd.open_ {s : ByteArray} {q1 q2 g at_ : Nat} {R : World → Prop} {a : Act} {w : World} (h : AtFnd s q1 q2 g at_ R a w) : (∃ u : Nat → Value, a = ⟨#[u 0, .string s, u 2, .pointer (some ⟨q1, 0, none⟩), u 4, u 5, .pointer (some ⟨q2, 0, none⟩), .int .i64 0, .pointer (some ⟨g, 0, none⟩), .int .i64 (at_ : Int), u 10, u 11, u 12, u 13, u 14, u 15, u 16, u 17, u 18, u 19, u 20, u 21, u 22, u 23, u 24, u 25, u 26, u 27, u 28, u 29, u 30, u 31, u 32, u 33, u 34, u 35, u 36, u 37, u 38, u 39, u 40, u 41, u 42, u 43, u 44, u 45, u 46, u 47, u 48, u 49], []⟩) ∧ R w := by
  obtain ⟨tmps, defers⟩ := a
  obtain ⟨hs, hd, ⟨h1, h3, h6, h7, h8, h9⟩, hR⟩ := h
  refine ⟨⟨fun i => tmps.getD i undef, ?_⟩, hR⟩
  have hd' : defers = [] := hd
  subst hd'
  have k1 : tmps.getD 1 undef = .string s := h1
  have k3 : tmps.getD 3 undef = .pointer (some ⟨q1, 0, none⟩) := h3
  have k6 : tmps.getD 6 undef = .pointer (some ⟨q2, 0, none⟩) := h6
  have k7 : tmps.getD 7 undef = .int .i64 0 := h7
  have k8 : tmps.getD 8 undef = .pointer (some ⟨g, 0, none⟩) := h8
  have k9 : tmps.getD 9 undef = .int .i64 (at_ : Int) := h9
  have h := frame_lit 50 tmps hs
  have h2 : ((List.range 50).map (fun i => tmps.getD i undef)).toArray = #[tmps.getD 0 undef, tmps.getD 1 undef, tmps.getD 2 undef, tmps.getD 3 undef, tmps.getD 4 undef, tmps.getD 5 undef, tmps.getD 6 undef, tmps.getD 7 undef, tmps.getD 8 undef, tmps.getD 9 undef, tmps.getD 10 undef, tmps.getD 11 undef, tmps.getD 12 undef, tmps.getD 13 undef, tmps.getD 14 undef, tmps.getD 15 undef, tmps.getD 16 undef, tmps.getD 17 undef, tmps.getD 18 undef, tmps.getD 19 undef, tmps.getD 20 undef, tmps.getD 21 undef, tmps.getD 22 undef, tmps.getD 23 undef, tmps.getD 24 undef, tmps.getD 25 undef, tmps.getD 26 undef, tmps.getD 27 undef, tmps.getD 28 undef, tmps.getD 29 undef, tmps.getD 30 undef, tmps.getD 31 undef, tmps.getD 32 undef, tmps.getD 33 undef, tmps.getD 34 undef, tmps.getD 35 undef, tmps.getD 36 undef, tmps.getD 37 undef, tmps.getD 38 undef, tmps.getD 39 undef, tmps.getD 40 undef, tmps.getD 41 undef, tmps.getD 42 undef, tmps.getD 43 undef, tmps.getD 44 undef, tmps.getD 45 undef, tmps.getD 46 undef, tmps.getD 47 undef, tmps.getD 48 undef, tmps.getD 49 undef] := rfl
  rw [h2] at h
  rw [k1, k3, k6, k7, k8, k9] at h
  exact congrArg (fun t => Act.mk t _) h
/-- The first match from a place on: its code (0: found; 1: none; 2: open), where it begins, where it ends, its captures. -/
def pFind (s : List Int) (items : List S147) (anchor : Bool) : Nat → Nat → Int → Option (Int × Option (Nat × Nat × List S74))
  | 0, _, _ => none
  | n + 1, at_, left =>
    if at_ ≤ s.length then
      match mt s items at_ [] left with
      | none => none
      | some (r, l') =>
        if l' ≤ 0 then some (2, none)
        else
          match r with
          | some (e, caps) => some (0, some (at_, e, caps))
          | none => if anchor then some (1, none) else pFind s items anchor n (at_ + 1) l'
    else some (1, none)
/-- What ptFind hands back. -/
def FndE (W : World) (o : Int × Option (Nat × Nat × List S74)) (e : Ending) (w' : World) : Prop :=
  Below W.heap.size W w' ∧ match o.2 with
  | none => e = .returned (.tuple #[.agg #[.int .i64 0, .int .i64 0, .slice none 0 0], .int .i64 o.1])
  | some (at_, en, caps) => ∃ A c, e = .returned (.tuple #[.agg #[.int .i64 (at_ : Int), .int .i64 (en : Int), .slice A caps.length c], .int .i64 o.1]) ∧ caps.length ≤ c ∧ k74.C w' A caps.length caps
section
variable {w : World} {s : ByteArray} {items : List S147}
set_option maxHeartbeats 40000000 in
set_option maxRecDepth 100000 in
theorem find_calls {B : Option Addr} {cB : Nat} {anc : Bool} {nc : Int} {frm n : Nat} {o : Int × Option (Nat × Nat × List S74)} (hs : s.size ≤ 1000) (hB : isB s = true) (hit : ∀ x ∈ items, ItOk x) (hil : items.length ≤ 100)
    (hC : k147.C w B items.length items) (hfr : frm ≤ s.size) (ho : pFind (bytesOf s) items anc n frm 20000 = some o) :
    Calls Tryf.prog 24 #[.agg #[.bool anc, .slice B items.length cB, .int .i64 nc], .string s, .int .i64 (frm : Int)] w (FndE w o) := by
  have HM := fun (g : Nat) => match_all (W := w) (g := g) hs hB hit hil items.length 0 (by omega)
  have HMA := Aside0.mk HM
  have HO := Aside0.mk ho
  have HCI := Aside0.mk hC
  clear hit ho hC HM hB
  go_enter Tryf.func24, Tryf.ntmps24
  go_wp2_with fail
  have hb1 := blk_new w (.cells #[.bool anc, .slice B items.length cB, .int .i64 nc] 68)
  have hbw1 := below_alloc (Below.refl w.heap.size w) (.cells #[.bool anc, .slice B items.length cB, .int .i64 nc] 68)
  have hs1 : (w.alloc (.cells #[.bool anc, .slice B items.length cB, .int .i64 nc] 68)).heap.size = w.heap.size + 1 := by simp
  generalize w.alloc (.cells #[.bool anc, .slice B items.length cB, .int .i64 nc] 68) = wa at *
  have hb2 := blk_new wa (.cells #[.int .i64 0, .int .i64 0, .slice none 0 0] 53)
  rw [hs1] at hb2
  have hb1 := blk_alloc hb1 (.cells #[.int .i64 0, .int .i64 0, .slice none 0 0] 53)
  have hbw2 := below_alloc hbw1 (.cells #[.int .i64 0, .int .i64 0, .slice none 0 0] 53)
  have hs2 : (wa.alloc (.cells #[.int .i64 0, .int .i64 0, .slice none 0 0] 53)).heap.size = w.heap.size + 1 + 1 := by simp [hs1]
  generalize wa.alloc (.cells #[.int .i64 0, .int .i64 0, .slice none 0 0] 53) = wb at *
  have hb3 := blk_new wb (.cells #[.string s, .slice B items.length cB, .int .i64 20000] 100)
  rw [hs2] at hb3
  have hb1 := blk_alloc hb1 (.cells #[.string s, .slice B items.length cB, .int .i64 20000] 100)
  have hb2 := blk_alloc hb2 (.cells #[.string s, .slice B items.length cB, .int .i64 20000] 100)
  have hbw3 := below_alloc hbw2 (.cells #[.string s, .slice B items.length cB, .int .i64 20000] 100)
  generalize wb.alloc (.cells #[.string s, .slice B items.length cB, .int .i64 20000] 100) = wx at *
  have HM := Aside0.mk (show MtU w wx (w.heap.size + 1 + 1) s items 20000 from ⟨⟨B, cB, hb3, by omega, HCI.out⟩, hbw3⟩)
  have HB1 := Aside0.mk hb1
  have HB2 := Aside0.mk hb2
  have hbs : (bytesOf s).length = s.size := bytesOf_length s
  clear hs1 hs2 hb1 hb2 hb3 hbw1 hbw2 hbw3
  refine wp_loop_ghost_k (fun k a wr => ∃ (at_ : Nat) (l : Int), at_ ≤ s.size + 1 ∧ pFind (bytesOf s) items anc k at_ l = some o ∧ 0 < l ∧ l ≤ 20000 ∧ AtFnd s w.heap.size (w.heap.size + 1) (w.heap.size + 1 + 1) at_ (fun wr => MtU w wr (w.heap.size + 1 + 1) s items l ∧ KeepBut wx wr (w.heap.size + 1 + 1) none) a wr) n
    ⟨frm, 20000, by omega, HO.out, by omega, by omega, rfl, rfl, ⟨rfl, rfl, rfl, rfl, rfl, rfl⟩, HM.out, KeepBut.refl wx _ none⟩ ?_
  clear HM HO
  intro gk a wr hI J K hJ hK
  obtain ⟨at_, l, hat, hp, hl0, hl1, hI⟩ := hI
  obtain ⟨⟨u, rfl⟩, hm1, hk1⟩ := hI.open_
  have hq2 := hk1.blk HB2.out (by omega) (by simp)
  cases gk with
  | zero => simp [pFind] at hp
  | succ gk =>
  simp only [pFind] at hp
  rw [hbs] at hp
  by_cases hle : at_ ≤ s.size
  · rw [if_pos hle] at hp
    have hleI : (at_ : Int) ≤ (s.size : Int) := by omega
    have HP := Aside0.mk hp
    have HM1 := Aside0.mk hm1
    have HK1 := Aside0.mk hk1
    have HQ2 := Aside0.mk hq2
    clear hI hm1 hk1 hq2 hp
    go_wp2_with fail
    cases hmt : mt (bytesOf s) items at_ [] l with
    | none => have hp := HP.out; rw [hmt] at hp; cases hp
    | some y =>
    obtain ⟨r, l'⟩ := y
    have hp := HP.out
    rw [hmt] at hp
    simp only at hp
    have hcall := HMA.out (w.heap.size + 1 + 1) (wr.alloc (.cells #[] 74)) at_ (some ⟨wr.heap.size, 0, none⟩) 0 [] l r l' (HM1.out.below (below_alloc (Below.refl _ _) _)) ⟨⟨rfl, by simp, fun h => absurd h (Nat.lt_irrefl 0)⟩, Nat.le_refl _, fun ad _ h0 => absurd h0 (Nat.lt_irrefl _)⟩ hle ⟨by simp, by simp⟩ (by omega) (by omega) hmt
    have hl' : l' ≤ l - 1 := (mt_den _ _ _ _ _ _ _ hmt).1
    have HP2 := Aside0.mk hp
    clear hp hmt HP
    refine hcall.mono ?_
    rintro e w4 ⟨m1, m2, m3⟩
    have hk4 := (keep_alloc HK1.out (.cells #[] 74)).trans m2 (.inl rfl)
    obtain ⟨B', c', hb', _⟩ := m1.open_
    have e2 := blk_cell hb' 2
    have hq2 := hk4.blk HB2.out (by omega) (by simp)
    have hq1 := hk4.blk HB1.out (by omega) (by simp)
    have a0 := blk_cell hq1 0
    have M1 := Aside0.mk m1
    have HK4 := Aside0.mk hk4
    have HQ2 := Aside0.mk hq2
    clear hcall m1 m2 hk4 hb' hq2 hq1 HM1 HK1
    have zero : ∀ c : Int, o = (c, none) → c = o.1 ∧ FndE w o (.returned (.tuple #[.agg #[.int .i64 0, .int .i64 0, .slice none 0 0], .int .i64 c])) (((w4.setCell ⟨w.heap.size + 1, 0, none⟩ (.int .i64 0)).setCell ⟨w.heap.size + 1, 1, none⟩ (.int .i64 0)).setCell ⟨w.heap.size + 1, 2, none⟩ (.slice none 0 0)) := by
      rintro c rfl
      exact ⟨rfl, ((M1.out.b.setCell (p := ⟨w.heap.size + 1, 0, none⟩) (by simp) _).setCell (p := ⟨w.heap.size + 1, 1, none⟩) (by simp) _).setCell (p := ⟨w.heap.size + 1, 2, none⟩) (by simp) _, rfl⟩
    have ZERO := Aside0.mk zero
    clear zero
    have z0 := blk_cell HQ2.out 0
    have z1 := blk_cell HQ2.out 1
    have z2 := blk_cell HQ2.out 2
    have f0 := blk_frozen HQ2.out 0
    have f1 := blk_frozen HQ2.out 1
    have f2 := blk_frozen HQ2.out 2
    have hp := HP2.out
    by_cases hneg : l' ≤ 0
    · rw [if_pos hneg] at hp
      have ho : o = (2, none) := (Option.some.inj hp).symm
      have HOO := Aside0.mk ho
      clear hp HP2 ho
      cases r with
      | none =>
        subst m3
        go_wp2_with fail
        refine bodyPost_ret (v := .tuple #[.agg #[.int .i64 0, .int .i64 0, .slice none 0 0], .int .i64 2]) ?_ rfl (ZERO.out 2 HOO.out).2
        simp [results, Tryf.results24, go_sem, z0, z1, z2]
      | some y =>
        obtain ⟨en, caps⟩ := y
        obtain ⟨A4, c4, he, hc4⟩ := m3
        subst he
        clear hc4
        go_wp2_with fail
        refine bodyPost_ret (v := .tuple #[.agg #[.int .i64 0, .int .i64 0, .slice none 0 0], .int .i64 2]) ?_ rfl (ZERO.out 2 HOO.out).2
        simp [results, Tryf.results24, go_sem, z0, z1, z2]
    rw [if_neg hneg] at hp
    cases r with
    | some y =>
      obtain ⟨en, caps⟩ := y
      simp only at hp
      obtain ⟨A4, c4, he, hc4⟩ := m3
      subst he
      have ho : o = (0, some (at_, en, caps)) := (Option.some.inj hp).symm
      subst ho
      have hen : (0 : Int) ≤ (en : Int) := by omega
      have HC4 := Aside0.mk hc4
      clear hp HP2 hc4 ZERO
      go_wp2_with fail
      refine bodyPost_ret (v := .tuple #[.agg #[.int .i64 (at_ : Int), .int .i64 (en : Int), .slice A4 caps.length c4], .int .i64 0]) ?_ rfl ⟨?_, A4, c4, rfl, HC4.out.le, ?_⟩
      · simp [results, Tryf.results24, go_sem, z0, z1, z2]
      · exact ((M1.out.b.setCell (p := ⟨w.heap.size + 1, 0, none⟩) (by simp) _).setCell (p := ⟨w.heap.size + 1, 1, none⟩) (by simp) _).setCell (p := ⟨w.heap.size + 1, 2, none⟩) (by simp) _
      · have hcu : CapU w4 (w.heap.size + 1) A4 c4 caps := ⟨HC4.out.cr, HC4.out.le, fun ad ha h0 => by have := HC4.out.ne ad ha h0; omega⟩
        exact (hcu.keep ((((KeepBut.refl w4 (w.heap.size + 1) none).set_ 0 _).set_ 1 _).set_ 2 _)).cr
    | none =>
      simp only at hp
      subst m3
      cases anc with
      | true =>
        rw [if_pos rfl] at hp
        have ho : o = (1, none) := (Option.some.inj hp).symm
        have HOO := Aside0.mk ho
        clear hp HP2 ho
        go_wp2_with fail
        refine bodyPost_ret (v := .tuple #[.agg #[.int .i64 0, .int .i64 0, .slice none 0 0], .int .i64 1]) ?_ rfl (ZERO.out 1 HOO.out).2
        simp [results, Tryf.results24, go_sem, z0, z1, z2]
      | false =>
        rw [if_neg (by simp)] at hp
        have HP3 := Aside0.mk hp
        have q1 : IntKind.i64.wrap ((at_ : Int) + 1) = (at_ : Int) + 1 := IntWalk.i64_in _ (by omega)
        clear hp HP2 z0 z1 z2 f0 f1 f2 ZERO
        go_wp2_with fail
        exact Handed.intro gk (by omega) (hJ _ _ _ ⟨at_ + 1, l', by omega, HP3.out, by omega, by omega, rfl, rfl, ⟨rfl, rfl, rfl, rfl, rfl, congrArg (Value.int .i64) (Int.natCast_succ at_).symm⟩, M1.out, HK4.out⟩)
  · rw [if_neg hle] at hp
    have hleI : ¬ (at_ : Int) ≤ (s.size : Int) := by omega
    obtain rfl : (1, none) = o := by simpa using hp
    have HM1 := Aside0.mk hm1
    have HQ2 := Aside0.mk hq2
    have z0 := blk_cell hq2 0
    have z1 := blk_cell hq2 1
    have z2 := blk_cell hq2 2
    have f0 := blk_frozen hq2 0
    have f1 := blk_frozen hq2 1
    have f2 := blk_frozen hq2 2
    clear hI hm1 hk1 hp hq2
    go_wp2_with fail
    refine bodyPost_ret (v := .tuple #[.agg #[.int .i64 0, .int .i64 0, .slice none 0 0], .int .i64 1]) ?_ rfl ⟨?_, rfl⟩
    · simp [results, Tryf.results24, go_sem, z0, z1, z2]
    · exact ((HM1.out.b.setCell (p := ⟨w.heap.size + 1, 0, none⟩) (by simp) _).setCell (p := ⟨w.heap.size + 1, 1, none⟩) (by simp) _).setCell (p := ⟨w.heap.size + 1, 2, none⟩) (by simp) _
end
end Go.Proofs.YtpjfjfloeejgiaaFmt.Rf
/- found of package spec: the walk. -/
set_option linter.unusedVariables false
set_option linter.unusedSimpArgs false
namespace Go.Proofs.YtpjfjfloeejgiaaFmt.Rf
open Go.RowKit Go.Proofs.YtpjfjfloeejgiaaFmtW.PrintWords Go.Proofs.YtpjfjfloeejgiaaFmt.PFnPatternFirst
/-- At the head of the loop over the captures. -/
def AtFou (A : Option Addr) (q1 q2 n c i : Nat) (R : World → Prop) (a : Act) (w : World) : Prop :=
  a.tmps.size = 44 ∧ a.defers = [] ∧ (a.tmps.getD 2 undef = .pointer (some ⟨q1, 0, none⟩) ∧ a.tmps.getD 3 undef = .pointer (some ⟨q2, 0, none⟩) ∧ a.tmps.getD 13 undef = .slice A n c ∧ a.tmps.getD 14 undef = .int .i64 (n : Int) ∧ a.tmps.getD 15 undef = .int .i64 (i : Int)) ∧ R w
set_option maxRecDepth 100000 in
theorem AtFou.open_ {A : Option Addr} {q1 q2 n c i : Nat} {R : World → Prop} {a : Act} {w : World} (h : AtFou A q1 q2 n c i R a w) : (∃ u : Nat → Value, a = ⟨#[u 0, u 1, .pointer (some ⟨q1, 0, none⟩), .pointer (some ⟨q2, 0, none⟩), u 4, u 5, u 6, u 7, u 8, u 9, u 10, u 11, u 12, .slice A n c, .int .i64 (n : Int), .int .i64 (i : Int), u 16, u 17, u 18, u 19, u 20, u 21, u 22, u 23, u 24, u 25, u 26, u 27, u 28, u 29, u 30, u 31, u 32, u 33, u 34, u 35, u 36, u 37, u 38, u 39, u 40, u 41, u 42, u 43], []⟩) ∧ R w := by
  obtain ⟨tmps, defers⟩ := a
  obtain ⟨hs, hd, ⟨h2, h3, h13, h14, h15⟩, hR⟩ := h
  refine ⟨⟨fun i => tmps.getD i undef, ?_⟩, hR⟩
  have hd' : defers = [] := hd
  subst hd'
  have k2 : tmps.getD 2 undef = .pointer (some ⟨q1, 0, none⟩) := h2
  have k3 : tmps.getD 3 undef = .pointer (some ⟨q2, 0, none⟩) := h3
  have k13 : tmps.getD 13 undef = .slice A n c := h13
  have k14 : tmps.getD 14 undef = .int .i64 (n : Int) := h14
  have k15 : tmps.getD 15 undef = .int .i64 (i : Int) := h15
  have h := frame_lit 44 tmps hs
  have h2 : ((List.range 44).map (fun i => tmps.getD i undef)).toArray = #[tmps.getD 0 undef, tmps.getD 1 undef, tmps.getD 2 undef, tmps.getD 3 undef, tmps.getD 4 undef, tmps.getD 5 undef, tmps.getD 6 undef, tmps.getD 7 undef, tmps.getD 8 undef, tmps.getD 9 undef, tmps.getD 10 undef, tmps.getD 11 undef, tmps.getD 12 undef, tmps.getD 13 undef, tmps.getD 14 undef, tmps.getD 15 undef, tmps.getD 16 undef, tmps.getD 17 undef, tmps.getD 18 undef, tmps.getD 19 undef, tmps.getD 20 undef, tmps.getD 21 undef, tmps.getD 22 undef, tmps.getD 23 undef, tmps.getD 24 undef, tmps.getD 25 undef, tmps.getD 26 undef, tmps.getD 27 undef, tmps.getD 28 undef, tmps.getD 29 undef, tmps.getD 30 undef, tmps.getD 31 undef, tmps.getD 32 undef, tmps.getD 33 undef, tmps.getD 34 undef, tmps.getD 35 undef, tmps.getD 36 undef, tmps.getD 37 undef, tmps.getD 38 undef, tmps.getD 39 undef, tmps.getD 40 undef, tmps.getD 41 undef, tmps.getD 42 undef, tmps.getD 43 undef] := rfl
  rw [h2] at h
  rw [k2, k3, k13, k14, k15] at h
  exact congrArg (fun t => Act.mk t _) h
/-- A capture as it is told. -/
def cap65 (c : S74) : S65 := ⟨c.f0, if 0 < c.f1 then c.f0 + c.f1 else c.f0, c.f1 == -2⟩
/-- What is told so far. -/
structure FoU (W wr : World) (g : Nat) (b e : Int) (own : List S65) (v : Value) : Prop where
  bl : Below W.heap.size W wr
  lt : W.heap.size ≤ g
  hv : wr.heap[g]? = some (.cells #[.int .i64 b, .int .i64 e, v] 30 (0, 0))
  row : k65.R 65 wr W.heap.size (fun _ => True) v own
  hz : wr.heap[g - 1]? = some (.cells #[.int .i64 0, .int .i64 0, .slice none 0 0] 30 (0, 0)) ∧ 1 ≤ g
theorem E65 : k65.E = [] := rfl
theorem info65 : (Tryf.prog.info? 65).map (fun i => (i.zero, i.size, i.bytes)) = some (some (.agg #[.int .i64 0, .int .i64 0, .bool false]), 3, 24) := by kernel_rfl
section
variable {W wr w1 : World} {g : Nat} {b e : Int} {own : List S65} {v : Value}
variable {ops : Array Oper} {o : Oper} {a : Act} {Q : Exit → Act → World → Prop} {rest : List Oper}
theorem FoU.below (h : FoU W wr g b e own v) (hb : Below wr.heap.size wr w1) : FoU W w1 g b e own v :=
  ⟨h.bl.trans (hb.mono h.bl.size), h.lt, (hb.block _ (blk_lt h.hv)).trans h.hv, Kd.R_below h.row hb, (hb.block _ (blk_lt h.hz.1)).trans h.hz.1, h.hz.2⟩
theorem FoU.sl (h : FoU W wr g b e own v) : ∃ A c, v = .slice A own.length c := Kd.R_slice h.row
theorem FoU.after (h : FoU W wr g b e own v) {v' : Value} {xs' : List S65} (hR : k65.R 65 w1 W.heap.size (fun _ => True) v' xs') (hb : Below W.heap.size W w1) (hg : wr.grownBy w1 v.ownBlock) :
    ∃ A1 n1 c1, v' = .slice A1 n1 c1 ∧ FoU W (w1.setCell ⟨g, 2, none⟩ v') g b e xs' v' ∧ w1.cell? ⟨g, 2, none⟩ = some v ∧ w1.frozen? ⟨g, 2, none⟩ = false := by
  obtain ⟨A1, c1, rfl⟩ := Kd.R_slice hR
  have hgs : some g ≠ v.ownBlock := by
    intro e'
    obtain ⟨cells, hc⟩ := R_block h.row e'.symm
    have := h.hv.symm.trans hc
    cases this
  have hgz : some (g - 1) ≠ v.ownBlock := by
    intro e'
    obtain ⟨cells, hc⟩ := R_block h.row e'.symm
    have := h.hz.1.symm.trans hc
    cases this
  have hv1 := blk_grown h.hv hg hgs
  have hz1 := blk_grown h.hz.1 hg hgz
  have hg1 := h.hz.2
  have hkg : Kept w1 (w1.setCell ⟨g, 2, none⟩ (.slice A1 xs'.length c1)) (fun k => k = g) := (Kept.refl w1 (fun k => k = g)).setCell (p := ⟨g, 2, none⟩) (.inl rfl) _
  refine ⟨_, _, _, rfl, ⟨below_set hb h.lt, h.lt, blk_set hv1 2 _, R_apart hR hkg ?_, (Below.heap_setCell _ _ _ _ (show g - 1 ≠ g by omega)).trans hz1, hg1⟩, blk_cell hv1 2, blk_frozen hv1 2⟩
  rintro k rfl _
  exact ⟨30, _, hv1, by simp [E65]⟩
theorem FoU.list (h : FoU W wr g b e own v) (hb : Below wr.heap.size wr w1) (hgd : o.guard = none) (s y : Operand) (ho : o.op = .call { callee := .builtin .append, args := #[s, y], argTypes := #[28, 28] })
    (hs : a.eval s = v) {N : Nat} (hy : a.eval y = .slice (some ⟨N, 0, none⟩) 1 1) (hN : w1.heap.size = N) (hl : own.length ≤ 100000) (x : S65)
    (hK : ∀ A1 n1 c1 w2, FoU W (w2.setCell ⟨g, 2, none⟩ (.slice A1 n1 c1)) g b e (own ++ [x]) (.slice A1 n1 c1) → w2.cell? ⟨g, 2, none⟩ = some v → w2.frozen? ⟨g, 2, none⟩ = false → wpList Tryf.prog ops Q rest (a.put o.dst (.slice A1 n1 c1)) w2) :
    wpList Tryf.prog ops Q (o :: rest) a (w1.alloc (.cells #[.int .i64 x.f0, .int .i64 x.f1, .bool x.f2] 65)) := by
  subst hN
  have h1 := h.below hb
  refine Kd.R_append (P := Tryf.prog) k65 (w0 := W) W.heap.size hgd s y 28 65 (.agg #[.int .i64 0, .int .i64 0, .bool false]) 24 ho Tryf.underlying28 info65 rfl (by decide) (by decide) v own x [.int .i64 x.f0, .int .i64 x.f1, .bool x.f2] (fun _ => True) (fun _ => False) hs hy
    (k65_mkM _ _ _ _) (fun k hk => hk.elim) (fun k hk => trivial) h1.row h1.bl h1.bl.size (by omega) ?_
  intro v' w2 hR hb2 hg _
  obtain ⟨A1, n1, c1, rfl, k1, k2, k3⟩ := h1.after hR hb2 hg
  exact hK _ _ _ _ k1 k2 k3
end
section
variable {w : World}
set_option maxHeartbeats 40000000 in
set_option maxRecDepth 100000 in
theorem found_calls {A : Option Addr} {c at_ en : Nat} {caps : List S74} (hC : k74.C w A caps.length caps) (hle : caps.length ≤ c) (hn : caps.length ≤ 1000) (hcb : ∀ x ∈ caps, 0 ≤ x.f0 ∧ x.f0 ≤ 1000 ∧ -2000 ≤ x.f1 ∧ x.f1 ≤ 2000) :
    Calls Tryf.prog 17 #[.agg #[.int .i64 (at_ : Int), .int .i64 (en : Int), .slice A caps.length c]] w fun e w' =>
      ∃ A1 c1, e = .returned (.agg #[.int .i64 (at_ : Int), .int .i64 (en : Int), .slice A1 caps.length c1]) ∧ Below w.heap.size w w' ∧ k65.R 65 w' w.heap.size (fun _ => True) (.slice A1 caps.length c1) (caps.map cap65) := by
  have HC := Aside0.mk hC
  have HCB := Aside0.mk hcb
  clear hC hcb
  go_enter Tryf.func17, Tryf.ntmps17
  go_wp2_with fail
  have hb1 := blk_new w (.cells #[.int .i64 (at_ : Int), .int .i64 (en : Int), .slice A caps.length c] 53)
  have hbw1 := below_alloc (Below.refl w.heap.size w) (.cells #[.int .i64 (at_ : Int), .int .i64 (en : Int), .slice A caps.length c] 53)
  have hs1 : (w.alloc (.cells #[.int .i64 (at_ : Int), .int .i64 (en : Int), .slice A caps.length c] 53)).heap.size = w.heap.size + 1 := by simp
  generalize w.alloc (.cells #[.int .i64 (at_ : Int), .int .i64 (en : Int), .slice A caps.length c] 53) = wa at *
  have hb2 := blk_new wa (.cells #[.int .i64 0, .int .i64 0, .slice none 0 0] 30)
  rw [hs1] at hb2
  have hbw2 := below_alloc hbw1 (.cells #[.int .i64 0, .int .i64 0, .slice none 0 0] 30)
  have hs2 : (wa.alloc (.cells #[.int .i64 0, .int .i64 0, .slice none 0 0] 30)).heap.size = w.heap.size + 1 + 1 := by simp [hs1]
  generalize wa.alloc (.cells #[.int .i64 0, .int .i64 0, .slice none 0 0] 30) = wb at *
  have hb3 := blk_new wb (.cells #[.int .i64 (at_ : Int), .int .i64 (en : Int), .slice none 0 0] 30)
  rw [hs2] at hb3
  have hb2 := blk_alloc hb2 (.cells #[.int .i64 (at_ : Int), .int .i64 (en : Int), .slice none 0 0] 30)
  have hbw3 := below_alloc hbw2 (.cells #[.int .i64 (at_ : Int), .int .i64 (en : Int), .slice none 0 0] 30)
  generalize wb.alloc (.cells #[.int .i64 (at_ : Int), .int .i64 (en : Int), .slice none 0 0] 30) = wx at *
  have HF := Aside0.mk (show FoU w wx (w.heap.size + 1 + 1) (at_ : Int) (en : Int) [] (.slice none 0 0) from ⟨hbw3, by omega, hb3, Kd.R_nil _ _ _ _ _, hb2, by omega⟩)
  clear hs1 hs2 hb1 hb2 hb3 hbw1 hbw2 hbw3
  refine wp_loop_ghost_k (fun k a wr => ∃ (i : Nat) (v : Value), i + k = caps.length ∧ AtFou A (w.heap.size + 1) (w.heap.size + 1 + 1) caps.length c i (fun wr => FoU w wr (w.heap.size + 1 + 1) (at_ : Int) (en : Int) ((caps.take i).map cap65) v) a wr) caps.length
    ⟨0, _, by omega, rfl, rfl, ⟨rfl, rfl, rfl, rfl, rfl⟩, HF.out⟩ ?_
  clear HF
  intro gk a wr hI J K hJ hK
  obtain ⟨i, v, hik, hI⟩ := hI
  obtain ⟨⟨u, rfl⟩, hf⟩ := hI.open_
  have HF := Aside0.mk hf
  clear hI
  cases gk with
  | zero =>
    have hi : i = caps.length := by omega
    subst hi
    have hltI : ¬ ((caps.length : Int) < (caps.length : Int)) := by omega
    obtain ⟨A1, c1, rfl⟩ := hf.sl
    have e0 := blk_cell hf.hv 0
    have e1 := blk_cell hf.hv 1
    have e2 := blk_cell hf.hv 2
    have z0 := blk_cell hf.hz.1 0
    have z1 := blk_cell hf.hz.1 1
    have z2 := blk_cell hf.hz.1 2
    have f0 := blk_frozen hf.hz.1 0
    have f1 := blk_frozen hf.hz.1 1
    have f2 := blk_frozen hf.hz.1 2
    rw [show w.heap.size + 1 + 1 - 1 = w.heap.size + 1 from rfl] at z0 z1 z2 f0 f1 f2
    have hzz := hf.hz.1
    rw [show w.heap.size + 1 + 1 - 1 = w.heap.size + 1 from rfl] at hzz
    have HZ := Aside0.mk hzz
    clear hf hzz
    go_wp2_with fail
    have hkg : Kept wr (((wr.setCell ⟨w.heap.size + 1, 0, none⟩ (.int .i64 (at_ : Int))).setCell ⟨w.heap.size + 1, 1, none⟩ (.int .i64 (en : Int))).setCell ⟨w.heap.size + 1, 2, none⟩ (.slice A1 caps.length c1)) (fun k => k = w.heap.size + 1) :=
      (((Kept.refl wr (fun k => k = w.heap.size + 1)).setCell (p := ⟨w.heap.size + 1, 0, none⟩) (.inl rfl) _).setCell (p := ⟨w.heap.size + 1, 1, none⟩) (.inl rfl) _).setCell (p := ⟨w.heap.size + 1, 2, none⟩) (.inl rfl) _
    have hR := R_apart HF.out.row hkg (by
      rintro k rfl _
      exact ⟨30, _, HZ.out, by simp [E65]⟩)
    have hl : ((caps.take caps.length).map cap65).length = caps.length := by simp
    rw [hl, List.take_length] at hR
    refine bodyPost_ret (v := .agg #[.int .i64 (at_ : Int), .int .i64 (en : Int), .slice A1 caps.length c1]) ?_ rfl ⟨A1, c1, rfl, ?_, hR⟩
    · simp [results, Tryf.results17, go_sem, z0, z1, z2]
    · exact ((HF.out.bl.setCell (p := ⟨w.heap.size + 1, 0, none⟩) (by simp) _).setCell (p := ⟨w.heap.size + 1, 1, none⟩) (by simp) _).setCell (p := ⟨w.heap.size + 1, 2, none⟩) (by simp) _
  | succ gk =>
    have hlt : i < caps.length := by omega
    have hltI : (i : Int) < (caps.length : Int) := by omega
    obtain ⟨ad, hA, v0, v1⟩ := at_T74 (Kd.C_below HC.out hf.bl) (i : Int) (by omega) hltI
    have hce : rd_T74 caps (i : Int) = caps[i] := by simp [rd_T74, List.getD_eq_getElem?_getD, hlt]
    have htk : (caps.take (i + 1)).map cap65 = (caps.take i).map cap65 ++ [cap65 caps[i]] := by rw [List.take_succ_eq_append_getElem hlt, List.map_append]; rfl
    have hbd := HCB.out caps[i] (List.getElem_mem hlt)
    rw [hce] at v0 v1
    have HTK := Aside0.mk htk
    generalize hcc : caps[i] = cc at v0 v1 htk hbd
    obtain ⟨cf0, cf1⟩ := cc
    dsimp only at v0 v1 hbd
    simp only [Int.toNat_natCast] at v0 v1
    subst hA
    have q1 : IntKind.i64.wrap ((i : Int) + 1) = (i : Int) + 1 := IntWalk.i64_in _ (by omega)
    have q2 : IntKind.i64.wrap (cf0 + cf1) = cf0 + cf1 := IntWalk.i64_in _ (by omega)
    have htk2 := htk
    clear hf hce htk
    obtain ⟨vA, vc, hv⟩ := HF.out.sl
    generalize ((caps.take i).map cap65).length = vl at hv
    subst hv
    by_cases hpos : 0 < cf1
    · go_upto_region 8 with (fail)
      have hbx := blk_new (wr.alloc (.cells #[.int .i64 cf0, .int .i64 cf1] 74)) (.cells #[.int .i64 cf0, .int .i64 (cf0 + cf1), .bool (cf1 == -2)] 65)
      rw [World.size_alloc] at hbx
      have HB2 := Aside0.mk (below_alloc (below_alloc (Below.refl wr.heap.size wr) (.cells #[.int .i64 cf0, .int .i64 cf1] 74)) (.cells #[.int .i64 cf0, .int .i64 (cf0 + cf1), .bool (cf1 == -2)] 65))
      have HX := Aside0.mk (show (caps.take (i + 1)).map cap65 = (caps.take i).map cap65 ++ [⟨cf0, cf0 + cf1, cf1 == -2⟩] by rw [htk2]; simp [cap65, hpos])
      have HLEN := Aside0.mk (show ((caps.take i).map cap65).length ≤ 100000 by simp; omega)
      generalize (wr.alloc (.cells #[.int .i64 cf0, .int .i64 cf1] 74)).alloc (.cells #[.int .i64 cf0, .int .i64 (cf0 + cf1), .bool (cf1 == -2)] 65) = wb at *
      generalize (cf1 == -2) = cb at *
      have b0 := blk_cell hbx 0
      have b1 := blk_cell hbx 1
      have b2 := blk_cell hbx 2
      have hf2 := HF.out.below HB2.out
      have e2 : wb.cell? ⟨w.heap.size + 1 + 1, 2, none⟩ = some (.slice vA vl vc) := blk_cell hf2.hv 2
      clear hf2 hbx htk2 v0 v1
      go_wp2_with (at_builtin; refine FoU.list (HF.out) (HB2.out) rfl (.tmp 37) (.tmp 39) rfl rfl (by rfl) rfl HLEN.out ⟨cf0, cf0 + cf1, cb⟩ ?_; intro A4 n4 c4 w4 hS4 hc4 hf4; have HS4 := Aside0.mk hS4; clear hS4 b0 b1 b2)
      exact Handed.intro gk (by omega) (hJ _ _ _ ⟨i + 1, _, by omega, rfl, rfl, ⟨rfl, rfl, rfl, rfl, congrArg (Value.int .i64) (Int.natCast_succ i).symm⟩, by rw [HX.out]; exact HS4.out⟩)
    · go_upto_region 8 with (fail)
      have hbx := blk_new (wr.alloc (.cells #[.int .i64 cf0, .int .i64 cf1] 74)) (.cells #[.int .i64 cf0, .int .i64 (cf0), .bool (cf1 == -2)] 65)
      rw [World.size_alloc] at hbx
      have HB2 := Aside0.mk (below_alloc (below_alloc (Below.refl wr.heap.size wr) (.cells #[.int .i64 cf0, .int .i64 cf1] 74)) (.cells #[.int .i64 cf0, .int .i64 (cf0), .bool (cf1 == -2)] 65))
      have HX := Aside0.mk (show (caps.take (i + 1)).map cap65 = (caps.take i).map cap65 ++ [⟨cf0, cf0, cf1 == -2⟩] by rw [htk2]; simp [cap65, hpos])
      have HLEN := Aside0.mk (show ((caps.take i).map cap65).length ≤ 100000 by simp; omega)
      generalize (wr.alloc (.cells #[.int .i64 cf0, .int .i64 cf1] 74)).alloc (.cells #[.int .i64 cf0, .int .i64 (cf0), .bool (cf1 == -2)] 65) = wb at *
      generalize (cf1 == -2) = cb at *
      have b0 := blk_cell hbx 0
      have b1 := blk_cell hbx 1
      have b2 := blk_cell hbx 2
      have hf2 := HF.out.below HB2.out
      have e2 : wb.cell? ⟨w.heap.size + 1 + 1, 2, none⟩ = some (.slice vA vl vc) := blk_cell hf2.hv 2
      clear hf2 hbx htk2 v0 v1
      go_wp2_with (at_builtin; refine FoU.list (HF.out) (HB2.out) rfl (.tmp 37) (.tmp 39) rfl rfl (by rfl) rfl HLEN.out ⟨cf0, cf0, cb⟩ ?_; intro A4 n4 c4 w4 hS4 hc4 hf4; have HS4 := Aside0.mk hS4; clear hS4 b0 b1 b2)
      exact Handed.intro gk (by omega) (hJ _ _ _ ⟨i + 1, _, by omega, rfl, rfl, ⟨rfl, rfl, rfl, rfl, congrArg (Value.int .i64) (Int.natCast_succ i).symm⟩, by rw [HX.out]; exact HS4.out⟩)
end
end Go.Proofs.YtpjfjfloeejgiaaFmt.Rf
/- FirstMatch of package spec: the walk. -/
set_option linter.unusedVariables false
set_option linter.unusedSimpArgs false
namespace Go.Proofs.YtpjfjfloeejgiaaFmt.Rf
open Go.RowKit Go.Proofs.YtpjfjfloeejgiaaFmtW.PrintWords Go.Proofs.YtpjfjfloeejgiaaFmt.PFnPatternFirst

abbrev FndR := Int × Option (Nat × Nat × List S74)
/-- What FirstMatch tells: 0 and a match; 1: none; 2: open. -/
def fFirst (p s : ByteArray) (frm : Int) : FndR :=
  match pRead (bytesOf p) with
  | none => (2, none)
  | some (anc, items, _) =>
    if isB s = false ∨ 200 < s.size ∨ frm < 0 ∨ (s.size : Int) < frm ∨ (anc = true ∧ 0 < frm) then (2, none)
    else (pFind (bytesOf s) items anc (s.size + 2) frm.toNat 20000).getD (2, none)
/-- What FirstMatch hands back. -/
def FirstE (W : World) (o : FndR) (e : Ending) (w' : World) : Prop :=
  Below W.heap.size W w' ∧ match o.2 with
  | none => e = .returned (.tuple #[.agg #[.int .i64 0, .int .i64 0, .slice none 0 0], .int .i64 o.1])
  | some (at_, en, caps) => ∃ A c, e = .returned (.tuple #[.agg #[.int .i64 (at_ : Int), .int .i64 (en : Int), .slice A caps.length c], .int .i64 o.1]) ∧ caps.length ≤ c ∧ k65.C w' A caps.length (caps.map cap65)
/-- What is read is well formed: ptFind always answers then. -/
theorem pFind_def {s : List Int} {items : List S147} {anc : Bool} (hw : Wf items 0 []) : ∀ (n at_ : Nat) (l : Int), s.length + 2 ≤ at_ + n → at_ ≤ s.length + 1 → ∃ o, pFind s items anc n at_ l = some o := by
  intro n
  induction n with
  | zero => intro at_ l h h2; omega
  | succ n ih =>
    intro at_ l h h2
    simp only [pFind]
    by_cases hle : at_ ≤ s.length
    · rw [if_pos hle]
      obtain ⟨r, l', he⟩ := mt_def s items at_ [] [] l hw CapsOk.nil hle
      rw [he]
      simp only
      split
      · exact ⟨_, rfl⟩
      · cases r with
        | some y => exact ⟨_, rfl⟩
        | none =>
          simp only
          split
          · exact ⟨_, rfl⟩
          · exact ih _ _ (by omega) (by omega)
    · rw [if_neg hle]; exact ⟨_, rfl⟩
theorem pFind_code {s : List Int} {items : List S147} {anc : Bool} : ∀ (n at_ : Nat) (l : Int) (o : FndR), pFind s items anc n at_ l = some o → (o = (1, none) ∨ o = (2, none)) ∨ ∃ x, o = (0, some x) := by
  intro n
  induction n with
  | zero => intro at_ l o h; simp [pFind] at h
  | succ n ih =>
    intro at_ l o h
    simp only [pFind] at h
    split at h
    · split at h
      · cases h
      · split at h
        · exact .inl (.inr (Option.some.inj h).symm)
        · split at h
          · exact .inr ⟨_, (Option.some.inj h).symm⟩
          · split at h
            · exact .inl (.inl (Option.some.inj h).symm)
            · exact ih _ _ _ h
    · exact .inl (.inl (Option.some.inj h).symm)
section
variable {w : World} {p s : ByteArray}
set_option maxHeartbeats 40000000 in
set_option maxRecDepth 100000 in
/-- ptRead, at every text. -/
theorem read_all : Calls Tryf.prog 22 #[.string s] w (ReadE w (pRead (bytesOf s))) := by
  by_cases h40 : 40 < s.size
  · have h40I : (40 : Int) < (s.size : Int) := by omega
    have hres : pRead (bytesOf s) = none := by
      unfold pRead
      rw [if_pos (.inl (by rw [bytesOf_length]; exact h40))]
    rw [hres]
    have HB := Aside0.mk (below_alloc (Below.refl w.heap.size w) (.cells #[.bool false, .slice none 0 0, .int .i64 0] 68))
    clear hres
    go_enter Tryf.func22, Tryf.ntmps22
    go_wp2_with fail
    refine bodyPost_ret (v := .tuple #[.agg #[.bool false, .slice none 0 0, .int .i64 0], .bool false]) ?_ rfl ⟨HB.out, _, _, _, _, _, rfl⟩
    simp [results, Tryf.results22, go_sem]
  · exact read_any (by omega)
set_option maxHeartbeats 40000000 in
set_option maxRecDepth 100000 in
theorem firstMatch_calls {frm : Int} (hs : s.size ≤ 2147483647) (hit : ∀ anc items n, pRead (bytesOf p) = some (anc, items, n) → (∀ x ∈ items, ItOk x) ∧ items.length ≤ 100 ∧ Wf items 0 [] ∧ (isB s = true → s.size ≤ 200 → ∀ k at_ l a en caps, pFind (bytesOf s) items anc k at_ l = some (0, some (a, en, caps)) → caps.length ≤ 1000 ∧ ∀ x ∈ caps, 0 ≤ x.f0 ∧ x.f0 ≤ 1000 ∧ -2000 ≤ x.f1 ∧ x.f1 ≤ 2000)) :
    Calls Tryf.prog 11 #[.string p, .string s, .int .i64 frm] w (FirstE w (fFirst p s frm)) := by
  have HRD := Aside0.mk (fun W : World => read_all (w := W) (s := p))
  have HBY := Aside0.mk (fun W => bytes_calls W hs)
  have HIT := Aside0.mk hit
  obtain ⟨o, ho⟩ : ∃ o, fFirst p s frm = o := ⟨_, rfl⟩
  rw [ho]
  unfold fFirst at ho
  have HO := Aside0.mk ho
  clear hit ho
  go_enter Tryf.func11, Tryf.ntmps11
  go_wp2_with fail
  have hb0 := blk_new w (.cells #[.int .i64 0, .int .i64 0, .slice none 0 0] 30)
  have hbw := below_alloc (Below.refl w.heap.size w) (.cells #[.int .i64 0, .int .i64 0, .slice none 0 0] 30)
  generalize w.alloc (.cells #[.int .i64 0, .int .i64 0, .slice none 0 0] 30) = wa at *
  have HB0 := Aside0.mk hb0
  have HBW := Aside0.mk hbw
  clear hb0 hbw
  refine (HRD.out wa).mono ?_
  rintro e w2 ⟨hb2, hE⟩
  have HB2 := Aside0.mk (HBW.out.trans (hb2.mono HBW.out.size))
  have HV2 := Aside0.mk ((hb2.block _ (blk_lt HB0.out)).trans HB0.out)
  have zero : ∀ wr : World, Below w.heap.size w wr → wr.heap[w.heap.size]? = some (.cells #[.int .i64 0, .int .i64 0, .slice none 0 0] 30 (0, 0)) → ∀ c : Int, o = (c, none) → FirstE w o (.returned (.tuple #[.agg #[.int .i64 0, .int .i64 0, .slice none 0 0], .int .i64 c])) (((wr.setCell ⟨w.heap.size, 0, none⟩ (.int .i64 0)).setCell ⟨w.heap.size, 1, none⟩ (.int .i64 0)).setCell ⟨w.heap.size, 2, none⟩ (.slice none 0 0)) := by
    rintro wr hb _ c rfl
    exact ⟨((hb.setCell (p := ⟨w.heap.size, 0, none⟩) (Nat.le_refl _) _).setCell (p := ⟨w.heap.size, 1, none⟩) (Nat.le_refl _) _).setCell (p := ⟨w.heap.size, 2, none⟩) (Nat.le_refl _) _, rfl⟩
  have ZERO := Aside0.mk zero
  have ho := HO.out
  clear zero HRD HB0 HBW hb2
  cases hpr : pRead (bytesOf p) with
  | none =>
    rw [hpr] at hE ho
    obtain ⟨vb, vA, vn, vc, vk, he⟩ := hE
    subst he
    simp only at ho
    have HOO := Aside0.mk ho.symm
    have HV3 := Aside0.mk (blk_alloc HV2.out (.cells #[.bool vb, .slice vA vn vc, .int .i64 vk] 68))
    have HB3 := Aside0.mk (below_alloc HB2.out (.cells #[.bool vb, .slice vA vn vc, .int .i64 vk] 68))
    have z0 := blk_cell HV3.out 0
    have z1 := blk_cell HV3.out 1
    have z2 := blk_cell HV3.out 2
    have f0 := blk_frozen HV3.out 0
    have f1 := blk_frozen HV3.out 1
    have f2 := blk_frozen HV3.out 2
    clear ho hpr HO HIT HBY
    go_wp2_with fail
    refine bodyPost_ret (v := .tuple #[.agg #[.int .i64 0, .int .i64 0, .slice none 0 0], .int .i64 2]) ?_ rfl (ZERO.out _ HB3.out HV3.out 2 HOO.out)
    simp [results, Tryf.results11, go_sem, z0, z1, z2]
  | some y =>
    obtain ⟨anc, items, nc⟩ := y
    rw [hpr] at hE ho
    obtain ⟨A, c, he, hic, hC⟩ := hE
    subst he
    obtain ⟨t1, t2, t3, t4⟩ := HIT.out anc items nc hpr
    have HT4 := Aside0.mk t4
    have HT1 := Aside0.mk t1
    have HT3 := Aside0.mk t3
    have hw8 := blk_new w2 (.cells #[.bool anc, .slice A items.length c, .int .i64 (nc : Int)] 68)
    have HV3 := Aside0.mk (blk_alloc HV2.out (.cells #[.bool anc, .slice A items.length c, .int .i64 (nc : Int)] 68))
    have HB3 := Aside0.mk (below_alloc HB2.out (.cells #[.bool anc, .slice A items.length c, .int .i64 (nc : Int)] 68))
    have HC3 := Aside0.mk (Kd.C_below hC (below_alloc (Below.refl w2.heap.size w2) (.cells #[.bool anc, .slice A items.length c, .int .i64 (nc : Int)] 68)))
    have HO2 := Aside0.mk ho
    clear t1 t3 t4 hpr HO HIT ho hC
    go_upto_region 2 with (fail)
    generalize w2.alloc (.cells #[.bool anc, .slice A items.length c, .int .i64 (nc : Int)] 68) = w3 at *
    generalize w2.heap.size = q8 at *
    have a0 := blk_cell hw8 0
    have a1 := blk_cell hw8 1
    have a2 := blk_cell hw8 2
    have HW8 := Aside0.mk hw8
    clear hw8 HV2 HB2
    go_wp2_with fail
    refine (HBY.out w3).mono ?_
    rintro ee w4 ⟨he4, hd4⟩
    subst he4
    have hb4 : Below w3.heap.size w3 w4 := hd4.below
    have HB4 := Aside0.mk (HB3.out.trans (hb4.mono HB3.out.size))
    have HV4 := Aside0.mk ((hb4.block _ (blk_lt HV3.out)).trans HV3.out)
    have HW4 := Aside0.mk ((hb4.block _ (blk_lt HW8.out)).trans HW8.out)
    have HC4 := Aside0.mk (Kd.C_below HC3.out hb4)
    have z0 := blk_cell HV4.out 0
    have z1 := blk_cell HV4.out 1
    have z2 := blk_cell HV4.out 2
    have f0 := blk_frozen HV4.out 0
    have f1 := blk_frozen HV4.out 1
    have f2 := blk_frozen HV4.out 2
    have a0 := blk_cell HW4.out 0
    have a1 := blk_cell HW4.out 1
    have a2 := blk_cell HW4.out 2
    clear hb4 hd4 HB3 HV3 HW8 HC3 HBY
    cases hB : isB s with
    | false =>
      have ho := HO2.out
      rw [if_pos (.inl hB)] at ho
      have HOO := Aside0.mk ho.symm
      clear ho HO2 HT1 HT3 HT4 HC4 hB a0 a1 a2
      go_wp2_with fail
      refine bodyPost_ret (v := .tuple #[.agg #[.int .i64 0, .int .i64 0, .slice none 0 0], .int .i64 2]) ?_ rfl (ZERO.out _ HB4.out HV4.out 2 HOO.out)
      simp [results, Tryf.results11, go_sem, z0, z1, z2]
    | true =>
      have HBB := Aside0.mk hB
      clear hB
      by_cases h2 : (200 : Int) < (s.size : Int)
      · have h2n : 200 < s.size := by omega
        have ho := HO2.out
        rw [if_pos (.inr (.inl h2n))] at ho
        have HOO := Aside0.mk ho.symm
        clear ho HO2 HT1 HT3 HT4 HC4 h2n
        go_wp2_with fail
        refine bodyPost_ret (v := .tuple #[.agg #[.int .i64 0, .int .i64 0, .slice none 0 0], .int .i64 2]) ?_ rfl (ZERO.out _ HB4.out HV4.out 2 HOO.out)
        simp [results, Tryf.results11, go_sem, z0, z1, z2]
      by_cases h3 : frm < 0
      · have ho := HO2.out
        rw [if_pos (.inr (.inr (.inl h3)))] at ho
        have HOO := Aside0.mk ho.symm
        clear ho HO2 HT1 HT3 HT4 HC4 
        go_wp2_with fail
        refine bodyPost_ret (v := .tuple #[.agg #[.int .i64 0, .int .i64 0, .slice none 0 0], .int .i64 2]) ?_ rfl (ZERO.out _ HB4.out HV4.out 2 HOO.out)
        simp [results, Tryf.results11, go_sem, z0, z1, z2]
      by_cases h4 : (s.size : Int) < frm
      · have ho := HO2.out
        rw [if_pos (.inr (.inr (.inr (.inl h4))))] at ho
        have HOO := Aside0.mk ho.symm
        clear ho HO2 HT1 HT3 HT4 HC4 
        go_wp2_with fail
        refine bodyPost_ret (v := .tuple #[.agg #[.int .i64 0, .int .i64 0, .slice none 0 0], .int .i64 2]) ?_ rfl (ZERO.out _ HB4.out HV4.out 2 HOO.out)
        simp [results, Tryf.results11, go_sem, z0, z1, z2]
      obtain ⟨fn, hfn⟩ : ∃ fn : Nat, frm = fn := ⟨frm.toNat, by omega⟩
      subst hfn
      have hfs : fn ≤ s.size := by omega
      have h2n : s.size ≤ 200 := by omega
      have hop : (anc = true ∧ (0 : Int) < (fn : Int)) ∨ ¬ (anc = true ∧ (0 : Int) < (fn : Int)) := Decidable.em _
      rcases hop with hop | hop
      · obtain ⟨rfl, h5⟩ := hop
        have ho := HO2.out
        rw [if_pos (.inr (.inr (.inr (.inr ⟨rfl, h5⟩))))] at ho
        have HOO := Aside0.mk ho.symm
        clear ho HO2 HT1 HT3 HT4 HC4 
        go_wp2_with fail
        refine bodyPost_ret (v := .tuple #[.agg #[.int .i64 0, .int .i64 0, .slice none 0 0], .int .i64 2]) ?_ rfl (ZERO.out _ HB4.out HV4.out 2 HOO.out)
        simp [results, Tryf.results11, go_sem, z0, z1, z2]
      have ho := HO2.out
      rw [if_neg (by rw [HBB.out]; simp only [Bool.true_eq_false, false_or, not_or]; exact ⟨by omega, by omega, by omega, hop⟩), Int.toNat_natCast] at ho
      obtain ⟨of, hpf⟩ := pFind_def (s := bytesOf s) (anc := anc) HT3.out (s.size + 2) fn 20000 (by rw [bytesOf_length]; omega) (by rw [bytesOf_length]; omega)
      rw [hpf, Option.getD_some] at ho
      subst ho
      have hcall := find_calls (w := w4) (cB := c) (anc := anc) (nc := (nc : Int)) (by omega) HBB.out HT1.out t2 HC4.out hfs hpf
      have HCALL := Aside0.mk hcall
      have hcut : (anc = false) ∨ (anc = true ∧ fn = 0) := by
        cases anc with
        | false => exact .inl rfl
        | true => exact .inr ⟨rfl, by have : ¬ (0 : Int) < (fn : Int) := fun h => hop ⟨rfl, h⟩; omega⟩
      have hcode := pFind_code _ _ _ _ hpf
      have HCB := Aside0.mk (fun a en caps (he : of = (0, some (a, en, caps))) => HT4.out HBB.out h2n _ _ _ a en caps (he ▸ hpf))
      clear hcall hpf HO2 HT1 HT3 HT4 HC4 hop
      rcases hcut with rfl | ⟨rfl, rfl⟩
      · have q0 : True := trivial
        go_wp2_with fail
        refine HCALL.out.mono ?_
        rintro e5 w5 ⟨hb5, hm5⟩
        have HB5 := Aside0.mk (HB4.out.trans (hb5.mono HB4.out.size))
        have HV5 := Aside0.mk ((hb5.block _ (blk_lt HV4.out)).trans HV4.out)
        clear HCALL hb5 a0 a1 a2 z0 z1 z2 f0 f1 f2 HB4 HV4 HW4
        rcases hcode with (rfl | rfl) | ⟨⟨at_, en, caps⟩, rfl⟩
        · simp only at hm5
          subst hm5
          have HB6 := Aside0.mk (below_alloc HB5.out (.cells #[.int .i64 0, .int .i64 0, .slice none 0 0] 53))
          have HV6 := Aside0.mk (blk_alloc HV5.out (.cells #[.int .i64 0, .int .i64 0, .slice none 0 0] 53))
          have z0 := blk_cell HV6.out 0
          have z1 := blk_cell HV6.out 1
          have z2 := blk_cell HV6.out 2
          have f0 := blk_frozen HV6.out 0
          have f1 := blk_frozen HV6.out 1
          have f2 := blk_frozen HV6.out 2
          go_wp2_with fail
          refine bodyPost_ret (v := .tuple #[.agg #[.int .i64 0, .int .i64 0, .slice none 0 0], .int .i64 1]) ?_ rfl (ZERO.out _ HB6.out HV6.out 1 rfl)
          simp [results, Tryf.results11, go_sem, z0, z1, z2]
        · simp only at hm5
          subst hm5
          have HB6 := Aside0.mk (below_alloc HB5.out (.cells #[.int .i64 0, .int .i64 0, .slice none 0 0] 53))
          have HV6 := Aside0.mk (blk_alloc HV5.out (.cells #[.int .i64 0, .int .i64 0, .slice none 0 0] 53))
          have z0 := blk_cell HV6.out 0
          have z1 := blk_cell HV6.out 1
          have z2 := blk_cell HV6.out 2
          have f0 := blk_frozen HV6.out 0
          have f1 := blk_frozen HV6.out 1
          have f2 := blk_frozen HV6.out 2
          go_wp2_with fail
          refine bodyPost_ret (v := .tuple #[.agg #[.int .i64 0, .int .i64 0, .slice none 0 0], .int .i64 2]) ?_ rfl (ZERO.out _ HB6.out HV6.out 2 rfl)
          simp [results, Tryf.results11, go_sem, z0, z1, z2]
        · simp only at hm5
          obtain ⟨A5, c5, he5, hl5, hc5⟩ := hm5
          subst he5
          obtain ⟨hn5, hx5⟩ := HCB.out at_ en caps rfl
          have HB6 := Aside0.mk (below_alloc HB5.out (.cells #[.int .i64 (at_ : Int), .int .i64 (en : Int), .slice A5 caps.length c5] 53))
          have HV6 := Aside0.mk (blk_alloc HV5.out (.cells #[.int .i64 (at_ : Int), .int .i64 (en : Int), .slice A5 caps.length c5] 53))
          have hfo := found_calls (w := w5.alloc (.cells #[.int .i64 (at_ : Int), .int .i64 (en : Int), .slice A5 caps.length c5] 53)) (at_ := at_) (en := en) (Kd.C_below hc5 (below_alloc (Below.refl w5.heap.size w5) _)) hl5 hn5 hx5
          have HFO := Aside0.mk hfo
          clear hfo hc5 hx5 HCB ZERO HV5 HB5
          go_wp2_with fail
          refine HFO.out.mono ?_
          rintro e7 w7 ⟨A7, c7, he7, hb7, hR7⟩
          subst he7
          have HB7 := Aside0.mk (HB6.out.trans (hb7.mono HB6.out.size))
          have HV7 := Aside0.mk ((hb7.block _ (blk_lt HV6.out)).trans HV6.out)
          have HR7 := Aside0.mk hR7
          have z0 := blk_cell HV7.out 0
          have z1 := blk_cell HV7.out 1
          have z2 := blk_cell HV7.out 2
          have f0 := blk_frozen HV7.out 0
          have f1 := blk_frozen HV7.out 1
          have f2 := blk_frozen HV7.out 2
          clear hb7 hR7 HB6 HV6 HFO
          go_wp2_with fail
          have hkg : Kept w7 (((w7.setCell ⟨w.heap.size, 0, none⟩ (.int .i64 (at_ : Int))).setCell ⟨w.heap.size, 1, none⟩ (.int .i64 (en : Int))).setCell ⟨w.heap.size, 2, none⟩ (.slice A7 caps.length c7)) (fun k => k = w.heap.size) :=
            (((Kept.refl w7 (fun k => k = w.heap.size)).setCell (p := ⟨w.heap.size, 0, none⟩) (.inl rfl) _).setCell (p := ⟨w.heap.size, 1, none⟩) (.inl rfl) _).setCell (p := ⟨w.heap.size, 2, none⟩) (.inl rfl) _
          have hR := R_apart HR7.out hkg (by
            rintro k rfl _
            exact ⟨30, _, HV7.out, by simp [E65]⟩)
          obtain ⟨_, r2, r3⟩ := Kd.R_reads' hR
          rw [List.length_map] at r3
          refine bodyPost_ret (v := .tuple #[.agg #[.int .i64 (at_ : Int), .int .i64 (en : Int), .slice A7 caps.length c7], .int .i64 0]) ?_ rfl ⟨?_, A7, c7, rfl, r2, r3⟩
          · simp [results, Tryf.results11, go_sem, z0, z1, z2]
          · exact ((HB7.out.setCell (p := ⟨w.heap.size, 0, none⟩) (Nat.le_refl _) _).setCell (p := ⟨w.heap.size, 1, none⟩) (Nat.le_refl _) _).setCell (p := ⟨w.heap.size, 2, none⟩) (Nat.le_refl _) _
      · have q0 : True := trivial
        go_wp2_with fail
        refine HCALL.out.mono ?_
        rintro e5 w5 ⟨hb5, hm5⟩
        have HB5 := Aside0.mk (HB4.out.trans (hb5.mono HB4.out.size))
        have HV5 := Aside0.mk ((hb5.block _ (blk_lt HV4.out)).trans HV4.out)
        clear HCALL hb5 a0 a1 a2 z0 z1 z2 f0 f1 f2 HB4 HV4 HW4
        rcases hcode with (rfl | rfl) | ⟨⟨at_, en, caps⟩, rfl⟩
        · simp only at hm5
          subst hm5
          have HB6 := Aside0.mk (below_alloc HB5.out (.cells #[.int .i64 0, .int .i64 0, .slice none 0 0] 53))
          have HV6 := Aside0.mk (blk_alloc HV5.out (.cells #[.int .i64 0, .int .i64 0, .slice none 0 0] 53))
          have z0 := blk_cell HV6.out 0
          have z1 := blk_cell HV6.out 1
          have z2 := blk_cell HV6.out 2
          have f0 := blk_frozen HV6.out 0
          have f1 := blk_frozen HV6.out 1
          have f2 := blk_frozen HV6.out 2
          go_wp2_with fail
          refine bodyPost_ret (v := .tuple #[.agg #[.int .i64 0, .int .i64 0, .slice none 0 0], .int .i64 1]) ?_ rfl (ZERO.out _ HB6.out HV6.out 1 rfl)
          simp [results, Tryf.results11, go_sem, z0, z1, z2]
        · simp only at hm5
          subst hm5
          have HB6 := Aside0.mk (below_alloc HB5.out (.cells #[.int .i64 0, .int .i64 0, .slice none 0 0] 53))
          have HV6 := Aside0.mk (blk_alloc HV5.out (.cells #[.int .i64 0, .int .i64 0, .slice none 0 0] 53))
          have z0 := blk_cell HV6.out 0
          have z1 := blk_cell HV6.out 1
          have z2 := blk_cell HV6.out 2
          have f0 := blk_frozen HV6.out 0
          have f1 := blk_frozen HV6.out 1
          have f2 := blk_frozen HV6.out 2
          go_wp2_with fail
          refine bodyPost_ret (v := .tuple #[.agg #[.int .i64 0, .int .i64 0, .slice none 0 0], .int .i64 2]) ?_ rfl (ZERO.out _ HB6.out HV6.out 2 rfl)
          simp [results, Tryf.results11, go_sem, z0, z1, z2]
        · simp only at hm5
          obtain ⟨A5, c5, he5, hl5, hc5⟩ := hm5
          subst he5
          obtain ⟨hn5, hx5⟩ := HCB.out at_ en caps rfl
          have HB6 := Aside0.mk (below_alloc HB5.out (.cells #[.int .i64 (at_ : Int), .int .i64 (en : Int), .slice A5 caps.length c5] 53))
          have HV6 := Aside0.mk (blk_alloc HV5.out (.cells #[.int .i64 (at_ : Int), .int .i64 (en : Int), .slice A5 caps.length c5] 53))
          have hfo := found_calls (w := w5.alloc (.cells #[.int .i64 (at_ : Int), .int .i64 (en : Int), .slice A5 caps.length c5] 53)) (at_ := at_) (en := en) (Kd.C_below hc5 (below_alloc (Below.refl w5.heap.size w5) _)) hl5 hn5 hx5
          have HFO := Aside0.mk hfo
          clear hfo hc5 hx5 HCB ZERO HV5 HB5
          go_wp2_with fail
          refine HFO.out.mono ?_
          rintro e7 w7 ⟨A7, c7, he7, hb7, hR7⟩
          subst he7
          have HB7 := Aside0.mk (HB6.out.trans (hb7.mono HB6.out.size))
          have HV7 := Aside0.mk ((hb7.block _ (blk_lt HV6.out)).trans HV6.out)
          have HR7 := Aside0.mk hR7
          have z0 := blk_cell HV7.out 0
          have z1 := blk_cell HV7.out 1
          have z2 := blk_cell HV7.out 2
          have f0 := blk_frozen HV7.out 0
          have f1 := blk_frozen HV7.out 1
          have f2 := blk_frozen HV7.out 2
          clear hb7 hR7 HB6 HV6 HFO
          go_wp2_with fail
          have hkg : Kept w7 (((w7.setCell ⟨w.heap.size, 0, none⟩ (.int .i64 (at_ : Int))).setCell ⟨w.heap.size, 1, none⟩ (.int .i64 (en : Int))).setCell ⟨w.heap.size, 2, none⟩ (.slice A7 caps.length c7)) (fun k => k = w.heap.size) :=
            (((Kept.refl w7 (fun k => k = w.heap.size)).setCell (p := ⟨w.heap.size, 0, none⟩) (.inl rfl) _).setCell (p := ⟨w.heap.size, 1, none⟩) (.inl rfl) _).setCell (p := ⟨w.heap.size, 2, none⟩) (.inl rfl) _
          have hR := R_apart HR7.out hkg (by
            rintro k rfl _
            exact ⟨30, _, HV7.out, by simp [E65]⟩)
          obtain ⟨_, r2, r3⟩ := Kd.R_reads' hR
          rw [List.length_map] at r3
          refine bodyPost_ret (v := .tuple #[.agg #[.int .i64 (at_ : Int), .int .i64 (en : Int), .slice A7 caps.length c7], .int .i64 0]) ?_ rfl ⟨?_, A7, c7, rfl, r2, r3⟩
          · simp [results, Tryf.results11, go_sem, z0, z1, z2]
          · exact ((HB7.out.setCell (p := ⟨w.heap.size, 0, none⟩) (Nat.le_refl _) _).setCell (p := ⟨w.heap.size, 1, none⟩) (Nat.le_refl _) _).setCell (p := ⟨w.heap.size, 2, none⟩) (Nat.le_refl _) _
end
end Go.Proofs.YtpjfjfloeejgiaaFmt.Rf
