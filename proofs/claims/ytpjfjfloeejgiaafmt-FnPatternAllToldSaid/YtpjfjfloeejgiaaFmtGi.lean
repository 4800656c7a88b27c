/- Joined texts of this seat: Vmb. -/
import Derived.Test.YtpjfjfloeejgiaaFmtGh
/- recursiveVM of package pm: the walk. -/
set_option linter.unusedVariables false
set_option linter.unusedSimpArgs false
namespace Go.Proofs.YtpjfjfloeejgiaaFmt.Vm
open Go.RowKit Go.Proofs.YtpjfjfloeejgiaaFmtW.PrintWords Go.Proofs.YtpjfjfloeejgiaaFmt.Scan Go.Proofs.YtpjfjfloeejgiaaFmt.Cls Go.Proofs.YtpjfjfloeejgiaaFmt.Ins Go.Proofs.YtpjfjfloeejgiaaFmt.Mst Go.Proofs.YtpjfjfloeejgiaaFmt.Mat

theorem cls_step {w : World} {base : Nat} {ok : Nat → Prop} {ch : Int} {c : Cls} {v : Value} (h : ClsAt w base ok v c) (hl : ∀ neg al, c = .set neg al → al.length ≤ 1000000) :
    ∃ q t K1, v = .iface t (.pointer (some ⟨q, 0, none⟩)) ∧ (∀ w' : World, (method 292 t (.pointer (some ⟨q, 0, none⟩)) "Matches").run Tryf.prog w' = .ok (K1, .pointer (some ⟨q, 0, none⟩)) w') ∧ (K1 = 80 ∨ K1 = 81 ∨ K1 = 82 ∨ K1 = 83 ∨ K1 = 84) ∧
      ∀ W : World, (∀ k, k < w.heap.size → W.heap[k]? = w.heap[k]?) → Calls Tryf.prog K1 #[.pointer (some ⟨q, 0, none⟩), .int .i64 ch] W (fun e w' => e = .returned (.bool (clsm c ch)) ∧ W = w') := by
  obtain ⟨q, t, K1, e, hme, hK, _⟩ := cls_any (ch := ch) h hl
  refine ⟨q, t, K1, e, hme, hK, fun W hW => ?_⟩
  obtain ⟨q', t', K1', e', hme', _, hC⟩ := cls_any (ch := ch) (h.step (fun k _ hk => hW k hk)) hl
  rw [e] at e'
  cases e'
  have h1 := (hme W).symm.trans (hme' W)
  injection h1 with h1 _
  obtain rfl : K1 = K1' := congrArg Prod.fst h1
  exact hC
theorem info5 : (Tryf.prog.info? 5).map (fun i => i.size) = some 1 := by kernel_rfl
theorem cut46 (A : Option Addr) (n c s e : Nat) (h1 : s ≤ e) (h2 : e ≤ n) (hc : n ≤ c) (W : World) : (Instr.slice 46 (.slice A n c) (some (.int .i64 (s : Int))) (some (.int .i64 (e : Int))) none).run Tryf.prog W = .ok (.slice (if c = s then A else A.map (·.add s)) (e - s) (c - s)) W := by
  have h := info5
  cases hi : Tryf.prog.info? 5 with
  | none => rw [hi] at h; cases h
  | some i =>
    rw [hi] at h
    have hz : i.size = 1 := Option.some.inj h
    have := cut_mid 46 5 .i64 .i64 Tryf.underlying46 hi 1 hz A n c (s : Int) (e : Int) (by omega) (by omega) (by omega) hc W
    simpa only [Int.toNat_natCast, Nat.mul_one] using this
theorem take_eq_of {src : List Int} {s sp n : Nat} (hs : s + n ≤ src.length) (hsp : sp + n ≤ src.length) (h : ∀ j : Nat, j < n → rd src ((s + j : Nat) : Int) = rd src ((sp + j : Nat) : Int)) : (src.drop s).take n = (src.drop sp).take n := by
  apply List.ext_getElem
  · simp only [List.length_take, List.length_drop]; omega
  · intro j h1 h2
    simp only [List.length_take, List.length_drop] at h1 h2
    have := h j (by omega)
    simp only [rd, Int.toNat_natCast, List.getD_eq_getElem?_getD] at this
    rw [List.getElem?_eq_getElem (by omega), List.getElem?_eq_getElem (by omega)] at this
    simpa using this
theorem take_ne_of {src : List Int} {s sp n j : Nat} (hs : s + n ≤ src.length) (hj : j < n) (h : sp + j < src.length → rd src ((s + j : Nat) : Int) ≠ rd src ((sp + j : Nat) : Int)) : (src.drop s).take n ≠ (src.drop sp).take n := by
  intro e
  have h1 := congrArg (fun l => l[j]?) e
  simp only [List.getElem?_take, List.getElem?_drop, if_pos hj] at h1
  rw [List.getElem?_eq_getElem (by omega)] at h1
  by_cases hl : sp + j < src.length
  · refine h hl ?_
    rw [List.getElem?_eq_getElem hl] at h1
    simp only [rd, Int.toNat_natCast, List.getD_eq_getElem?_getD]
    rw [List.getElem?_eq_getElem (by omega), List.getElem?_eq_getElem hl]
    exact congrArg (fun o => Option.getD o 0) h1
  · rw [List.getElem?_eq_none (by omega)] at h1; cases h1

/-- What the matcher's first call finds: the subject, the instructions. -/
structure Env (w : World) (base : Nat) (ok : Nat → Prop) (A : Option Addr) (src : List Int) (c1 r c2 : Nat) (P : List Ins) : Prop where
  cap : src.length ≤ c1
  src : Src w A src
  row : insK.R 138 w base ok (.slice (some ⟨r, 0, none⟩) P.length c2) P
  len : P.length ≤ 900000
  sets : ∀ c, Ins.chr c ∈ P → ∀ neg al, c = .set neg al → al.length ≤ 1000000
  ops : ∀ o a b, Ins.op o a b ∈ P → (o = 3 ∨ o = 4 → 0 ≤ a ∧ a ≤ 1000000 ∧ (o = 4 → 0 ≤ b ∧ b ≤ 1000000)) ∧ (o = 5 ∨ o = 6 ∨ o = 8 → 0 ≤ a ∧ a ≤ 900)
/-- What stands at the label. -/
def VmR (w : Ref) (src : List Int) (P : List Ins) (rl g : Nat) (res : Option Nat × List Int) (pc sp k K : Nat) (wr : World) : Prop :=
  k ≤ K ∧ ∃ cs v, vm src P k rl pc sp cs = some res ∧ MU w wr g cs v ∧ sp ≤ src.length ∧ Few cs
def VmJ (w : Ref) (A : Option Addr) (n c1 r c2 : Nat) (src : List Int) (P : List Ins) (rl g : Nat) (res : Option Nat × List Int) (K k : Nat) (a : Act) (wr : World) : Prop :=
  ∃ pc sp, AtVm A (some ⟨r, 0, none⟩) n c1 P.length c2 pc sp rl g (VmR w src P rl g res pc sp k K) a wr
/-- What a call leaves. -/
def VmE (w : Ref) (g : Nat) (res : Option Nat × List Int) (e : Ending) (w' : World) : Prop :=
  ∃ v n, e = .returned (.tuple #[.bool res.1.isSome, .int .i64 ((n : Nat) : Int), .pointer (some ⟨g, 0, none⟩)]) ∧ (∀ m, res.1 = some m → n = m) ∧ MU w w' g res.2 v

/-- What a call does, its fuel k. -/
def VmC (w : World) (A : Option Addr) (c1 r c2 : Nat) (src : List Int) (P : List Ins) (k : Nat) : Prop :=
  ∀ (u : World) (Z : Nat → Prop) (wr : World) (rl pc sp b g : Nat) (cs : List Int) (v : Value) (res : Option Nat × List Int), MU ⟨w, u, Z⟩ wr g cs v → wr.cell? ⟨b, 0, none⟩ = some (.pointer (some ⟨g, 0, none⟩)) → rl < 1000000 → pc ≤ 1000000 → sp ≤ src.length → Few cs →
    vm src P k (rl + 1) pc sp cs = some res → Calls Tryf.prog 29 #[.slice A src.length c1, .slice (some ⟨r, 0, none⟩) P.length c2, .int .i64 pc, .int .i64 sp, .int .i64 rl, .slice (some ⟨b, 0, none⟩) 1 1] wr (VmE ⟨w, u, Z⟩ g res)
section
variable {w wr u0 : World} {Z : Nat → Prop} {base : Nat} {ok : Nat → Prop} {A : Option Addr} {src : List Int} {c1 r c2 g : Nat} {P : List Ins}
set_option maxHeartbeats 40000000 in
set_option maxRecDepth 100000 in
theorem vm_walk {k rl pc sp : Nat} {cs : List Int} {ms : Value} {res : Option Nat × List Int} (hE : Env w base ok A src c1 r c2 P)
    (h : (∃ (b : Nat) (v : Value), ms = .slice (some ⟨b, 0, none⟩) 1 1 ∧ MU ⟨w, u0, Z⟩ wr g cs v ∧ wr.cell? ⟨b, 0, none⟩ = some (.pointer (some ⟨g, 0, none⟩))) ∨ (ms = .slice none 0 0 ∧ Below w.heap.size w wr ∧ (∀ k, Z k → k < wr.heap.size ∧ wr.heap[k]? = u0.heap[k]?) ∧ g = wr.heap.size + 1 ∧ cs = []))
    (hrl : rl < 1000000) (hpc : pc ≤ 1000000) (hsp : sp ≤ src.length) (hcs : Few cs)
    (hv : vm src P k (rl + 1) pc sp cs = some res) (ih : ∀ k', k' < k → VmC w A c1 r c2 src P k') :
    Calls Tryf.prog 29 #[.slice A src.length c1, .slice (some ⟨r, 0, none⟩) P.length c2, .int .i64 pc, .int .i64 sp, .int .i64 rl, ms] wr (VmE ⟨w, u0, Z⟩ g res) := by
  have HE := Aside0.mk hE
  have IH := Aside0.mk ih
  have H := Aside0.mk h
  have HV := Aside0.mk hv
  have HSP := Aside0.mk hsp
  have HCS := Aside0.mk hcs
  have hgt : decide ((1000000 : Int) < (rl : Int) + 1) = false := by simp; omega
  have hwr : IntKind.i64.wrap ((rl : Int) + 1) = (rl : Int) + 1 := IntWalk.i64_in _ (by omega)
  have HRL := Aside0.mk hrl
  have HPC := Aside0.mk hpc
  clear hE h hv hrl hpc hsp hcs ih
  go_enter Tryf.func29, Tryf.ntmps29
  go_wp2_with fail
  refine wp_scope_ghost' 0 (VmJ ⟨w, u0, Z⟩ A src.length c1 r c2 src P (rl + 1) g res k) rfl ?_ ?_
  · intro hrest
    have HR := Aside0.mk hrest
    clear hrest
    rcases H.out with ⟨b, v, rfl, h, hb⟩ | ⟨rfl, hB, hz, rfl, rfl⟩
    · clear H
      have H := Aside0.mk h
      clear h
      go_upto_if 36 with (fail)
      go_cut [15] from 37 to 40 (fun v wc => v = .pointer (some ⟨g, 0, none⟩) ∧ wc = wr)
      case first =>
        clear HR
        go_wp2
        go_meet
        case rel => exact ⟨rfl, rfl⟩
      obtain ⟨rfl, rfl⟩ := hcut
      rename_i hK
      refine hK _ _ ?_
      refine wp_seq (wp_label ?_)
      refine HR.out k _ _ ?_
      exact ⟨_, _, rfl, rfl, ⟨rfl, rfl, rfl, rfl, rfl, rfl⟩, ⟨Nat.le_refl _, _, _, HV.out, H.out, HSP.out, HCS.out⟩⟩
    · clear H
      have HN := Aside0.mk (new_cap (w := ⟨w, u0, Z⟩) hB hz)
      clear hB hz
      go_upto_if 36 with (fail)
      go_cut [15] from 37 to 40 (fun v wc => v = .pointer (some ⟨wr.heap.size + 1, 0, none⟩) ∧ ∃ v, MU ⟨w, u0, Z⟩ wc (wr.heap.size + 1) [] v)
      case first =>
        clear HR
        go_wp2_with fail
        refine HN.out.mono ?_
        rintro e w5 ⟨v5, he5, h5⟩
        subst he5
        have H5 := Aside0.mk h5
        clear h5 HN
        go_wp2_with fail
        go_meet
        case rel => exact ⟨rfl, _, H5.out⟩
      obtain ⟨rfl, v, h⟩ := hcut
      rename_i hK
      refine hK _ _ ?_
      refine wp_seq (wp_label ?_)
      refine HR.out k _ _ ?_
      exact ⟨_, _, rfl, rfl, ⟨rfl, rfl, rfl, rfl, rfl, rfl⟩, ⟨Nat.le_refl _, _, _, HV.out, h, HSP.out, HCS.out⟩⟩
  · intro j a wr2 hJ
    obtain ⟨pc2, sp2, hA⟩ := hJ
    obtain ⟨⟨u, rfl⟩, hjk, cs2, v2, hv2, h2, hsp2, hcs2⟩ := hA.open_
    clear hA H HV HSP HCS HPC
    obtain ⟨k2, rfl⟩ : ∃ k2, j = k2 + 1 := by
      cases j with
      | zero => exact absurd hv2 (by simp [vm])
      | succ m => exact ⟨m, rfl⟩
    obtain ⟨x, hx⟩ : ∃ x, P[pc2]? = some x := by
      cases hP : P[pc2]? with
      | none => unfold vm at hv2; simp [hP] at hv2
      | some x => exact ⟨x, rfl⟩
    obtain ⟨hpl, hpx⟩ := List.getElem?_eq_some_iff.1 hx
    obtain ⟨ce, hcl, hM, hce, _⟩ := Kd.R_elem HE.out.row (Ins.op 1 0 0) (pc2 : Nat) (by omega) (by omega)
    have hgx : P.getD ((pc2 : Nat) : Int).toNat (Ins.op 1 0 0) = x := by simp [List.getD_eq_getElem?_getD, hx]
    rw [hgx] at hM
    have hce' : ∀ j u, ce[j]? = some u → wr2.cell? ⟨r, pc2 * 4 + j, none⟩ = some u := fun j u hj => pw_cell_below h2.b (hce j u hj)
    cases x with
    | chr c =>
      obtain ⟨vc, hcv, hca⟩ := hM
      subst hcv
      have e0 := hce' 0 _ rfl
      have e1 := hce' 1 _ rfl
      have e2 := hce' 2 _ rfl
      have e3 := hce' 3 _ rfl
      simp only [Nat.add_zero] at e0
      have hpI : (pc2 : Int) < (P.length : Int) := by omega
      have hcl := HE.out.len
      have hsl := HE.out.src.n
      unfold vm at hv2
      rw [hx] at hv2
      simp only at hv2
      have H3 := Aside0.mk (fun n => (h2.alloc (.cells #[.int .i64 0, vc, .int .i64 (-1), .int .i64 (-1)] 138)).drewN n)
      have e4 := blk_cell (blk_new wr2 (.cells #[.int .i64 0, vc, .int .i64 (-1), .int .i64 (-1)] 138)) 1
      have HX := Aside0.mk hx
      by_cases hlt : sp2 < src.length
      · rw [if_pos hlt] at hv2
        have hbI : ¬ ((src.length : Int) ≤ (sp2 : Int)) := by omega
        have hbJ : (sp2 : Int) < (src.length : Int) := by omega
        obtain ⟨hr0, hr1⟩ := HE.out.src.chr hlt
        obtain ⟨ad, hA, hxs⟩ := Kd.at_int HE.out.src.c (sp2 : Int) (by omega) (by omega)
        subst hA
        have hx2 := pw_cell_below (below_alloc h2.b (.cells #[.int .i64 0, vc, .int .i64 (-1), .int .i64 (-1)] 138)) hxs
        simp only [Int.toNat_natCast] at hx2
        obtain ⟨q, t, K1, hvc, hme, hK1, hCC⟩ := cls_step (ch := rd src sp2) hca (fun neg al e => HE.out.sets c (List.mem_of_getElem? hx) neg al e)
        subst hvc
        have HCC := Aside0.mk (fun n => hCC ((wr2.alloc (.cells #[.int .i64 0, .iface t (.pointer (some ⟨q, 0, none⟩)), .int .i64 (-1), .int .i64 (-1)] 138)).drewN n) (fun k hk => (below_alloc h2.b (.cells #[.int .i64 0, .iface t (.pointer (some ⟨q, 0, none⟩)), .int .i64 (-1), .int .i64 (-1)] 138)).block k hk))
        have hwc : IntKind.i64.wrap (rd src sp2) = rd src sp2 := IntWalk.i64_in _ (by omega)
        generalize rd src sp2 = ch at hv2 hr0 hr1 hx2 HCC hwc
        generalize hres : clsm c ch = bres at hv2 HCC
        have HV2 := Aside0.mk hv2
        clear hce hce' hgx hcl h2 hv2 hx hpx HRL hxs hca hCC hres
        go_upto_region 11 with (fail)
        go_cut [65] from 49 to 66 (fun a wc => a = .bool (!bres) ∧ ∃ n, wc = (wr2.alloc (.cells #[.int .i64 0, .iface t (.pointer (some ⟨q, 0, none⟩)), .int .i64 (-1), .int .i64 (-1)] 138)).drewN n)
        case first =>
          rcases hK1 with rfl | rfl | rfl | rfl | rfl
          all_goals
            go_quiet (first | (refine Calls.quiet_of_same (v := .bool bres) ((HCC.out _).mono ?_); rintro e w' ⟨he, hw⟩; exact ⟨he, hw.symm⟩))
            go_wp2
            go_meet
            case rel => exact ⟨rfl, _, rfl⟩
        obtain ⟨rfl, n, rfl⟩ := hcut
        clear hme hK1 e0 e1 e2 e3 e4 hx2
        cases bres with
        | true =>
          have hv4 := HV2.out
          rw [if_pos rfl] at hv4
          have HV4 := Aside0.mk hv4
          clear hv4 HV2 HCC
          have q6 : IntKind.i64.wrap ((pc2 : Int) + 1) = (pc2 : Int) + 1 := IntWalk.i64_in _ (by omega)
          have q7 : IntKind.i64.wrap ((sp2 : Int) + 1) = (sp2 : Int) + 1 := IntWalk.i64_in _ (by omega)
          go_wp2
          go_step3
          exact ⟨rfl, k2, by omega, pc2 + 1, sp2 + 1, rfl, rfl, ⟨rfl, rfl, congrArg (Value.int .i64) (Int.natCast_succ pc2).symm, congrArg (Value.int .i64) (Int.natCast_succ sp2).symm, rfl, rfl⟩, ⟨by omega, _, _, HV4.out, H3.out _, hlt, hcs2⟩⟩
        | false =>
          have hv4 := HV2.out
          rw [if_neg (by decide)] at hv4
          have hv5 := Option.some.inj hv4
          subst hv5
          clear hv4 HV2 HCC
          go_wp2
          simp only [Exit.jump]
          go_ret3
          exact ⟨_, sp2, rfl, fun m hm => (nomatch hm), H3.out _⟩
      · rw [if_neg hlt] at hv2
        have hv5 := Option.some.inj hv2
        subst hv5
        have hbI : (src.length : Int) ≤ (sp2 : Int) := by omega
        obtain ⟨q, t, K1, hvc, _, _, _⟩ := cls_step (ch := 0) hca (fun neg al e => HE.out.sets c (List.mem_of_getElem? hx) neg al e)
        subst hvc
        clear hce hce' hgx hcl h2 hv2 hx hpx HRL hca
        go_upto_region 11 with (fail)
        go_quiet (fail)
        go_wp2
        simp only [Exit.jump]
        go_ret3
        exact ⟨_, sp2, rfl, fun m hm => (nomatch hm), H3.out _⟩
    | op o p1 p2 =>
      have hM' : ce = [.int .i64 o, .nilIface, .int .i64 p1, .int .i64 p2] := hM
      subst hM'
      have e0 := hce' 0 _ rfl
      have e1 := hce' 1 _ rfl
      have e2 := hce' 2 _ rfl
      have e3 := hce' 3 _ rfl
      simp only [Nat.add_zero] at e0
      have hpI : (pc2 : Int) < (P.length : Int) := by omega
      have H2 := Aside0.mk h2
      have HV2 := Aside0.mk hv2
      have HX := Aside0.mk hx
      clear hce hce' hgx hM hcl h2 hv2 hx hpx HRL
      go_upto_region 10 with (fail)
      have H3 := Aside0.mk (H2.out.alloc (.cells #[.int .i64 o, .nilIface, .int .i64 p1, .int .i64 p2] 138))
      have HZ := Aside0.mk (H2.out.zone (.cells #[.int .i64 o, .nilIface, .int .i64 p1, .int .i64 p2] 138))
      clear H2 e0 e1 e2 e3
      have hv3 := HV2.out
      unfold vm at hv3
      rw [HX.out] at hv3
      simp only at hv3
      by_cases o1 : o = 1
      · rw [if_pos o1] at hv3
        subst o1
        obtain rfl := Option.some.inj hv3
        clear hv3 HV2
        go_wp2
        simp only [Exit.jump]
        go_ret3
        exact ⟨_, sp2, rfl, fun m hm => Option.some.inj hm, H3.out⟩
      rw [if_neg o1] at hv3
      by_cases o2 : o = 2
      · rw [if_pos o2] at hv3
        subst o2
        clear HV2 o1
        by_cases hle : src.length ≤ sp2
        · have hleI : (src.length : Int) ≤ (sp2 : Int) := by omega
          rw [if_pos hle] at hv3
          obtain rfl := Option.some.inj hv3
          clear hv3
          go_wp2
          simp only [Exit.jump]
          go_ret3
          exact ⟨_, sp2, rfl, fun m hm => Option.some.inj hm, H3.out⟩
        · have hleI : (sp2 : Int) < (src.length : Int) := by omega
          rw [if_neg hle] at hv3
          obtain rfl := Option.some.inj hv3
          clear hv3
          go_wp2
          simp only [Exit.jump]
          go_ret3
          exact ⟨_, sp2, rfl, fun m hm => (nomatch hm), H3.out⟩
      rw [if_neg o2] at hv3
      by_cases o3 : o = 3
      · rw [if_pos o3] at hv3
        subst o3
        clear HV2 o1 o2
        have hop := (HE.out.ops 3 p1 p2 (List.mem_of_getElem? HX.out)).1 (.inl rfl)
        obtain ⟨p, rfl⟩ : ∃ p : Nat, p1 = p := ⟨p1.toNat, by omega⟩
        have HV3 := Aside0.mk hv3
        clear hv3 hop
        go_wp2
        go_step3
        refine ⟨rfl, k2, by omega, _, _, rfl, rfl, ⟨rfl, rfl, rfl, rfl, rfl, rfl⟩, ⟨by omega, _, _, HV3.out, H3.out, hsp2, hcs2⟩⟩
      rw [if_neg o3] at hv3
      by_cases o4 : o = 4
      · rw [if_pos o4] at hv3
        subst o4
        clear HV2 o1 o2 o3
        have hop := (HE.out.ops 4 p1 p2 (List.mem_of_getElem? HX.out)).1 (.inr rfl)
        have hop2 := hop.2.2 rfl
        obtain ⟨p, rfl⟩ : ∃ p : Nat, p1 = p := ⟨p1.toNat, by omega⟩
        obtain ⟨p', rfl⟩ : ∃ p : Nat, p2 = p := ⟨p2.toNat, by omega⟩
        simp only [Int.toNat_natCast] at hv3
        by_cases hr : 1000000 ≤ rl + 1
        · rw [if_pos hr] at hv3; cases hv3
        rw [if_neg hr] at hv3
        cases hc : vm src P k2 (rl + 1 + 1) p sp2 cs2 with
        | none => rw [hc] at hv3; cases hv3
        | some y =>
          obtain ⟨y1, cs3⟩ := y
          rw [hc] at hv3
          have hlen := vm_few HE.out.src.n (fun o a b hm h56 => (HE.out.ops o a b hm).2 (h56.elim .inl (fun h => .inr (.inl h)))) _ _ _ _ _ _ hc hsp2 hcs2
          have hcc := IH.out k2 (by omega) _ _ _ (rl + 1) p sp2 (wr2.heap.size + 1) g cs2 _ _ (HZ.out.alloc (.cells #[.pointer (some ⟨g, 0, none⟩)] 60)) (by have h := blk_cell (blk_new (wr2.alloc (.cells #[.int .i64 4, .nilIface, .int .i64 (p : Int), .int .i64 (p' : Int)] 138)) (.cells #[.pointer (some ⟨g, 0, none⟩)] 60)) 0; rw [World.size_alloc] at h; exact h) (by omega) (by omega) hsp2 hcs2 hc
          rw [Int.natCast_add, Int.natCast_one] at hcc
          have HCC := Aside0.mk hcc
          clear hcc
          have HLEN := Aside0.mk hlen
          have HV3 := Aside0.mk hv3
          clear hop hop2 hr hc hlen hv3
          go_upto_region 22 with (fail)
          go_cut [17, 18] from 90 to 103 (fun a b wc => a = .bool y1.isSome ∧ (∃ n : Nat, b = .int .i64 n ∧ ∀ m, y1 = some m → n = m) ∧ wc.cell? ⟨wr2.heap.size, 3, none⟩ = some (.int .i64 p') ∧ ∃ v5, MU ⟨w, u0, Z⟩ wc g cs3 v5)
          case first =>
            go_wp2_with fail
            refine HCC.out.mono ?_
            rintro e w5 ⟨v5, n5, he5, hn5, h5⟩
            subst he5
            have H5 := Aside0.mk h5
            have HN5 := Aside0.mk hn5
            clear h5 hn5 HCC
            go_wp2_with fail
            go_meet
            case rel =>
              refine ⟨rfl, ⟨n5, rfl, HN5.out⟩, ?_, v5, H5.out.less (w := ⟨w, u0, Z⟩) (fun k hk => .inl hk) (fun k hk => (H3.out.z k hk).2.2)⟩
              exact blk_cell ((H5.out.z _ (.inr rfl)).2.2.trans (blk_new _ _)) 3
          obtain ⟨rfl, ⟨n5, rfl, hn5⟩, e5, v5, h5⟩ := hcut
          have HN5 := Aside0.mk hn5
          have H5 := Aside0.mk h5
          clear hn5 h5 HZ H3 HCC
          cases y1 with
          | some n =>
            have hv4 := HV3.out
            simp only at hv4
            obtain rfl := Option.some.inj hv4
            clear hv4 HV3
            go_wp2
            simp only [Exit.jump]
            go_ret3
            exact ⟨_, n5, rfl, fun m hm => HN5.out m hm, H5.out⟩
          | none =>
            have HV4 := Aside0.mk (show vm src P k2 (rl + 1) p' sp2 cs3 = some res from HV3.out)
            clear HV3
            go_wp2
            go_step3
            exact ⟨rfl, k2, by omega, _, _, rfl, rfl, ⟨rfl, rfl, rfl, rfl, rfl, rfl⟩, ⟨by omega, _, _, HV4.out, H5.out, hsp2, HLEN.out⟩⟩
      rw [if_neg o4] at hv3
      by_cases o5 : o = 5
      · rw [if_pos o5] at hv3
        subst o5
        clear HV2 o1 o2 o3 o4
        have hop := (HE.out.ops 5 p1 p2 (List.mem_of_getElem? HX.out)).2 (.inl rfl)
        obtain ⟨p, rfl⟩ : ∃ p : Nat, p1 = p := ⟨p1.toNat, by omega⟩
        simp only [Int.toNat_natCast] at hv3
        by_cases hr : 1000000 ≤ rl + 1
        · rw [if_pos hr] at hv3; cases hv3
        rw [if_neg hr] at hv3
        have hcl := HE.out.len
        have hsl := HE.out.src.n
        have hx5 : Few ((ext cs2 p).set p (2 * (sp2 : Int))) := (hcs2.ext (s := p) (by omega)).set (by omega) (by omega)
        have hcl2 := hcs2.1
        have hxl := ext_length cs2 p
        have hpc2 : IntKind.i64.wrap ((pc2 : Int) + 1) = (pc2 : Int) + 1 := IntWalk.i64_in _ (by omega)
        cases hc : vm src P k2 (rl + 1 + 1) (pc2 + 1) sp2 (setc cs2 p (2 * sp2)) with
        | none => rw [hc] at hv3; cases hv3
        | some y =>
          obtain ⟨y1, cs3⟩ := y
          rw [hc] at hv3
          have hlen := vm_few HE.out.src.n (fun o a b hm h56 => (HE.out.ops o a b hm).2 (h56.elim .inl (fun h => .inr (.inl h)))) _ _ _ _ _ _ hc hsp2 hx5
          have hgrow := vm_grow (p + 1) _ _ _ _ _ _ hc hsp2 (by unfold setc; rw [List.length_set]; exact hxl)
          have hsc := set_cap (s := p) (p := sp2) HZ.out (by omega) (by omega) (by omega)
          have HSC := Aside0.mk hsc
          have HCC := Aside0.mk (fun (wr5 : World) (v5 : Value) (h5 : MU ⟨w, wr2.alloc (.cells #[.int .i64 5, .nilIface, .int .i64 (p : Int), .int .i64 p2] 138), fun k => Z k ∨ k = wr2.heap.size⟩ wr5 g ((ext cs2 p).set p (2 * (sp2 : Int))) v5) => IH.out k2 (by omega) _ _ _ (rl + 1) (pc2 + 1) sp2 (wr5.heap.size) g _ _ _ (h5.alloc (.cells #[.pointer (some ⟨g, 0, none⟩)] 60)) (blk_cell (blk_new wr5 (.cells #[.pointer (some ⟨g, 0, none⟩)] 60)) 0) (by omega) (by omega) hsp2 hx5 hc)
          simp only [Int.natCast_add, Int.natCast_one] at HCC
          have HLEN := Aside0.mk hlen
          have HGR := Aside0.mk hgrow
          have HV3 := Aside0.mk hv3
          have eZ := blk_cell (blk_new wr2 (.cells #[.int .i64 5, .nilIface, .int .i64 (p : Int), .int .i64 p2] 138)) 2
          clear hop hr hc hlen hv3 hsc hcl hsl hx5 hxl hgrow hcl2
          go_upto_region 27 with (fail)
          go_cut [20] from 110 to 114 (fun a wc => a = .int .u32 ((ext cs2 p).getD p 0) ∧ ∃ v5, MU ⟨w, wr2.alloc (.cells #[.int .i64 5, .nilIface, .int .i64 (p : Int), .int .i64 p2] 138), fun k => Z k ∨ k = wr2.heap.size⟩ wc g ((ext cs2 p).set p (2 * (sp2 : Int))) v5)
          case first =>
            go_wp2_with fail
            refine HSC.out.mono ?_
            rintro e w5 ⟨v5, he5, h5⟩
            subst he5
            have H5 := Aside0.mk h5
            clear h5 HSC
            go_wp2_with fail
            go_meet
            case rel => exact ⟨rfl, v5, H5.out⟩
          obtain ⟨rfl, v5, h5⟩ := hcut
          have HCC5 := Aside0.mk (HCC.out _ _ h5)
          have hz5 := (h5.z wr2.heap.size (.inr rfl)).2.2
          clear h5 HCC HSC eZ
          go_upto_region 28 with (fail)
          go_cut [21, 22] from 115 to 128 (fun a b wc => a = .bool y1.isSome ∧ (∃ n : Nat, b = .int .i64 n ∧ ∀ m, y1 = some m → n = m) ∧ ∃ v5, MU ⟨w, wr2.alloc (.cells #[.int .i64 5, .nilIface, .int .i64 (p : Int), .int .i64 p2] 138), fun k => Z k ∨ k = wr2.heap.size⟩ wc g cs3 v5)
          case first =>
            go_wp2_with fail
            refine HCC5.out.mono ?_
            rintro e w6 ⟨v6, n6, he6, hn6, h6⟩
            subst he6
            have H6 := Aside0.mk h6
            have HN6 := Aside0.mk hn6
            clear h6 hn6 HCC5
            go_wp2_with fail
            go_meet
            case rel => exact ⟨rfl, ⟨n6, rfl, HN6.out⟩, v6, H6.out⟩
          obtain ⟨rfl, ⟨n5, rfl, hn5⟩, v6, h6⟩ := hcut
          have HN5 := Aside0.mk hn5
          have e6 := blk_cell ((h6.z _ (.inr rfl)).2.2.trans (blk_new wr2 (.cells #[.int .i64 5, .nilIface, .int .i64 (p : Int), .int .i64 p2] 138))) 2
          have H6 := Aside0.mk h6
          clear hn5 h6 HZ HCC5 hz5
          cases y1 with
          | some n =>
            have hv4 := HV3.out
            simp only at hv4
            obtain rfl := Option.some.inj hv4
            clear hv4 HV3
            go_wp2
            simp only [Exit.jump]
            go_ret3
            exact ⟨_, n5, rfl, fun m hm => HN5.out m hm, H6.out.less (w := ⟨w, u0, Z⟩) (fun k hk => .inl hk) (fun k hk => (H3.out.z k hk).2.2)⟩
          | none =>
            have hv4 : (none, cs3.set p ((ext cs2 p).getD p 0)) = res := Option.some.inj HV3.out
            have HRC := Aside0.mk (restore_cap (s := p) (x := (ext cs2 p).getD p 0) H6.out (show p + 1 ≤ cs3.length from HGR.out))
            subst hv4
            clear HV3
            go_wp2_with fail
            refine HRC.out.mono ?_
            rintro e w7 ⟨he7, h7⟩
            subst he7
            have H7 := Aside0.mk h7
            clear h7 HRC
            go_wp2
            simp only [Exit.jump]
            go_ret3
            exact ⟨_, sp2, rfl, fun m hm => (nomatch hm), H7.out.less (w := ⟨w, u0, Z⟩) (fun k hk => .inl hk) (fun k hk => (H3.out.z k hk).2.2)⟩
      rw [if_neg o5] at hv3
      by_cases o6 : o = 6
      · rw [if_pos o6] at hv3
        subst o6
        clear HV2 o1 o2 o3 o4 o5 HZ
        have hop := (HE.out.ops 6 p1 p2 (List.mem_of_getElem? HX.out)).2 (.inr (.inl rfl))
        obtain ⟨p, rfl⟩ : ∃ p : Nat, p1 = p := ⟨p1.toNat, by omega⟩
        simp only [Int.toNat_natCast] at hv3
        have hcl := HE.out.len
        have hsl := HE.out.src.n
        have hx5 := hcs2.ext (s := p + 1) (by omega)
        have hcl2 := hcs2.1
        have hpc2 : IntKind.i64.wrap ((pc2 : Int) + 1) = (pc2 : Int) + 1 := IntWalk.i64_in _ (by omega)
        have hsp3 : IntKind.i64.wrap ((sp2 : Int) + 1) = (sp2 : Int) + 1 := IntWalk.i64_in _ (by omega)
        have hap := add_pos (s := p) (p := sp2 + 1) H3.out (by omega) (by omega) (by omega)
        have hx6 : Few (((ext cs2 (p + 1)).set p (2 * ((sp2 + 1 : Nat) : Int) + 1)).set (p + 1) (2 * ((sp2 + 1 : Nat) : Int) + 1)) := (hx5.set (by omega) (by omega)).set (by omega) (by omega)
        obtain ⟨F, hF⟩ : ∃ F, ((ext cs2 (p + 1)).set p (2 * ((sp2 + 1 : Nat) : Int) + 1)).set (p + 1) (2 * ((sp2 + 1 : Nat) : Int) + 1) = F := ⟨_, rfl⟩
        rw [hF] at hap hx6 hv3
        simp only [Int.natCast_add, Int.natCast_one] at hap
        have HAP := Aside0.mk hap
        have HV3 := Aside0.mk hv3
        have HX6 := Aside0.mk hx6
        have eZ := blk_cell (blk_new wr2 (.cells #[.int .i64 6, .nilIface, .int .i64 (p : Int), .int .i64 p2] 138)) 2
        clear hop hap hcl2 hx5 hx6 hF hv3 hcl hsl
        go_wp2_with fail
        refine HAP.out.mono ?_
        rintro e w5 ⟨v5, he5, h5⟩
        subst he5
        have H5 := Aside0.mk h5
        clear h5 HAP eZ
        go_wp2
        go_step3
        exact ⟨rfl, k2, by omega, pc2 + 1, sp2, rfl, rfl, ⟨rfl, rfl, congrArg (Value.int .i64) (Int.natCast_succ pc2).symm, rfl, rfl, rfl⟩, ⟨by omega, _, _, HV3.out, H5.out, hsp2, HX6.out⟩⟩
      rw [if_neg o6] at hv3
      by_cases o7 : o = 7
      · rw [if_pos o7] at hv3
        subst o7
        clear HV2 o1 o2 o3 o4 o5 o6
        have hsl := HE.out.src.n
        have eZ := fun n => (blk_cell (blk_new wr2 (.cells #[.int .i64 7, .nilIface, .int .i64 p1, .int .i64 p2] 138)) n)
        have eZ2 := fun (m : Nat) => (show ((wr2.alloc (.cells #[.int .i64 7, .nilIface, .int .i64 p1, .int .i64 p2] 138)).drewN m).cell? ⟨wr2.heap.size, 2, none⟩ = some (.int .i64 p1) from eZ 2)
        by_cases hb0 : sp2 < src.length ∧ rd src sp2 = p1
        · rw [if_pos hb0] at hv3
          obtain ⟨hb1, hb2⟩ := hb0
          have hbI : ¬ ((src.length : Int) ≤ (sp2 : Int)) := by omega
          have hbJ : (sp2 : Int) < (src.length : Int) := by omega
          obtain ⟨hr0, hr1⟩ := HE.out.src.chr hb1
          obtain ⟨ad, hA, hx⟩ := Kd.at_int HE.out.src.c (sp2 : Int) (by omega) (by omega)
          subst hA
          have hx2 := pw_cell_below HZ.out.b hx
          simp only [Int.toNat_natCast] at hx2
          generalize rd src sp2 = ch at hb2 hr0 hr1 hx2
          have hwc : IntKind.i64.wrap ch = ch := IntWalk.i64_in _ (by omega)
          subst hb2
          have hsp3 : IntKind.i64.wrap ((sp2 : Int) + 1) = (sp2 : Int) + 1 := IntWalk.i64_in _ (by omega)
          have HV3 := Aside0.mk hv3
          clear hx eZ hv3
          go_wp2_with fail
          go_quiet (fail)
          go_wp2_with fail
          refine wp_loop_ghost_k (fun k a wr => ∃ (sp : Nat) (x : Int), AtBr (some ad) (some ⟨r, 0, none⟩) src.length c1 P.length c2 pc2 sp (rl + 1) g wr2.heap.size x (fun wr => sp + k = src.length ∧ bal src ch p2 k sp x = bal src ch p2 (src.length - (sp2 + 1)) (sp2 + 1) 1 ∧ -(sp : Int) ≤ x ∧ x ≤ sp + 1 ∧ MU ⟨w, wr2.alloc (.cells #[.int .i64 7, .nilIface, .int .i64 ch, .int .i64 p2] 138), fun k => Z k ∨ k = wr2.heap.size⟩ wr g cs2 v2) a wr) (src.length - (sp2 + 1)) ⟨sp2 + 1, 1, rfl, rfl, ⟨rfl, rfl, rfl, congrArg (Value.int .i64) (Int.natCast_succ sp2).symm, rfl, rfl, rfl, rfl⟩, ⟨by omega, rfl, by omega, by omega, HZ.out.drewN _⟩⟩ ?_
          clear HZ eZ2
          intro gk a wr3 hI J K hJ hK
          obtain ⟨sp, x, hI⟩ := hI
          obtain ⟨⟨u, rfl⟩, hgk, hbal, hx0, hx1, h3⟩ := hI.open_
          clear hI
          have e3 := blk_cell ((h3.z _ (.inr rfl)).2.2.trans (blk_new wr2 (.cells #[.int .i64 7, .nilIface, .int .i64 ch, .int .i64 p2] 138))) 3
          have e2 := blk_cell ((h3.z _ (.inr rfl)).2.2.trans (blk_new wr2 (.cells #[.int .i64 7, .nilIface, .int .i64 ch, .int .i64 p2] 138))) 2
          cases gk with
          | zero =>
            have hv4 := HV3.out
            rw [← hbal] at hv4
            simp only [bal] at hv4
            have hv5 := Option.some.inj hv4
            subst hv5
            have hlI : ¬ ((sp : Int) < (src.length : Int)) := by omega
            have H4 := Aside0.mk h3
            clear hv4 HV3 hbal h3 e3 e2 hgk hx0 hx1
            go_wp2
            simp only [Exit.jump]
            go_ret3
            exact ⟨_, sp, rfl, fun m hm => (nomatch hm), H4.out.less (w := ⟨w, u0, Z⟩) (fun k hk => .inl hk) (fun k hk => (H3.out.z k hk).2.2)⟩
          | succ gk =>
            have hlt : sp < src.length := by omega
            have hlI : (sp : Int) < (src.length : Int) := by omega
            obtain ⟨hs0, hs1⟩ := HE.out.src.chr hlt
            obtain ⟨ad', hA, hx⟩ := Kd.at_int HE.out.src.c (sp : Int) (by omega) (by omega)
            cases hA
            have hx3 := pw_cell_below h3.b hx
            simp only [Int.toNat_natCast] at hx3
            simp only [bal] at hbal
            have hwd : IntKind.i64.wrap (rd src sp) = rd src sp := IntWalk.i64_in _ (by omega)
            have hwm : IntKind.i64.wrap (x - 1) = x - 1 := IntWalk.i64_in _ (by omega)
            have hwn : IntKind.i64.wrap (x + 1) = x + 1 := IntWalk.i64_in _ (by omega)
            have hwo : IntKind.i64.wrap (x - 1 + 1) = x - 1 + 1 := IntWalk.i64_in _ (by omega)
            have hws : IntKind.i64.wrap ((sp : Int) + 1) = (sp : Int) + 1 := IntWalk.i64_in _ (by omega)
            have hpl2 := HE.out.len
            have hwp : IntKind.i64.wrap ((pc2 : Int) + 1) = (pc2 : Int) + 1 := IntWalk.i64_in _ (by omega)
            generalize rd src sp = d at hs0 hs1 hx3 hwd hbal
            have H4 := Aside0.mk (fun n => h3.drewN n)
            have HXB := Aside0.mk (And.intro hx0 hx1)
            clear hx h3 hsp3 hx2 hbI hbJ hpl2 hx0 hx1
            by_cases cb : d = p2
            · subst cb
              rw [if_pos rfl] at hbal
              by_cases c0 : x - 1 = 0
              · rw [if_pos c0] at hbal
                have c1 : x = 1 := by omega
                subst c1
                clear c0
                have hv4 := HV3.out
                rw [← hbal] at hv4
                simp only at hv4
                have HV4 := Aside0.mk hv4
                clear hv4 hbal HV3
                go_wp2
                go_quiet (fail)
                go_wp2
                go_step3
                exact ⟨rfl, k2, by omega, pc2 + 1, sp + 1, rfl, rfl, ⟨rfl, rfl, congrArg (Value.int .i64) (Int.natCast_succ pc2).symm, congrArg (Value.int .i64) (Int.natCast_succ sp).symm, rfl, rfl⟩, ⟨by omega, _, _, HV4.out, (H4.out _).less (w := ⟨w, u0, Z⟩) (fun k hk => .inl hk) (fun k hk => (H3.out.z k hk).2.2), by omega, hcs2⟩⟩
              · rw [if_neg c0] at hbal
                have cx : (x - 1 == 0) = false := beq_eq_false_iff_ne.mpr c0
                by_cases ca : d = ch
                · rw [if_pos ca] at hbal
                  subst ca
                  rw [show x - 1 + 1 = x by omega] at hbal
                  have HBAL := Aside0.mk hbal
                  clear hbal
                  go_wp2
                  go_quiet (fail)
                  go_wp2
                  go_quiet (fail)
                  go_wp2
                  refine Handed.intro gk (by omega) (hJ _ _ _ ⟨sp + 1, x, rfl, rfl, ⟨rfl, rfl, rfl, congrArg (Value.int .i64) (Int.natCast_succ sp).symm, rfl, rfl, rfl, congrArg (Value.int .i64) (IntWalk.wrap64_in x (by have hq := HXB.out; omega))⟩, ⟨by omega, HBAL.out, by have hq := HXB.out.1; omega, by have hq := HXB.out.2; omega, H4.out _⟩⟩)
                · rw [if_neg ca] at hbal
                  have cd : (d == ch) = false := beq_eq_false_iff_ne.mpr ca
                  clear ca
                  have HBAL := Aside0.mk hbal
                  clear hbal
                  go_wp2
                  go_quiet (fail)
                  go_wp2
                  go_quiet (fail)
                  go_wp2
                  refine Handed.intro gk (by omega) (hJ _ _ _ ⟨sp + 1, x - 1, rfl, rfl, ⟨rfl, rfl, rfl, congrArg (Value.int .i64) (Int.natCast_succ sp).symm, rfl, rfl, rfl, rfl⟩, ⟨by omega, HBAL.out, by have hq := HXB.out.1; omega, by have hq := HXB.out.2; omega, H4.out _⟩⟩)
            · rw [if_neg cb] at hbal
              have ce : (d == p2) = false := beq_eq_false_iff_ne.mpr cb
              by_cases c0 : x = 0
              · rw [if_pos c0] at hbal
                subst c0
                clear cb
                have hv4 := HV3.out
                rw [← hbal] at hv4
                simp only at hv4
                have HV4 := Aside0.mk hv4
                clear hv4 hbal HV3
                go_wp2
                go_quiet (fail)
                go_wp2
                go_step3
                exact ⟨rfl, k2, by omega, pc2 + 1, sp + 1, rfl, rfl, ⟨rfl, rfl, congrArg (Value.int .i64) (Int.natCast_succ pc2).symm, congrArg (Value.int .i64) (Int.natCast_succ sp).symm, rfl, rfl⟩, ⟨by omega, _, _, HV4.out, (H4.out _).less (w := ⟨w, u0, Z⟩) (fun k hk => .inl hk) (fun k hk => (H3.out.z k hk).2.2), by omega, hcs2⟩⟩
              · rw [if_neg c0] at hbal
                have cx : (x == 0) = false := beq_eq_false_iff_ne.mpr c0
                by_cases ca : d = ch
                · rw [if_pos ca] at hbal
                  subst ca
                  clear cb
                  have HBAL := Aside0.mk hbal
                  clear hbal
                  go_wp2
                  go_quiet (fail)
                  go_wp2
                  go_quiet (fail)
                  go_wp2
                  refine Handed.intro gk (by omega) (hJ _ _ _ ⟨sp + 1, x + 1, rfl, rfl, ⟨rfl, rfl, rfl, congrArg (Value.int .i64) (Int.natCast_succ sp).symm, rfl, rfl, rfl, rfl⟩, ⟨by omega, HBAL.out, by have hq := HXB.out.1; omega, by have hq := HXB.out.2; omega, H4.out _⟩⟩)
                · rw [if_neg ca] at hbal
                  have cd : (d == ch) = false := beq_eq_false_iff_ne.mpr ca
                  clear ca cb
                  have HBAL := Aside0.mk hbal
                  clear hbal
                  go_wp2
                  go_quiet (fail)
                  go_wp2
                  go_quiet (fail)
                  go_wp2
                  refine Handed.intro gk (by omega) (hJ _ _ _ ⟨sp + 1, x, rfl, rfl, ⟨rfl, rfl, rfl, congrArg (Value.int .i64) (Int.natCast_succ sp).symm, rfl, rfl, rfl, rfl⟩, ⟨by omega, HBAL.out, by have hq := HXB.out.1; omega, by have hq := HXB.out.2; omega, H4.out _⟩⟩)
        · rw [if_neg hb0] at hv3
          have hv4 := Option.some.inj hv3
          subst hv4
          clear hv3
          by_cases hb1 : sp2 < src.length
          · have hb2 : ¬ rd src sp2 = p1 := fun h => hb0 ⟨hb1, h⟩
            have hbI : ¬ ((src.length : Int) ≤ (sp2 : Int)) := by omega
            have hbJ : (sp2 : Int) < (src.length : Int) := by omega
            obtain ⟨hr0, hr1⟩ := HE.out.src.chr hb1
            obtain ⟨ad, hA, hx⟩ := Kd.at_int HE.out.src.c (sp2 : Int) (by omega) (by omega)
            subst hA
            have hx2 := pw_cell_below HZ.out.b hx
            simp only [Int.toNat_natCast] at hx2
            generalize rd src sp2 = ch at hb2 hr0 hr1 hx2
            clear hx HZ eZ hb0
            have hwc : IntKind.i64.wrap ch = ch := IntWalk.i64_in _ (by omega)
            have hne : (ch != p1) = true := by simp [bne_iff_ne, hb2]
            clear hb2
            go_wp2_with fail
            go_quiet (fail)
            go_wp2
            simp only [Exit.jump]
            go_ret3
            exact ⟨_, sp2, rfl, fun m hm => (nomatch hm), H3.out.drewN _⟩
          · have hbI : (src.length : Int) ≤ (sp2 : Int) := by omega
            clear HZ eZ hb0
            go_upto_region 37 with (fail)
            go_quiet (fail)
            go_wp2
            simp only [Exit.jump]
            go_ret3
            exact ⟨_, sp2, rfl, fun m hm => (nomatch hm), H3.out.drewN _⟩
      rw [if_neg o7] at hv3
      by_cases o8 : o = 8
      · rw [if_pos o8] at hv3
        subst o8
        clear HV2 o1 o2 o3 o4 o5 o6 o7 HZ
        have hop := (HE.out.ops 8 p1 p2 (List.mem_of_getElem? HX.out)).2 (.inr (.inr rfl))
        obtain ⟨p, rfl⟩ : ∃ p : Nat, p1 = p := ⟨p1.toNat, by omega⟩
        simp only [Int.toNat_natCast] at hv3
        by_cases hb : p * 2 + 1 < cs2.length
        · rw [if_pos hb] at hv3
          obtain ⟨xs, hxs⟩ : ∃ x : Nat, cs2.getD (p * 2) 0 = x := ⟨(cs2.getD (p * 2) 0).toNat, by have := (hcs2.getD (p * 2)).1; omega⟩
          obtain ⟨xe, hxe⟩ : ∃ x : Nat, cs2.getD (p * 2 + 1) 0 = x := ⟨(cs2.getD (p * 2 + 1) 0).toNat, by have := (hcs2.getD (p * 2 + 1)).1; omega⟩
          have hxs2 := (hcs2.getD (p * 2)).2
          have hxe2 := (hcs2.getD (p * 2 + 1)).2
          rw [hxs] at hv3 hxs2
          rw [hxe] at hv3 hxe2
          rw [show ((xs : Int) / 2).toNat = xs / 2 by omega, show ((xe : Int) / 2).toNat = xe / 2 by omega] at hv3
          have hg1 := get_cap (s := p * 2) H3.out (by omega) hxs (by omega)
          have hg2 := get_cap (s := p * 2 + 1) H3.out (by omega) hxe (by omega)
          have hlc := len_cap H3.out (by have := hcs2.1; omega)
          generalize xs / 2 = s at hv3 hg1
          generalize xe / 2 = e at hv3 hg2
          by_cases hse : s ≤ e ∧ e ≤ src.length
          · rw [if_pos hse] at hv3
            obtain ⟨hse1, hse2⟩ := hse
            have hcut0 := cut46 A src.length c1 s e hse1 hse2 HE.out.cap
            have hC := Kd.C_mid (lo := s) (hi := e) HE.out.src.c hse1 hse2 HE.out.cap
            simp only [show (Kd.int .u8).sz = 1 from rfl, Nat.mul_one] at hC
            generalize (if c1 = s then A else A.map (·.add s)) = A' at hcut0 hC
            have hln : ((src.take e).drop s).length = e - s := by rw [List.length_drop, List.length_take]; omega
            rw [hln] at hC
            have HC := Aside0.mk hC
            have hcn := hcs2.1
            have q1 : IntKind.i64.wrap ((p : Int) * 2) = (p : Int) * 2 := IntWalk.i64_in _ (by omega)
            have q2 : IntKind.i64.wrap ((p : Int) * 2 + 1) = (p : Int) * 2 + 1 := IntWalk.i64_in _ (by omega)
            have q3 : IntKind.i64.wrap ((cs2.length : Int) - 1) = (cs2.length : Int) - 1 := IntWalk.i64_in _ (by omega)
            have q4 : ¬ ((cs2.length : Int) - 1 ≤ (p : Int) * 2) := by omega
            have q5 : (p : Int) * 2 < (cs2.length : Int) - 1 := by omega
            simp only [Int.natCast_add, Int.natCast_mul, Int.natCast_one, Int.cast_ofNat_Int] at hg1 hg2
            have HG1 := Aside0.mk hg1
            have HG2 := Aside0.mk hg2
            have HLC := Aside0.mk hlc
            have HV3 := Aside0.mk hv3
            have e2 := blk_cell (blk_new wr2 (.cells #[.int .i64 8, .nilIface, .int .i64 (p : Int), .int .i64 p2] 138)) 2
            clear hop hb hxs hxe hxs2 hxe2 hg1 hg2 hlc hC hln hv3 hcn
            go_wp2_with fail
            refine HLC.out.mono ?_
            rintro ee w5 ⟨he5, hw5⟩
            subst he5 hw5
            clear HLC
            go_wp2_with fail
            refine HG1.out.mono ?_
            rintro ee w5 ⟨he5, hw5⟩
            subst he5 hw5
            clear HG1
            go_wp2_with fail
            refine HG2.out.mono ?_
            rintro ee w5 ⟨he5, hw5⟩
            subst he5 hw5
            clear HG2
            go_wp2_with fail
            refine wp_loop_ghost_k (fun k a wr => ∃ (i : Nat), AtNu A (some ⟨r, 0, none⟩) A' src.length c1 P.length c2 pc2 sp2 (rl + 1) g (e - s) (c1 - s) i (fun wr => i + k = e - s ∧ sp2 + i ≤ src.length ∧ (∀ j : Nat, j < i → rd src ((s + j : Nat) : Int) = rd src ((sp2 + j : Nat) : Int)) ∧ MU ⟨w, u0, Z⟩ wr g cs2 v2) a wr) (e - s) ⟨0, rfl, rfl, ⟨rfl, rfl, rfl, rfl, rfl, rfl, rfl, rfl⟩, ⟨by omega, by omega, fun j hj => absurd hj (Nat.not_lt_zero j), H3.out⟩⟩ ?_
            clear H3 e2 hcut0 q1 q2 q3 q4 q5
            intro gk a wr3 hI J K hJ hK
            obtain ⟨i, hI⟩ := hI
            obtain ⟨⟨u, rfl⟩, hgk, hil, hpre, h3⟩ := hI.open_
            clear hI
            have hcl := HE.out.len
            have hsl := HE.out.src.n
            cases gk with
            | zero =>
              have hie : i = e - s := by omega
              subst hie
              have heq := take_eq_of (n := e - s) (by omega) hil hpre
              have hv4 := HV3.out
              rw [if_pos heq] at hv4
              have HV4 := Aside0.mk hv4
              have q6 : IntKind.i64.wrap ((pc2 : Int) + 1) = (pc2 : Int) + 1 := IntWalk.i64_in _ (by omega)
              have q7 : IntKind.i64.wrap ((sp2 : Int) + ((e - s : Nat) : Int)) = (sp2 : Int) + ((e - s : Nat) : Int) := IntWalk.i64_in _ (by omega)
              have H4 := Aside0.mk h3
              clear hv4 HV3 hpre heq h3 HC hgk
              generalize e - s = d at *
              go_wp2
              go_step3
              exact ⟨rfl, k2, by omega, pc2 + 1, sp2 + d, rfl, rfl, ⟨rfl, rfl, congrArg (Value.int .i64) (Int.natCast_succ pc2).symm, congrArg (Value.int .i64) (Int.natCast_add sp2 d).symm, rfl, rfl⟩, ⟨by omega, _, _, HV4.out, H4.out, hil, hcs2⟩⟩
            | succ gk =>
              have hii : i < e - s := by omega
              have hiI : (i : Int) < ((e - s : Nat) : Int) := by omega
              have q6 : IntKind.i64.wrap ((i : Int) + (sp2 : Int)) = (i : Int) + (sp2 : Int) := IntWalk.i64_in _ (by omega)
              have q7 : IntKind.i64.wrap ((i : Int) + 1) = (i : Int) + 1 := IntWalk.i64_in _ (by omega)
              by_cases hlt : sp2 + i < src.length
              · obtain ⟨ad, hA, hx⟩ := Kd.at_int HE.out.src.c ((i : Int) + (sp2 : Int)) (by omega) (by omega)
                obtain ⟨ad', hA', hx'⟩ := Kd.at_int HC.out (i : Int) (by omega) (by omega)
                subst hA hA'
                have hx2 := pw_cell_below h3.b hx
                have hx2' := pw_cell_below h3.b hx'
                simp only [Int.toNat_natCast] at hx2'
                have hr1 : rd ((src.take e).drop s) (i : Int) = rd src ((s + i : Nat) : Int) := by
                  simp only [rd, Int.toNat_natCast, List.getD_eq_getElem?_getD, List.getElem?_drop, List.getElem?_take]
                  rw [if_pos (by omega)]
                have hr2 : rd src ((i : Int) + (sp2 : Int)) = rd src ((sp2 + i : Nat) : Int) := by
                  rw [show (i : Int) + (sp2 : Int) = ((sp2 + i : Nat) : Int) by omega]
                rw [hr1] at hx2'
                rw [hr2] at hx2
                have j1 : ¬ ((src.length : Int) ≤ (i : Int) + (sp2 : Int)) := by omega
                have j2 : (i : Int) + (sp2 : Int) < (src.length : Int) := by omega
                have j3 : (0 : Int) ≤ (i : Int) + (sp2 : Int) := by omega
                by_cases heq : rd src ((s + i : Nat) : Int) = rd src ((sp2 + i : Nat) : Int)
                · have HPR := Aside0.mk (show ∀ j : Nat, j < i + 1 → rd src ((s + j : Nat) : Int) = rd src ((sp2 + j : Nat) : Int) from fun j hj => by
                    rcases Nat.lt_succ_iff_lt_or_eq.1 hj with h | h
                    · exact hpre j h
                    · rw [h]; exact heq)
                  have H4 := Aside0.mk (fun n => h3.drewN n)
                  rw [← heq] at hx2
                  generalize rd src ((s + i : Nat) : Int) = d at hx2 hx2'
                  clear hpre heq hx hx' h3 hr1 hr2 HC
                  go_wp2
                  go_quiet (fail)
                  go_wp2
                  refine Handed.intro gk (by omega) (hJ _ _ _ ⟨i + 1, rfl, rfl, ⟨rfl, rfl, rfl, rfl, rfl, rfl, rfl, congrArg (Value.int .i64) (Int.natCast_succ i).symm⟩, ⟨by omega, by omega, HPR.out, H4.out _⟩⟩)
                · have hne := take_ne_of (s := s) (sp := sp2) (n := e - s) (j := i) (by omega) hii (fun _ => heq)
                  have hv4 := HV3.out
                  rw [if_neg hne] at hv4
                  have hv5 := Option.some.inj hv4
                  subst hv5
                  have H4 := Aside0.mk (fun n => h3.drewN n)
                  have hb1 := beq_eq_false_iff_ne.mpr heq
                  generalize rd src ((s + i : Nat) : Int) = d at hx2 hx2' hb1
                  generalize rd src ((sp2 + i : Nat) : Int) = d' at hx2 hx2' hb1
                  have hb2 : (d != d') = true := by simp [bne, hb1]
                  clear hpre heq hx hx' h3 hr1 hr2 HC hne hv4 HV3
                  go_wp2
                  go_quiet (fail)
                  go_wp2
                  simp only [Exit.jump]
                  go_ret3
                  exact ⟨_, sp2, rfl, fun m hm => (nomatch hm), H4.out _⟩
              · have hne := take_ne_of (s := s) (sp := sp2) (n := e - s) (j := i) (by omega) hii (fun h => absurd h hlt)
                have hv4 := HV3.out
                rw [if_neg hne] at hv4
                have hv5 := Option.some.inj hv4
                subst hv5
                have H4 := Aside0.mk (fun n => h3.drewN n)
                have j1 : (src.length : Int) ≤ (i : Int) + (sp2 : Int) := by omega
                clear hpre h3 HC hne hv4 HV3
                go_wp2
                go_quiet (fail)
                go_wp2
                simp only [Exit.jump]
                go_ret3
                exact ⟨_, sp2, rfl, fun m hm => (nomatch hm), H4.out _⟩
          · rw [if_neg hse] at hv3; cases hv3
        · rw [if_neg hb] at hv3; cases hv3
      rw [if_neg o8] at hv3
      cases hv3
/-- A call of the matcher with captures. -/
theorem vm_all (hE : Env w base ok A src c1 r c2 P) : ∀ k, VmC w A c1 r c2 src P k := by
  intro k
  induction k using Nat.strongRecOn with
  | _ k ih =>
    intro u Z wr rl pc sp b g cs v res h hb hrl hpc hsp hcs hv
    exact vm_walk hE (.inl ⟨b, v, rfl, h, hb⟩) hrl hpc hsp hcs hv ih
/-- A call of the matcher without captures. -/
theorem vm_top {k pc sp : Nat} {res : Option Nat × List Int} (hE : Env w base ok A src c1 r c2 P) (hB : Below w.heap.size w wr) (hz : ∀ k, Z k → k < wr.heap.size ∧ wr.heap[k]? = u0.heap[k]?) (hpc : pc ≤ 1000000) (hsp : sp ≤ src.length) (hv : vm src P k 1 pc sp [] = some res) :
    Calls Tryf.prog 29 #[.slice A src.length c1, .slice (some ⟨r, 0, none⟩) P.length c2, .int .i64 pc, .int .i64 sp, .int .i64 0, .slice none 0 0] wr (VmE ⟨w, u0, Z⟩ (wr.heap.size + 1) res) :=
  vm_walk (rl := 0) hE (.inr ⟨rfl, hB, hz, rfl, rfl⟩) (by omega) hpc hsp ⟨by simp, by simp⟩ hv (fun k' _ => vm_all hE k')
end
end Go.Proofs.YtpjfjfloeejgiaaFmt.Vm
