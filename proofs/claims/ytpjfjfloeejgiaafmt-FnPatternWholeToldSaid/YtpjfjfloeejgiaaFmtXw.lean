/- Joined texts of this seat: Who, Whw, Lww. -/
import Derived.Test.YtpjfjfloeejgiaaFmtXp
/- A pattern in parentheses, with places ahead of it and behind it. -/
set_option linter.unusedVariables false
set_option linter.unusedSimpArgs false
namespace Go.Proofs.YtpjfjfloeejgiaaFmt.Lw
open Go.RowKit Go.Proofs.YtpjfjfloeejgiaaFmtW.PrintWords Go.Proofs.YtpjfjfloeejgiaaFmt.Rf Go.Proofs.YtpjfjfloeejgiaaFmt.Vm Go.Proofs.YtpjfjfloeejgiaaFmt.Mtc Go.Proofs.YtpjfjfloeejgiaaFmt.PFnPatternFirst
section
variable {t t' : List Int} {d lo hi : Nat}
theorem pItem_capsLe {s s' : RSt} (h : pItem t s = some s') : s.caps ≤ s'.caps ∧ (rd t s.at_ = 40 → s.caps < s'.caps) := by
  unfold pItem at h
  by_cases h40 : rd t s.at_ = 40
  · rw [if_pos h40] at h
    unfold pCapture at h
    split at h
    · cases h
    · split at h
      · obtain rfl := Option.some.inj h; simp [RSt.add]
      · obtain rfl := Option.some.inj h; simp [RSt.add]
  rw [if_neg h40] at h
  refine ⟨?_, fun hq => absurd hq h40⟩
  split at h
  · unfold pClosing at h
    split at h
    · cases h
    · obtain rfl := Option.some.inj h; simp [RSt.add]
  split at h
  · obtain rfl := Option.some.inj h; simp [RSt.add]
  split at h
  · rename_i r hr
    unfold pSpecial at hr
    split at hr
    · cases hr
    simp only at hr
    split at hr
    · obtain rfl := Option.some.inj hr; cases h
    split at hr
    · split at hr
      · obtain rfl := Option.some.inj hr; cases h
      · obtain rfl := Option.some.inj hr; obtain rfl := Option.some.inj h; simp [RSt.add]
    split at hr
    · split at hr
      · obtain rfl := Option.some.inj hr; cases h
      · obtain rfl := Option.some.inj hr; obtain rfl := Option.some.inj h; simp [RSt.add]
    · cases hr
  · split at h
    · cases h
    · split at h
      · obtain rfl := Option.some.inj h; simp [RSt.add]
      · obtain rfl := Option.some.inj h; simp [RSt.add]
theorem Steps.capsLe {s sf : RSt} (h : Steps t s sf) : s.caps ≤ sf.caps := by
  induction h with
  | refl s => exact Nat.le_refl _
  | step h1 h2 h3 ih => exact Nat.le_trans (pItem_capsLe h2).1 ih
theorem steps_move0 (h : Copy t t' d lo hi) (hrep : hi + d < t'.length → ¬ isRep (rd t' ((hi + d : Nat) : Int))) (h36 : ∀ i : Nat, lo ≤ i → i < hi → rd t i = 36 → i + 1 ≠ t.length ∧ i + d + 1 ≠ t'.length)
    {s sf : RSt} (hS : Steps t s sf) : ∀ {u : RSt}, lo ≤ s.at_ → sf.at_ ≤ hi → s.caps = 0 → s.opn = [] → sf.caps = 0 → u.at_ = s.at_ + d →
    ∃ uf its, Steps t' u uf ∧ uf.at_ = sf.at_ + d ∧ uf.caps = u.caps ∧ uf.opn = u.opn ∧ sf.items = s.items ++ its ∧ uf.items = u.items ++ its ∧ ∀ x ∈ its, x.f0 = 1 ∨ x.f0 = 6 := by
  induction hS with
  | refl s => intro u h1 h2 h3 h4 h5 h6; exact ⟨u, [], .refl u, h6, rfl, rfl, by simp, by simp, by simp⟩
  | @step s s' s2 k1 k2 k3 ih =>
    intro u h1 h2 h3 h4 h5 h6
    obtain ⟨m1, m2, m3, m4, m5⟩ := pItem_ok k2 k1 (by omega)
    have hge := (k3.caps m5 m2).2.1
    have hcl := pItem_capsLe k2
    have hcl2 := k3.capsLe
    have n40 : rd t s.at_ ≠ 40 := fun hq => by have := hcl.2 hq; omega
    have n41 : rd t s.at_ ≠ 41 := by
      intro hq
      unfold pItem at k2
      rw [if_neg n40, if_pos hq] at k2
      unfold pClosing at k2
      rw [h4] at k2
      cases k2
    obtain ⟨x, far, rfl, e2, e3⟩ := simple_move h k2 n40 n41 (h36 s.at_ h1 (by omega)) h1 (by omega) (by omega) h6 (.inr h3) hrep
    obtain ⟨uf, its, f1, f2, f3, f4, f5, f6, f7⟩ := ih (u := u.add x far) (by omega) h2 h3 h4 h5 (by simp only [RSt.add]; omega)
    have hl' := h.l'
    refine ⟨uf, x :: its, .step (by omega) e2 f1, f2, f3, f4, ?_, ?_, ?_⟩
    · rw [f5]; simp [RSt.add]
    · rw [f6]; simp [RSt.add]
    · intro y hy
      rcases List.mem_cons.1 hy with rfl | hy
      · rcases e3 with e3 | e3 | ⟨_, e3⟩
        · exact .inl e3
        · exact .inr e3
        · exact absurd h3 e3
      · exact f7 y hy
end
/-- Items that leave the captures as they are, and a rest that always matches and moves nothing. -/
theorem den_frame {s : List Int} {R : List S147} {caps : List S74} {F : Nat → List S74} (hR : ∀ e, den s R e caps = some (some (e, F e))) : ∀ (I : List S147), (∀ x ∈ I, x.f0 = 1 ∨ x.f0 = 6) → ∀ at_ : Nat,
    den s (I ++ R) at_ caps = (match den s I at_ [] with | none => none | some none => some none | some (some (e, c)) => some (some (e, F e))) := by
  intro I
  induction I with
  | nil => intro _ at_; rw [List.nil_append, hR]; rfl
  | cons x I ih =>
    intro hI at_
    have hx := hI x (List.mem_cons_self ..)
    have ih' := ih (fun y hy => hI y (List.mem_cons_of_mem _ hy))
    rw [List.cons_append]
    unfold den
    rcases hx with h1 | h6
    · rw [if_neg (by omega), if_neg (by omega), if_neg (by omega), if_neg (by omega), if_neg (by omega), if_neg (by omega)]
      rw [if_neg (by omega), if_neg (by omega), if_neg (by omega), if_neg (by omega), if_neg (by omega), if_neg (by omega)]
      generalize counts x.f2 (run s x.f1 (s.length + 1 - at_) at_) = cs
      induction cs with
      | nil => rfl
      | cons k ks ihk =>
        simp only [firsts]
        rw [ih']
        cases hd : den s I (at_ + k) [] with
        | none => rfl
        | some y =>
          cases y with
          | none => exact ihk
          | some z => obtain ⟨e, c⟩ := z; rfl
    · rw [if_neg (by omega), if_neg (by omega), if_neg (by omega), if_neg (by omega), if_pos h6]
      rw [if_neg (by omega), if_neg (by omega), if_neg (by omega), if_neg (by omega), if_pos h6]
      cases pBal s x.f4 x.f5 at_ with
      | none => rfl
      | some e => exact ih' e
/-- The captures of the whole. -/
def caps3 (a e : Nat) : List S74 := [⟨a, -2⟩, ⟨a, (e : Int) - a⟩, ⟨e, -2⟩]
theorem whole_items {P : List Int} {anc ancP : Bool} {items itemsP : List S147} {n : Nat} (hP : pRead P = some (ancP, itemsP, 0)) (h0 : 0 < P.length) (h94 : rd P ((0 : Nat) : Int) ≠ 94) (h36 : rd P ((P.length - 1 : Nat) : Int) ≠ 36)
    (h : pRead ([40, 41, 40] ++ P ++ [41, 40, 41]) = some (anc, items, n)) :
    anc = false ∧ ancP = false ∧ items = ⟨4, [], 0, 1, 0, 0⟩ :: ⟨2, [], 0, 2, 0, 0⟩ :: (itemsP ++ [⟨3, [], 0, 2, 0, 0⟩, ⟨4, [], 0, 3, 0, 0⟩]) ∧ ∀ x ∈ itemsP, x.f0 = 1 ∨ x.f0 = 6 := by
  obtain ⟨hp1, sfP, hIP, hp2, hp3, hp4⟩ := pRead_items hP
  obtain ⟨ht1, sf, hI, ht2, ht3, ht4⟩ := pRead_items h
  have hancP : ancP = false := by
    rw [hp1, decide_eq_false_iff_not]
    rintro ⟨_, hq⟩
    exact h94 hq
  generalize hT : [40, 41, 40] ++ P ++ [41, 40, 41] = t at *
  have hl : t.length = P.length + 6 := by rw [← hT]; simp only [List.length_append, List.length_cons, List.length_nil]; omega
  have c0 : rd t ((0 : Nat) : Int) = 40 := by rw [← hT]; rfl
  have c1 : rd t ((1 : Nat) : Int) = 41 := by rw [← hT]; rfl
  have c2 : rd t ((2 : Nat) : Int) = 40 := by rw [← hT]; rfl
  have cm : ∀ i : Nat, i < P.length → rd t ((i + 3 : Nat) : Int) = rd P i := fun i hi => by
    rw [← hT, rd_left (by simp only [List.length_append, List.length_cons, List.length_nil]; omega), rd_right (by simp only [List.length_cons, List.length_nil]; omega)]
    congr 1
  have ce : ∀ i : Nat, rd t ((P.length + 3 + i : Nat) : Int) = rd [41, 40, 41] i := fun i => by
    rw [← hT, rd_right (by simp only [List.length_append, List.length_cons, List.length_nil]; omega)]
    congr 1
    simp only [List.length_append, List.length_cons, List.length_nil]
    omega
  have e0 : rd t ((P.length + 3 : Nat) : Int) = 41 := by have := ce 0; rw [this]; rfl
  have e1 : rd t ((P.length + 4 : Nat) : Int) = 40 := by have := ce 1; rw [show P.length + 3 + 1 = P.length + 4 from rfl] at this; rw [this]; rfl
  have e2 : rd t ((P.length + 5 : Nat) : Int) = 41 := by have := ce 2; rw [show P.length + 3 + 2 = P.length + 5 from rfl] at this; rw [this]; rfl
  have hanc : anc = false := by
    rw [ht1, decide_eq_false_iff_not]
    rintro ⟨_, hq⟩
    rw [show (0 : Int) = ((0 : Nat) : Int) from rfl, c0] at hq
    cases hq
  subst hanc hancP
  obtain ⟨g1, g2⟩ := steps_of _ _ _ hIP
  rw [if_neg (by simp)] at g1
  have hle := g1.caps (by simp) (by simp)
  simp only at hle
  -- the first step of P is no )
  have n41 : rd P ((0 : Nat) : Int) ≠ 41 := by
    intro hq
    cases g1 with
    | refl => simp only at g2; omega
    | step k1 k2 k3 =>
      have := pItem_capsLe k2
      unfold pItem at k2
      rw [hq, if_neg (by decide), if_pos rfl] at k2
      unfold pClosing at k2
      cases k2
  have a1 : pItem t ⟨0, [], [], 0⟩ = some ⟨2, [], [⟨4, [], 0, 1, 0, 0⟩], 1⟩ := by
    unfold pItem
    rw [show ((⟨0, [], [], 0⟩ : RSt).at_) = 0 from rfl, c0, if_pos rfl]
    unfold pCapture
    simp only
    rw [if_neg (by decide), if_pos ⟨by omega, c1⟩]
    rfl
  have a2 : pItem t ⟨2, [], [⟨4, [], 0, 1, 0, 0⟩], 1⟩ = some ⟨3, [2], [⟨4, [], 0, 1, 0, 0⟩, ⟨2, [], 0, 2, 0, 0⟩], 2⟩ := by
    unfold pItem
    rw [show ((⟨2, [], [⟨4, [], 0, 1, 0, 0⟩], 1⟩ : RSt).at_) = 2 from rfl, c2, if_pos rfl]
    unfold pCapture
    simp only
    rw [if_neg (by decide), if_neg (by rintro ⟨_, hq⟩; have := cm 0 h0; rw [show 0 + 3 = 2 + 1 from rfl] at this; rw [this] at hq; exact n41 hq)]
    rfl
  have hcop : Copy P t 3 0 P.length := ⟨Nat.le_refl _, by omega, fun i _ hi => cm i hi⟩
  obtain ⟨uf, its, f1, f2, f3, f4, f5, f6, f7⟩ := steps_move0 hcop (fun _ => by rw [e0]; unfold isRep; omega) (fun i _ hi hq => by
    refine ⟨fun hz => ?_, by omega⟩
    rw [show i = P.length - 1 by omega] at hq
    exact h36 hq) g1 (u := ⟨3, [2], [⟨4, [], 0, 1, 0, 0⟩, ⟨2, [], 0, 2, 0, 0⟩], 2⟩) (Nat.zero_le _) (by omega) rfl rfl hp3 rfl
  have hits : itemsP = its := by rw [← hp2, f5]; rfl
  subst hits
  obtain ⟨x1, x2, x3, x4⟩ := uf
  simp only at f2 f3 f4 f6
  subst f3 f4 f6
  have hx1 : x1 = P.length + 3 := by omega
  subst hx1
  have a3 : pItem t ⟨P.length + 3, [2], [⟨4, [], 0, 1, 0, 0⟩, ⟨2, [], 0, 2, 0, 0⟩] ++ itemsP, 2⟩ = some ⟨P.length + 4, [], [⟨4, [], 0, 1, 0, 0⟩, ⟨2, [], 0, 2, 0, 0⟩] ++ itemsP ++ [⟨3, [], 0, 2, 0, 0⟩], 2⟩ := by
    unfold pItem
    simp only
    rw [e0, if_neg (by decide), if_pos rfl]
    rfl
  have a4 : pItem t ⟨P.length + 4, [], [⟨4, [], 0, 1, 0, 0⟩, ⟨2, [], 0, 2, 0, 0⟩] ++ itemsP ++ [⟨3, [], 0, 2, 0, 0⟩], 2⟩ = some ⟨P.length + 6, [], [⟨4, [], 0, 1, 0, 0⟩, ⟨2, [], 0, 2, 0, 0⟩] ++ itemsP ++ [⟨3, [], 0, 2, 0, 0⟩] ++ [⟨4, [], 0, 3, 0, 0⟩], 3⟩ := by
    unfold pItem
    simp only
    rw [e1, if_pos rfl]
    unfold pCapture
    simp only
    rw [if_neg (by decide), if_pos ⟨by omega, e2⟩]
    rfl
  have hall := (((Steps.step (by simp only; omega) a1 (.step (by simp only; omega) a2 f1)).trans (Steps.one (by simp only; omega) a3)).trans (Steps.one (by simp only; omega) a4))
  have hfin := pItems_of hall (by simp only; omega) (by simp) (by simp) (t.length + 1) (by simp)
  rw [if_neg (by simp)] at hI
  have heq := pItems_uniq hI hfin
  refine ⟨rfl, rfl, ?_, f7⟩
  rw [← ht2, heq]
  simp
theorem whole_den {s : List Int} {I : List S147} (hI : ∀ x ∈ I, x.f0 = 1 ∨ x.f0 = 6) (at_ : Nat) :
    den s (⟨4, [], 0, 1, 0, 0⟩ :: ⟨2, [], 0, 2, 0, 0⟩ :: (I ++ [⟨3, [], 0, 2, 0, 0⟩, ⟨4, [], 0, 3, 0, 0⟩])) at_ [] = (match den s I at_ [] with | none => none | some none => some none | some (some (e, c)) => some (some (e, caps3 at_ e))) := by
  have h1 : den s (⟨4, [], 0, 1, 0, 0⟩ :: ⟨2, [], 0, 2, 0, 0⟩ :: (I ++ [⟨3, [], 0, 2, 0, 0⟩, ⟨4, [], 0, 3, 0, 0⟩])) at_ [] = den s (I ++ [⟨3, [], 0, 2, 0, 0⟩, ⟨4, [], 0, 3, 0, 0⟩]) at_ [⟨at_, -2⟩, ⟨at_, -1⟩] := by
    rw [den]
    simp only
    rw [if_neg (by decide), if_neg (by decide), if_pos trivial, den]
    simp only
    rw [if_pos trivial]
    rfl
  rw [h1]
  refine den_frame (F := fun e => caps3 at_ e) (fun e => ?_) I hI at_
  rw [den]
  simp only
  rw [if_neg (by decide), if_pos trivial]
  have hg : ([⟨at_, -2⟩, ⟨at_, -1⟩] : List S74)[Int.toNat 2 - 1]? = some ⟨at_, -1⟩ := rfl
  rw [hg]
  simp only
  rw [den]
  simp only
  rw [if_neg (by decide), if_neg (by decide), if_pos trivial]
  rfl
theorem whole_find {s : List Int} {I : List S147} (hI : ∀ x ∈ I, x.f0 = 1 ∨ x.f0 = 6) : ∀ (n at_ : Nat) (r : Option (Nat × Nat × List S74)), dFind s (⟨4, [], 0, 1, 0, 0⟩ :: ⟨2, [], 0, 2, 0, 0⟩ :: (I ++ [⟨3, [], 0, 2, 0, 0⟩, ⟨4, [], 0, 3, 0, 0⟩])) false n at_ = some r →
    ∃ r', dFind s I false n at_ = some r' ∧ r = r'.map (fun y => (y.1, y.2.1, caps3 y.1 y.2.1)) := by
  intro n
  induction n with
  | zero => intro at_ r h; simp [dFind] at h
  | succ n ih =>
    intro at_ r h
    simp only [dFind] at h ⊢
    by_cases hle : at_ ≤ s.length
    · rw [if_pos hle] at h ⊢
      rw [whole_den hI] at h
      cases hd : den s I at_ [] with
      | none => rw [hd] at h; cases h
      | some y =>
        rw [hd] at h
        cases y with
        | none => simp only at h ⊢; rw [if_neg (by simp)] at h ⊢; exact ih _ _ h
        | some z =>
          obtain ⟨e, c⟩ := z
          simp only at h ⊢
          exact ⟨_, rfl, (Option.some.inj h).symm⟩
    · rw [if_neg hle] at h ⊢
      exact ⟨none, rfl, (Option.some.inj h).symm⟩
end Go.Proofs.YtpjfjfloeejgiaaFmt.Lw
/- IsPattern and HasCaptures of package spec: the walks. -/
set_option linter.unusedVariables false
set_option linter.unusedSimpArgs false
namespace Go.Proofs.YtpjfjfloeejgiaaFmt.Lw
open Go.RowKit Go.Proofs.YtpjfjfloeejgiaaFmtW.PrintWords Go.Proofs.YtpjfjfloeejgiaaFmt.Rf Go.Proofs.YtpjfjfloeejgiaaFmt.Vm Go.Proofs.YtpjfjfloeejgiaaFmt.Mtc Go.Proofs.YtpjfjfloeejgiaaFmt.PFnPatternFirst
def capB (p : ByteArray) : Bool :=
  match pRead (bytesOf p) with
  | some (_, _, n) => decide (0 < n)
  | none => false
section
variable {w : World} {p : ByteArray}
set_option maxHeartbeats 40000000 in
set_option maxRecDepth 100000 in
theorem isPattern_calls : Calls Tryf.prog 14 #[.string p] w fun e w' => e = .returned (.bool (pRead (bytesOf p)).isSome) ∧ Below w.heap.size w w' := by
  have HRD := Aside0.mk (read_all (w := w) (s := p))
  obtain ⟨b, hb⟩ : ∃ b, (pRead (bytesOf p)).isSome = b := ⟨_, rfl⟩
  rw [hb]
  have HBQ := Aside0.mk hb
  clear hb
  go_enter Tryf.func14, Tryf.ntmps14
  go_wp2_with fail
  refine HRD.out.mono ?_
  rintro e w2 ⟨hb2, hE⟩
  cases hpr : pRead (bytesOf p) with
  | none =>
    rw [hpr] at hE
    have hb := HBQ.out
    rw [hpr] at hb
    have HB2 := Aside0.mk hb
    obtain ⟨vb, vA, vn, vc, vk, he⟩ := hE
    subst he
    have HB := Aside0.mk (below_alloc hb2 (.cells #[.bool vb, .slice vA vn vc, .int .i64 vk] 68))
    clear hb2 hb HBQ HRD hpr
    go_wp2_with fail
    refine bodyPost_ret (v := .bool false) ?_ rfl ⟨by rw [← HB2.out] <;> rfl, HB.out⟩
    simp [results, Tryf.results14, go_sem]
  | some y =>
    obtain ⟨anc, items, n⟩ := y
    rw [hpr] at hE
    have hb := HBQ.out
    rw [hpr] at hb
    have HB2 := Aside0.mk hb
    obtain ⟨A, c, he, hic, hC⟩ := hE
    subst he
    have HB := Aside0.mk (below_alloc hb2 (.cells #[.bool anc, .slice A items.length c, .int .i64 (n : Int)] 68))
    clear hb2 hb HBQ HRD hpr hC
    go_wp2_with fail
    refine bodyPost_ret (v := .bool true) ?_ rfl ⟨by rw [← HB2.out] <;> rfl, HB.out⟩
    simp [results, Tryf.results14, go_sem]
set_option maxHeartbeats 40000000 in
set_option maxRecDepth 100000 in
theorem hasCap_calls : Calls Tryf.prog 15 #[.string p] w fun e w' => e = .returned (.bool (capB p)) ∧ Below w.heap.size w w' := by
  have HRD := Aside0.mk (read_all (w := w) (s := p))
  obtain ⟨b, hb⟩ : ∃ b, capB p = b := ⟨_, rfl⟩
  rw [hb]
  unfold capB at hb
  have HBQ := Aside0.mk hb
  clear hb
  go_enter Tryf.func15, Tryf.ntmps15
  go_wp2_with fail
  refine HRD.out.mono ?_
  rintro e w2 ⟨hb2, hE⟩
  cases hpr : pRead (bytesOf p) with
  | none =>
    rw [hpr] at hE
    have hb := HBQ.out
    rw [hpr] at hb
    have HB2 := Aside0.mk hb
    obtain ⟨vb, vA, vn, vc, vk, he⟩ := hE
    subst he
    have HB := Aside0.mk (below_alloc hb2 (.cells #[.bool vb, .slice vA vn vc, .int .i64 vk] 68))
    clear hb2 hb HBQ HRD hpr
    go_wp2_with fail
    refine bodyPost_ret (v := .bool false) ?_ rfl ⟨by rw [← HB2.out] <;> rfl, HB.out⟩
    simp [results, Tryf.results15, go_sem]
  | some y =>
    obtain ⟨anc, items, n⟩ := y
    rw [hpr] at hE
    have hb := HBQ.out
    rw [hpr] at hb
    have HB2 := Aside0.mk hb
    obtain ⟨A, c, he, hic, hC⟩ := hE
    subst he
    have HB := Aside0.mk (below_alloc hb2 (.cells #[.bool anc, .slice A items.length c, .int .i64 (n : Int)] 68))
    clear hb2 hb HBQ HRD hpr hC
    go_wp2_with fail
    refine bodyPost_ret (v := .bool (decide (0 < n))) ?_ rfl ⟨by rw [← HB2.out] <;> rfl, HB.out⟩
    simp [results, Tryf.results15, go_sem]
end
end Go.Proofs.YtpjfjfloeejgiaaFmt.Lw
/- The law FnPatternWhole: the walk. -/
set_option linter.unusedVariables false
set_option linter.unusedSimpArgs false
namespace Go.Proofs.YtpjfjfloeejgiaaFmt.Lw
open Go.RowKit Go.Proofs.YtpjfjfloeejgiaaFmtW.PrintWords Go.Proofs.YtpjfjfloeejgiaaFmt.Rf Go.Proofs.YtpjfjfloeejgiaaFmt.Vm Go.Proofs.YtpjfjfloeejgiaaFmt.Mtc Go.Proofs.YtpjfjfloeejgiaaFmt.PFnPatternFirst
/-- What the law's two patterns have to do with one another. -/
theorem whole_told {p q s : ByteArray} {frm : Int} {itemsP : List S147} {ancP : Bool} {nP : Nat} (hq : bytesOf q = [40, 41, 40] ++ bytesOf p ++ [41, 40, 41]) (hP : pRead (bytesOf p) = some (ancP, itemsP, nP)) (hc : capB p = false) (h0 : 0 < p.size)
    (h94 : bt p ((0 : Nat) : Int) ≠ 94) (h36 : bt p ((p.size - 1 : Nat) : Int) ≠ 36) (h2 : (fFirst q s frm).1 ≠ 2) :
    ∃ r, (∀ w : World, Calls Tryf.prog 12 #[.string p, .string s, .int .i64 frm] w (NineE w r)) ∧ fFirst q s frm = (match r with | none => (1, none) | some (a, e, _) => (0, some (a, e, caps3 a e))) ∧ ∀ a e c, r = some (a, e, c) → a ≤ e := by
  obtain ⟨anc, items, n, fn, hr, hB, hs, hfr, hf, ha, ho, hd⟩ := fFirst_told rfl h2
  rw [hq] at hr
  have hn : nP = 0 := by
    unfold capB at hc
    rw [hP] at hc
    simp only [decide_eq_false_iff_not] at hc
    omega
  subst hn
  obtain ⟨k1, k2, k3, k4⟩ := whole_items hP (by rw [bytesOf_length]; exact h0) (by rw [rd_bytesOf]; exact h94) (by rw [bytesOf_length, rd_bytesOf]; exact h36) hr
  subst k1 k2
  rw [k3] at hd
  obtain ⟨r', e1, e2⟩ := whole_find k4 _ _ _ hd
  refine ⟨r', fun w => ?_, ?_, ?_⟩
  · rw [hfr]
    exact nine_d hP hB hs hf e1
  · cases r' with
    | none =>
      rcases ho with ⟨y, ho⟩ | ho
      · rw [ho] at e2; cases e2
      · exact ho
    | some y =>
      obtain ⟨a, e, c⟩ := y
      rcases ho with ⟨z, ho⟩ | ho
      · rw [ho] at e2 ⊢
        simp only [Option.map_some, Option.some.injEq] at e2
        rw [e2]
      · rw [ho] at e2; cases e2
  · intro a e c hq
    subst hq
    obtain ⟨cs, hfit⟩ := dFind_fit hP hB hs e1
    exact hfit.le.1
theorem due_whole {m m2 : S37} {a en : Nat} {c : List S74} (h : Due m a en (c.map cap65)) (h2 : Due m2 a en ((caps3 a en).map cap65)) (hle : a ≤ en) :
    m.b = a ∧ m.e = en ∧ m2.b = a ∧ m2.e = en ∧ m2.cs.length = 3 ∧ (rd_T33 m2.cs (1 : Int)).f0 = a ∧ (rd_T33 m2.cs (1 : Int)).f1 = en := by
  have hl : m2.cs.length = 3 := h2.lc
  have h1 := h2.all 1 (by show 1 < 3; omega)
  have e65 : rd_T65 ((caps3 a en).map cap65) ((1 : Nat) : Int) = cap65 ⟨a, (en : Int) - a⟩ := rfl
  rw [e65] at h1
  have hb : (cap65 ⟨a, (en : Int) - a⟩).f2 = false := by
    show (((en : Int) - a) == -2) = false
    exact beq_eq_false_iff_ne.mpr (by omega)
  obtain ⟨k1, k2, k3, _, _⟩ := h1
  rw [hb] at k2
  have k3 := k3 hb
  refine ⟨h.b, h.e, h2.b, h2.e, hl, k2, ?_⟩
  rw [show ((1 : Nat) : Int) = 1 from rfl] at k3
  rw [k3]
  show (if 0 < (en : Int) - a then (a : Int) + ((en : Int) - a) else a) = en
  split <;> omega
section
variable {w : World} {p s : ByteArray} {frm : Int}
set_option maxHeartbeats 40000000 in
set_option maxRecDepth 100000 in
theorem law_whole : Calls Tryf.prog 7 #[.string p, .string s, .int .i64 frm] w fun e w' => e = .returned (.bool true) ∧ Below w.heap.size w w' := by
  by_cases hp : 2147483647 < p.size
  · have hpI : (2147483647 : Int) < (p.size : Int) := by omega
    go_enter Tryf.func7, Tryf.ntmps7
    go_wp2_with fail
    go_ret
    exact ⟨rfl, Below.refl _ _⟩
  have hpI : ¬ (2147483647 : Int) < (p.size : Int) := by omega
  by_cases hs : 2147483647 < s.size
  · have hsI : (2147483647 : Int) < (s.size : Int) := by omega
    go_enter Tryf.func7, Tryf.ntmps7
    go_wp2_with fail
    go_ret
    exact ⟨rfl, Below.refl _ _⟩
  have hsI : ¬ (2147483647 : Int) < (s.size : Int) := by omega
  have hqb : bytesOf ({ data := #[40, 41, 40] } ++ p ++ { data := #[41, 40, 41] }) = [40, 41, 40] ++ bytesOf p ++ [41, 40, 41] := by
    rw [bytesOf_append, bytesOf_append]; rfl
  have HT := Aside0.mk (fun (itemsP : List S147) (ancP : Bool) (nP : Nat) hP hc h0 h94 h36 h2 => whole_told (s := s) (frm := frm) (ancP := ancP) (itemsP := itemsP) (nP := nP) hqb hP hc h0 h94 h36 h2)
  have HF := Aside0.mk (firstMatch_any (w := w) (p := ({ data := #[40, 41, 40] } ++ p ++ { data := #[41, 40, 41] })) (s := s) (frm := frm) (by omega))
  have HN := Aside0.mk (fun (W : World) o (h : fFirst ({ data := #[40, 41, 40] } ++ p ++ { data := #[41, 40, 41] }) s frm = o) h2 => nine_any (w := W) h h2)
  have HIP := Aside0.mk (fun W : World => isPattern_calls (w := W) (p := p))
  have HHC := Aside0.mk (fun W : World => hasCap_calls (w := W) (p := p))
  have hoc := o_cases ({ data := #[40, 41, 40] } ++ p ++ { data := #[41, 40, 41] }) s frm
  clear hqb
  go_enter Tryf.func7, Tryf.ntmps7
  go_wp2_with fail
  refine HF.out.mono ?_
  rintro e w1 ⟨hb1, h1⟩
  have HBT := Aside0.mk hb1
  clear HF hb1
  rcases hoc with ho | ho | ⟨a, en, caps, ho⟩
  · rw [ho] at h1
    simp only at h1
    subst h1
    have HB1 := Aside0.mk (below_alloc HBT.out (.cells #[.int .i64 0, .int .i64 0, .slice none 0 0] 30))
    clear HBT HT HN HIP HHC ho
    go_wp2_with fail
    go_ret
    exact ⟨rfl, HB1.out⟩
  · rw [ho] at h1
    simp only at h1
    subst h1
    have HB1 := Aside0.mk (below_alloc HBT.out (.cells #[.int .i64 0, .int .i64 0, .slice none 0 0] 30))
    have HX1 := Aside0.mk (blk_new w1 (.cells #[.int .i64 0, .int .i64 0, .slice none 0 0] 30))
    clear HBT 
    have HOO := Aside0.mk ho
    clear ho
    go_upto_region 4 with (fail)
    generalize w1.alloc (.cells #[.int .i64 0, .int .i64 0, .slice none 0 0] 30) = w2 at *
    generalize w1.heap.size = n7 at *
    go_wp2_with fail
    refine (HIP.out w2).mono ?_
    rintro e w3 ⟨he3, hb3⟩
    subst he3
    have HB3 := Aside0.mk (HB1.out.trans (hb3.mono HB1.out.size))
    have HX3 := Aside0.mk ((hb3.block _ (blk_lt HX1.out)).trans HX1.out)
    clear hb3 HB1 HX1 HIP
    cases hpr : pRead (bytesOf p) with
    | none =>
      simp only [Option.isSome_none]
      clear hpr HT HN HHC HOO
      go_wp2_with fail
      go_ret
      exact ⟨rfl, HB3.out⟩
    | some y =>
      obtain ⟨ancP, itemsP, nP⟩ := y
      simp only [Option.isSome_some]
      have HPR := Aside0.mk hpr
      clear hpr
      by_cases h0 : p.size = 0
      · have hb0 : ((p.size : Int) == 0) = true := beq_iff_eq.mpr (by omega)
        clear HT HN HHC HOO HPR
        go_wp2_with fail
        go_ret
        exact ⟨rfl, HB3.out⟩
      have hb0 : ((p.size : Int) == 0) = false := beq_eq_false_iff_ne.mpr (by omega)
      have h0lt : 0 < p.size := by omega
      have h0ltI : (0 : Int) < (p.size : Int) := by omega
      have hx0 := bt_nat p 0 h0lt
      by_cases h94 : bt p ((0 : Nat) : Int) = 94
      · have hb94 : (bt p ((0 : Nat) : Int) == 94) = true := beq_iff_eq.mpr h94
        generalize bt p ((0 : Nat) : Int) = ch at hx0 hb94
        clear h94 HT HN HHC HOO HPR
        go_wp2_with fail
        go_ret
        exact ⟨rfl, HB3.out⟩
      have hb94 : (bt p ((0 : Nat) : Int) == 94) = false := beq_eq_false_iff_ne.mpr h94
      have qm : IntKind.i64.wrap ((p.size : Int) - 1) = ((p.size - 1 : Nat) : Int) := by rw [IntWalk.i64_in _ (by omega)]; omega
      have hlt : p.size - 1 < p.size := by omega
      have hltI2 : ((p.size - 1 : Nat) : Int) < (p.size : Int) := by omega
      have hxl := bt_nat p (p.size - 1) hlt
      have qm2 : (p.size : Int) - 1 = ((p.size - 1 : Nat) : Int) := by omega
      by_cases h36 : bt p ((p.size - 1 : Nat) : Int) = 36
      · have hb36 : (bt p ((p.size - 1 : Nat) : Int) == 36) = true := beq_iff_eq.mpr h36
        generalize bt p ((0 : Nat) : Int) = ch at hx0 hb94
        generalize bt p ((p.size - 1 : Nat) : Int) = ch2 at hxl hb36
        clear h94 h36 HT HN HHC HOO HPR
        go_wp2_with fail
        go_ret
        exact ⟨rfl, HB3.out⟩
      have hb36 : (bt p ((p.size - 1 : Nat) : Int) == 36) = false := beq_eq_false_iff_ne.mpr h36
      have H94 := Aside0.mk h94
      have H36 := Aside0.mk h36
      generalize bt p ((0 : Nat) : Int) = ch at hx0 hb94
      generalize bt p ((p.size - 1 : Nat) : Int) = ch2 at hxl hb36
      clear h94 h36
      go_wp2_with fail
      refine (HHC.out w3).mono ?_
      rintro e w4 ⟨he4, hb4⟩
      subst he4
      have HB4 := Aside0.mk (HB3.out.trans (hb4.mono HB3.out.size))
      have HX4 := Aside0.mk ((hb4.block _ (blk_lt HX3.out)).trans HX3.out)
      clear hb4 HB3 HX3 HHC
      cases hcb : capB p with
      | true =>
        clear hcb HT HN HOO HPR
        go_wp2_with fail
        go_ret
        exact ⟨rfl, HB4.out⟩
      | false =>
        obtain ⟨r, hr1, hr2, hr3⟩ := HT.out itemsP ancP nP HPR.out hcb h0lt H94.out H36.out (by rw [HOO.out]; simp)
        rw [HOO.out] at hr2
        have HR1 := Aside0.mk hr1
        have HN2 := Aside0.mk (fun W : World => HN.out W _ HOO.out (by simp))
        clear hr1 hcb HT HN HPR HOO hx0 hxl hb94 hb36 hb0 qm qm2
        cases r with
        | some y => obtain ⟨a, e, c⟩ := y; simp at hr2
        | none =>
          clear hr2 hr3
          go_wp2_with fail
          refine (HR1.out w4).mono ?_
          rintro e w5 ⟨hb5, h5⟩
          simp only at h5
          subst h5
          have HB5 := Aside0.mk (below_alloc (HB4.out.trans (hb5.mono HB4.out.size)) (.cells #[.int .i64 0, .int .i64 0, .slice none 0 0, .slice none 0 0] 37))
          clear hb5 HB4 HR1
          go_wp2_with fail
          refine (HN2.out (w5.alloc (.cells #[.int .i64 0, .int .i64 0, .slice none 0 0, .slice none 0 0] 37))).mono ?_
          rintro e w6 ⟨hb6, h6⟩
          simp only at h6
          subst h6
          have HB6 := Aside0.mk (below_alloc (HB5.out.trans (hb6.mono HB5.out.size)) (.cells #[.int .i64 0, .int .i64 0, .slice none 0 0, .slice none 0 0] 37))
          clear hb6 HB5 HN2
          go_wp2_with fail
          go_quiet (fail)
          go_wp2_with fail
          go_ret
          exact ⟨rfl, pw_below_drewN HB6.out _⟩
  · rw [ho] at h1
    obtain ⟨A, c, he, hle, hC⟩ := h1
    have hfew := o_few ho
    subst he
    have HB1 := Aside0.mk (below_alloc HBT.out (.cells #[.int .i64 (a : Int), .int .i64 (en : Int), .slice A caps.length c] 30))
    have HX1 := Aside0.mk (blk_new w1 (.cells #[.int .i64 (a : Int), .int .i64 (en : Int), .slice A caps.length c] 30))
    have HC1 := Aside0.mk (Kd.C_below hC (below_alloc (Below.refl w1.heap.size w1) (.cells #[.int .i64 (a : Int), .int .i64 (en : Int), .slice A caps.length c] 30)))
    clear HBT hC
    have HOO := Aside0.mk ho
    clear ho
    go_upto_region 4 with (fail)
    generalize w1.alloc (.cells #[.int .i64 (a : Int), .int .i64 (en : Int), .slice A caps.length c] 30) = w2 at *
    generalize w1.heap.size = n7 at *
    go_wp2_with fail
    refine (HIP.out w2).mono ?_
    rintro e w3 ⟨he3, hb3⟩
    subst he3
    have HB3 := Aside0.mk (HB1.out.trans (hb3.mono HB1.out.size))
    have HX3 := Aside0.mk ((hb3.block _ (blk_lt HX1.out)).trans HX1.out)
    have HC3 := Aside0.mk (Kd.C_below HC1.out hb3)
    clear hb3 HB1 HX1 HIP
    cases hpr : pRead (bytesOf p) with
    | none =>
      simp only [Option.isSome_none]
      clear hpr HT HN HHC HOO
      go_wp2_with fail
      go_ret
      exact ⟨rfl, HB3.out⟩
    | some y =>
      obtain ⟨ancP, itemsP, nP⟩ := y
      simp only [Option.isSome_some]
      have HPR := Aside0.mk hpr
      clear hpr
      by_cases h0 : p.size = 0
      · have hb0 : ((p.size : Int) == 0) = true := beq_iff_eq.mpr (by omega)
        clear HT HN HHC HOO HPR
        go_wp2_with fail
        go_ret
        exact ⟨rfl, HB3.out⟩
      have hb0 : ((p.size : Int) == 0) = false := beq_eq_false_iff_ne.mpr (by omega)
      have h0lt : 0 < p.size := by omega
      have h0ltI : (0 : Int) < (p.size : Int) := by omega
      have hx0 := bt_nat p 0 h0lt
      by_cases h94 : bt p ((0 : Nat) : Int) = 94
      · have hb94 : (bt p ((0 : Nat) : Int) == 94) = true := beq_iff_eq.mpr h94
        generalize bt p ((0 : Nat) : Int) = ch at hx0 hb94
        clear h94 HT HN HHC HOO HPR
        go_wp2_with fail
        go_ret
        exact ⟨rfl, HB3.out⟩
      have hb94 : (bt p ((0 : Nat) : Int) == 94) = false := beq_eq_false_iff_ne.mpr h94
      have qm : IntKind.i64.wrap ((p.size : Int) - 1) = ((p.size - 1 : Nat) : Int) := by rw [IntWalk.i64_in _ (by omega)]; omega
      have hlt : p.size - 1 < p.size := by omega
      have hltI2 : ((p.size - 1 : Nat) : Int) < (p.size : Int) := by omega
      have hxl := bt_nat p (p.size - 1) hlt
      have qm2 : (p.size : Int) - 1 = ((p.size - 1 : Nat) : Int) := by omega
      by_cases h36 : bt p ((p.size - 1 : Nat) : Int) = 36
      · have hb36 : (bt p ((p.size - 1 : Nat) : Int) == 36) = true := beq_iff_eq.mpr h36
        generalize bt p ((0 : Nat) : Int) = ch at hx0 hb94
        generalize bt p ((p.size - 1 : Nat) : Int) = ch2 at hxl hb36
        clear h94 h36 HT HN HHC HOO HPR
        go_wp2_with fail
        go_ret
        exact ⟨rfl, HB3.out⟩
      have hb36 : (bt p ((p.size - 1 : Nat) : Int) == 36) = false := beq_eq_false_iff_ne.mpr h36
      have H94 := Aside0.mk h94
      have H36 := Aside0.mk h36
      generalize bt p ((0 : Nat) : Int) = ch at hx0 hb94
      generalize bt p ((p.size - 1 : Nat) : Int) = ch2 at hxl hb36
      clear h94 h36
      go_wp2_with fail
      refine (HHC.out w3).mono ?_
      rintro e w4 ⟨he4, hb4⟩
      subst he4
      have HB4 := Aside0.mk (HB3.out.trans (hb4.mono HB3.out.size))
      have HX4 := Aside0.mk ((hb4.block _ (blk_lt HX3.out)).trans HX3.out)
      have HC4 := Aside0.mk (Kd.C_below HC3.out hb4)
      clear hb4 HB3 HX3 HHC
      cases hcb : capB p with
      | true =>
        clear hcb HT HN HOO HPR
        go_wp2_with fail
        go_ret
        exact ⟨rfl, HB4.out⟩
      | false =>
        obtain ⟨r, hr1, hr2, hr3⟩ := HT.out itemsP ancP nP HPR.out hcb h0lt H94.out H36.out (by rw [HOO.out]; simp)
        rw [HOO.out] at hr2
        have HR1 := Aside0.mk hr1
        have HN2 := Aside0.mk (fun W : World => HN.out W _ HOO.out (by simp))
        clear hr1 hcb HT HN HPR HOO hx0 hxl hb94 hb36 hb0 qm qm2
        cases r with
        | none => simp at hr2
        | some y =>
          obtain ⟨a2, e2, c2⟩ := y
          obtain ⟨rfl, rfl, rfl⟩ : a = a2 ∧ en = e2 ∧ caps = caps3 a2 e2 := by simpa using hr2
          have hae := hr3 a en c2 rfl
          clear hr2 hr3
          go_wp2_with fail
          refine (HR1.out w4).mono ?_
          rintro e w5 ⟨hb5, m, M1, k1, M2, k2, he5, r1, r2, hdue⟩
          subst he5
          have HB5 := Aside0.mk (below_alloc (HB4.out.trans (hb5.mono HB4.out.size)) (.cells #[.int .i64 m.b, .int .i64 m.e, .slice M1 m.cs.length k1, .slice M2 m.ps.length k2] 37))
          have HX5 := Aside0.mk (blk_alloc ((hb5.block _ (blk_lt HX4.out)).trans HX4.out) (.cells #[.int .i64 m.b, .int .i64 m.e, .slice M1 m.cs.length k1, .slice M2 m.ps.length k2] 37))
          have bel5 := below_alloc (Below.refl w5.heap.size w5) (.cells #[.int .i64 m.b, .int .i64 m.e, .slice M1 m.cs.length k1, .slice M2 m.ps.length k2] 37)
          have HC5 := Aside0.mk (Kd.C_below (Kd.C_below HC4.out hb5) bel5)
          have HY5 := Aside0.mk (blk_new w5 (.cells #[.int .i64 m.b, .int .i64 m.e, .slice M1 m.cs.length k1, .slice M2 m.ps.length k2] 37))
          have HD := Aside0.mk hdue
          clear hb5 r1 r2 hdue bel5 HX4 HB4 HC4 HR1
          go_upto_region 7 with (fail)
          generalize w5.alloc (.cells #[.int .i64 m.b, .int .i64 m.e, .slice M1 m.cs.length k1, .slice M2 m.ps.length k2] 37) = w7 at *
          generalize w5.heap.size = n9 at *
          go_wp2_with fail
          refine (HN2.out w7).mono ?_
          rintro e w8 ⟨hb8, m2, N1, j1, N2, j2, he8, s1, s2, hdue2⟩
          subst he8
          have HB8 := Aside0.mk (below_alloc (HB5.out.trans (hb8.mono HB5.out.size)) (.cells #[.int .i64 m2.b, .int .i64 m2.e, .slice N1 m2.cs.length j1, .slice N2 m2.ps.length j2] 37))
          have bel8 := below_alloc (Below.refl w8.heap.size w8) (.cells #[.int .i64 m2.b, .int .i64 m2.e, .slice N1 m2.cs.length j1, .slice N2 m2.ps.length j2] 37)
          have HX8 := Aside0.mk (blk_alloc ((hb8.block _ (blk_lt HX5.out)).trans HX5.out) (.cells #[.int .i64 m2.b, .int .i64 m2.e, .slice N1 m2.cs.length j1, .slice N2 m2.ps.length j2] 37))
          have HY8 := Aside0.mk (blk_alloc ((hb8.block _ (blk_lt HY5.out)).trans HY5.out) (.cells #[.int .i64 m2.b, .int .i64 m2.e, .slice N1 m2.cs.length j1, .slice N2 m2.ps.length j2] 37))
          have HW8 := Aside0.mk (blk_new w8 (.cells #[.int .i64 m2.b, .int .i64 m2.e, .slice N1 m2.cs.length j1, .slice N2 m2.ps.length j2] 37))
          have HC8 := Aside0.mk (Kd.C_below (Kd.C_below HC5.out hb8) bel8)
          have HS1 := Aside0.mk (Kd.C_below s1 bel8)
          have HS2 := Aside0.mk (Kd.C_below s2 bel8)
          have HD2 := Aside0.mk hdue2
          clear hb8 s1 s2 hdue2 bel8 HX5 HY5 HC5 HB5 HN2
          go_upto_region 8 with (fail)
          generalize w8.alloc (.cells #[.int .i64 m2.b, .int .i64 m2.e, .slice N1 m2.cs.length j1, .slice N2 m2.ps.length j2] 37) = w9 at *
          generalize w8.heap.size = n12 at *
          obtain ⟨d1, d2, d3, d4, d5, d6, d7⟩ := due_whole HD.out HD2.out hae
          have hi1 := ism_true (w := w9.drew) (A1 := N1) (A2 := N2) (A3 := A) (c1 := j1) (c2 := j2) (c3 := c) HD2.out HS1.out HS2.out (by rw [List.length_map]; exact HC8.out) (by rw [List.length_map]; omega)
          rw [List.length_map, d3, d4, d5] at hi1
          have HI1 := Aside0.mk hi1
          obtain ⟨ad, hN1, v0, v1⟩ := at_T33 HS1.out (1 : Int) (by omega) (by rw [d5]; omega)
          subst hN1
          rw [d6] at v0
          rw [d7] at v1
          have a0 := blk_cell HX8.out 0
          have a1 := blk_cell HX8.out 1
          have a2 := blk_cell HX8.out 2
          have b0 := blk_cell HY8.out 0
          have b1 := blk_cell HY8.out 1
          have b2 := blk_cell HY8.out 2
          have b3 := blk_cell HY8.out 3
          have c0 := blk_cell HW8.out 0
          have c1_ := blk_cell HW8.out 1
          have c2_ := blk_cell HW8.out 2
          have c3_ := blk_cell HW8.out 3
          rw [d1] at b0
          rw [d2] at b1
          rw [d3] at c0
          rw [d4] at c1_
          rw [d5] at c2_
          clear hi1 d1 d2 d3 d4 d6 d7
          have v0 : w9.cell? ⟨ad.block, ad.off + 2, none⟩ = some (.int .i64 (a : Int)) := v0
          have v1 : w9.cell? ⟨ad.block, ad.off + 2 + 1, none⟩ = some (.int .i64 (en : Int)) := v1
          have HKEEP := Aside0.mk (fun (w' : World) (hb : Below w9.drew.heap.size w9.drew w') => (show w'.cell? ⟨n7, 0, none⟩ = some (.int .i64 (a : Int)) ∧ w'.cell? ⟨n7, 1, none⟩ = some (.int .i64 (en : Int)) ∧ w'.cell? ⟨n7, 2, none⟩ = some (.slice A (caps3 a en).length c) ∧ w'.cell? ⟨n9, 0, none⟩ = some (.int .i64 (a : Int)) ∧ w'.cell? ⟨n9, 1, none⟩ = some (.int .i64 (en : Int)) ∧ w'.cell? ⟨n12, 0, none⟩ = some (.int .i64 (a : Int)) ∧ w'.cell? ⟨n12, 1, none⟩ = some (.int .i64 (en : Int)) ∧ w'.cell? ⟨n12, 2, none⟩ = some (.slice (some ad) 3 j1) ∧ w'.cell? ⟨n12, 3, none⟩ = some (.slice N2 m2.ps.length j2) ∧ w'.cell? ⟨ad.block, ad.off + 2, none⟩ = some (.int .i64 (a : Int)) ∧ w'.cell? ⟨ad.block, ad.off + 2 + 1, none⟩ = some (.int .i64 (en : Int)) from
            ⟨pw_cell_below (w := w9.drew) hb a0, pw_cell_below (w := w9.drew) hb a1, pw_cell_below (w := w9.drew) hb a2, pw_cell_below (w := w9.drew) hb b0, pw_cell_below (w := w9.drew) hb b1, pw_cell_below (w := w9.drew) hb c0, pw_cell_below (w := w9.drew) hb c1_, pw_cell_below (w := w9.drew) hb c2_, pw_cell_below (w := w9.drew) hb c3_, pw_cell_below (w := w9.drew) hb v0, pw_cell_below (w := w9.drew) hb v1⟩))
          clear b2 b3
          go_upto_region 10 with (fail)
          go_region_held3 (fun w' => w'.cell? ⟨n7, 0, none⟩ = some (.int .i64 (a : Int)) ∧ w'.cell? ⟨n7, 1, none⟩ = some (.int .i64 (en : Int)) ∧ w'.cell? ⟨n7, 2, none⟩ = some (.slice A (caps3 a en).length c) ∧ w'.cell? ⟨n9, 0, none⟩ = some (.int .i64 (a : Int)) ∧ w'.cell? ⟨n9, 1, none⟩ = some (.int .i64 (en : Int)) ∧ w'.cell? ⟨n12, 0, none⟩ = some (.int .i64 (a : Int)) ∧ w'.cell? ⟨n12, 1, none⟩ = some (.int .i64 (en : Int)) ∧ w'.cell? ⟨n12, 2, none⟩ = some (.slice (some ad) 3 j1) ∧ w'.cell? ⟨n12, 3, none⟩ = some (.slice N2 m2.ps.length j2) ∧ w'.cell? ⟨ad.block, ad.off + 2, none⟩ = some (.int .i64 (a : Int)) ∧ w'.cell? ⟨ad.block, ad.off + 2 + 1, none⟩ = some (.int .i64 (en : Int))) (first | exact ⟨a0, a1, a2, b0, b1, c0, c1_, c2_, c3_, v0, v1⟩ | exact HKEEP.out _ HB10.out) (first | (go_at_call 10; refine HI1.out.mono ?_; rintro e w10 ⟨he10, hb10⟩; subst he10; have HB10 := Aside0.mk hb10; clear hb10))
          go_wp2_with fail
          go_ret
          exact ⟨rfl, (below_drew HB8.out).trans (HB10.out.mono HB8.out.size)⟩
end
end Go.Proofs.YtpjfjfloeejgiaaFmt.Lw
