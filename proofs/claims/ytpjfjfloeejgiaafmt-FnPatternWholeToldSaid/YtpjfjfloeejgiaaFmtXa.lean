/- Joined texts of this seat: Clo, Mov, Lwa. -/
import Derived.Test.YtpjfjfloeejgiaaFmtGn
import Derived.Test.YtpjfjfloeejgiaaFmtXf
/- isClosed9: the walk; what it tells. -/
set_option linter.unusedVariables false
set_option linter.unusedSimpArgs false
namespace Go.Proofs.YtpjfjfloeejgiaaFmt.Lw
open Go.RowKit Go.Proofs.YtpjfjfloeejgiaaFmtW.PrintWords Go.Proofs.YtpjfjfloeejgiaaFmt.Rf Go.Proofs.YtpjfjfloeejgiaaFmt.Vm Go.Proofs.YtpjfjfloeejgiaaFmt.Mtc Go.Proofs.YtpjfjfloeejgiaaFmt.PFnPatternFirst
/-- At the head of isClosed9's loop. -/
def AtClo (s : ByteArray) (i : Nat) (R : World → Prop) (a : Act) (w : World) : Prop :=
  a.tmps.size = 45 ∧ a.defers = [] ∧ (a.tmps.getD 0 undef = .string s ∧ a.tmps.getD 3 undef = .int .i64 (i : Int)) ∧ R w
set_option maxRecDepth 100000 in
theorem AtClo.open_ {s : ByteArray} {i : Nat} {R : World → Prop} {a : Act} {w : World} (h : AtClo s i R a w) : (∃ u : Nat → Value, a = ⟨#[.string s, u 1, u 2, .int .i64 (i : Int), u 4, u 5, u 6, u 7, u 8, u 9, u 10, u 11, u 12, u 13, u 14, u 15, u 16, u 17, u 18, u 19, u 20, u 21, u 22, u 23, u 24, u 25, u 26, u 27, u 28, u 29, u 30, u 31, u 32, u 33, u 34, u 35, u 36, u 37, u 38, u 39, u 40, u 41, u 42, u 43, u 44], []⟩) ∧ R w := by
  obtain ⟨tmps, defers⟩ := a
  obtain ⟨hs, hd, ⟨h0, h3⟩, hR⟩ := h
  refine ⟨⟨fun i => tmps.getD i undef, ?_⟩, hR⟩
  have hd' : defers = [] := hd
  subst hd'
  have k0 : tmps.getD 0 undef = .string s := h0
  have k3 : tmps.getD 3 undef = .int .i64 (i : Int) := h3
  have h := frame_lit 45 tmps hs
  have h2 : ((List.range 45).map (fun i => tmps.getD i undef)).toArray = #[tmps.getD 0 undef, tmps.getD 1 undef, tmps.getD 2 undef, tmps.getD 3 undef, tmps.getD 4 undef, tmps.getD 5 undef, tmps.getD 6 undef, tmps.getD 7 undef, tmps.getD 8 undef, tmps.getD 9 undef, tmps.getD 10 undef, tmps.getD 11 undef, tmps.getD 12 undef, tmps.getD 13 undef, tmps.getD 14 undef, tmps.getD 15 undef, tmps.getD 16 undef, tmps.getD 17 undef, tmps.getD 18 undef, tmps.getD 19 undef, tmps.getD 20 undef, tmps.getD 21 undef, tmps.getD 22 undef, tmps.getD 23 undef, tmps.getD 24 undef, tmps.getD 25 undef, tmps.getD 26 undef, tmps.getD 27 undef, tmps.getD 28 undef, tmps.getD 29 undef, tmps.getD 30 undef, tmps.getD 31 undef, tmps.getD 32 undef, tmps.getD 33 undef, tmps.getD 34 undef, tmps.getD 35 undef, tmps.getD 36 undef, tmps.getD 37 undef, tmps.getD 38 undef, tmps.getD 39 undef, tmps.getD 40 undef, tmps.getD 41 undef, tmps.getD 42 undef, tmps.getD 43 undef, tmps.getD 44 undef] := rfl
  rw [h2] at h
  rw [k0, k3] at h
  exact congrArg (fun t => Act.mk t _) h
/-- A part of a pattern with neither a set nor a balance, that does not end with %. -/
def Closed (t : List Int) : Prop := ∀ i : Nat, i < t.length → rd t i ≠ 91 ∧ (rd t i = 37 → i + 1 < t.length ∧ rd t ((i + 1 : Nat) : Int) ≠ 98)
/-- What isClosed9 answers. -/
def CloE (w : World) (s : ByteArray) (e : Ending) (w' : World) : Prop := ∃ b, e = .returned (.bool b) ∧ (b = true → Closed (bytesOf s)) ∧ Below w.heap.size w w'
section
variable {w : World} {s : ByteArray}
set_option maxHeartbeats 40000000 in
set_option maxRecDepth 100000 in
theorem closed_calls (hs : s.size ≤ 2147483647) : Calls Tryf.prog 13 #[.string s] w (CloE w s) := by
  go_enter Tryf.func13, Tryf.ntmps13
  go_wp2_with fail
  refine wp_loop_ghost_k (fun k a wr => ∃ (i : Nat), i + k = s.size ∧ (∀ j : Nat, j < i → rd (bytesOf s) j ≠ 91 ∧ (rd (bytesOf s) j = 37 → j + 1 < s.size ∧ rd (bytesOf s) ((j + 1 : Nat) : Int) ≠ 98)) ∧ AtClo s i (fun wr => wr = w) a wr) s.size ⟨0, by omega, fun j hj => absurd hj (Nat.not_lt_zero j), rfl, rfl, ⟨rfl, rfl⟩, rfl⟩ ?_
  intro gk a wr hI J K hJ hK
  obtain ⟨i, hik, hno, hI⟩ := hI
  obtain ⟨⟨u, rfl⟩, rfl⟩ := hI.open_
  clear hI
  have HNO := Aside0.mk hno
  clear hno
  cases gk with
  | succ gk =>
    have hlt : i < s.size := by omega
    have hltI : (i : Int) < (s.size : Int) := by omega
    have hx := bt_nat s i hlt
    have qi : IntKind.i64.wrap ((i : Int) + 1) = (i : Int) + 1 := IntWalk.i64_in _ (by omega)
    have HR := Aside0.mk (rd_bytesOf s (i : Int))
    by_cases h91 : bt s (i : Int) = 91
    · have hb : (bt s (i : Int) == 91) = true := beq_iff_eq.mpr h91
      generalize bt s (i : Int) = ch at hx hb
      clear h91 HR HNO
      go_wp2_with fail
      go_ret
      exact ⟨false, rfl, fun hq => (by cases hq), Below.refl _ _⟩
    have hb : (bt s (i : Int) == 91) = false := beq_eq_false_iff_ne.mpr h91
    by_cases h37 : bt s (i : Int) = 37
    · have hb2 : (bt s (i : Int) == 37) = true := beq_iff_eq.mpr h37
      by_cases hl : i + 1 = s.size
      · have hlI : ((i : Int) + 1 == (s.size : Int)) = true := beq_iff_eq.mpr (by omega)
        generalize bt s (i : Int) = ch at hx hb hb2
        clear h91 h37 HR HNO
        go_wp2_with fail
        go_ret
        exact ⟨false, rfl, fun hq => (by cases hq), Below.refl _ _⟩
      · have hlI : ((i : Int) + 1 == (s.size : Int)) = false := beq_eq_false_iff_ne.mpr (by omega)
        have hlt1 : i + 1 < s.size := by omega
        have hltI1 : (i : Int) + 1 < (s.size : Int) := by omega
        have h0I1 : (0 : Int) ≤ (i : Int) + 1 := by omega
        have hx1 := bt_nat s (i + 1) hlt1
        have HR1 := Aside0.mk (rd_bytesOf s ((i + 1 : Nat) : Int))
        have hn1 : ((i : Int) + 1).toNat = i + 1 := by omega
        by_cases h98 : bt s ((i + 1 : Nat) : Int) = 98
        · have hb3 : (bt s ((i + 1 : Nat) : Int) == 98) = true := beq_iff_eq.mpr h98
          generalize bt s ((i + 1 : Nat) : Int) = ch1 at hx1 hb3
          generalize bt s (i : Int) = ch at hx hb hb2
          clear h91 h37 h98 HR HR1 HNO
          go_wp2_with fail
          go_ret
          exact ⟨false, rfl, fun hq => (by cases hq), Below.refl _ _⟩
        · have hb3 : (bt s ((i + 1 : Nat) : Int) == 98) = false := beq_eq_false_iff_ne.mpr h98
          have hno2 : ∀ j : Nat, j < i + 1 → rd (bytesOf s) j ≠ 91 ∧ (rd (bytesOf s) j = 37 → j + 1 < s.size ∧ rd (bytesOf s) ((j + 1 : Nat) : Int) ≠ 98) := by
            intro j hj
            rcases Nat.lt_succ_iff_lt_or_eq.1 hj with h | h
            · exact HNO.out j h
            · subst h
              rw [HR.out, HR1.out]
              exact ⟨h91, fun _ => ⟨hlt1, h98⟩⟩
          have HNO2 := Aside0.mk hno2
          generalize bt s ((i + 1 : Nat) : Int) = ch1 at hx1 hb3
          generalize bt s (i : Int) = ch at hx hb hb2
          clear h91 h37 h98 HR HR1 HNO hno2
          go_wp2_with fail
          exact Handed.intro gk (by omega) (hJ _ _ _ ⟨i + 1, by omega, HNO2.out, rfl, rfl, ⟨rfl, congrArg (Value.int .i64) (Int.natCast_succ i).symm⟩, rfl⟩)
    · have hb2 : (bt s (i : Int) == 37) = false := beq_eq_false_iff_ne.mpr h37
      have hno2 : ∀ j : Nat, j < i + 1 → rd (bytesOf s) j ≠ 91 ∧ (rd (bytesOf s) j = 37 → j + 1 < s.size ∧ rd (bytesOf s) ((j + 1 : Nat) : Int) ≠ 98) := by
        intro j hj
        rcases Nat.lt_succ_iff_lt_or_eq.1 hj with h | h
        · exact HNO.out j h
        · subst h
          rw [HR.out]
          exact ⟨h91, fun hq => absurd hq h37⟩
      have HNO2 := Aside0.mk hno2
      generalize bt s (i : Int) = ch at hx hb hb2
      clear h91 h37 HR HNO hno2
      go_wp2_with fail
      exact Handed.intro gk (by omega) (hJ _ _ _ ⟨i + 1, by omega, HNO2.out, rfl, rfl, ⟨rfl, congrArg (Value.int .i64) (Int.natCast_succ i).symm⟩, rfl⟩)
  | zero =>
    have hi : i = s.size := by omega
    subst hi
    have hltI : ¬ ((s.size : Int) < (s.size : Int)) := by omega
    have HC : Aside0 (Closed (bytesOf s)) := ⟨fun j hj => by rw [bytesOf_length] at hj ⊢; exact HNO.out j hj⟩
    by_cases h0 : s.size = 0
    · have hb0 : ((s.size : Int) == 0) = true := beq_iff_eq.mpr (by omega)
      clear h0 HNO
      go_wp2_with fail
      refine bodyPost_ret (v := .bool true) ?_ rfl ⟨true, rfl, fun _ => HC.out, Below.refl _ _⟩
      simp [results, Tryf.results13, go_sem]
    · have hb0 : ((s.size : Int) == 0) = false := beq_eq_false_iff_ne.mpr (by omega)
      have qm : IntKind.i64.wrap ((s.size : Int) - 1) = ((s.size - 1 : Nat) : Int) := by rw [IntWalk.i64_in _ (by omega)]; omega
      have hlt : s.size - 1 < s.size := by omega
      have hltI2 : ((s.size - 1 : Nat) : Int) < (s.size : Int) := by omega
      have hx := bt_nat s (s.size - 1) hlt
      have qm2 : (s.size : Int) - 1 = ((s.size - 1 : Nat) : Int) := by omega
      generalize bt s ((s.size - 1 : Nat) : Int) = ch at hx
      clear h0 HNO
      go_wp2_with fail
      refine bodyPost_ret (v := .bool (ch != 37)) ?_ rfl ⟨_, rfl, fun _ => HC.out, Below.refl _ _⟩
      simp [results, Tryf.results13, go_sem]
end
end Go.Proofs.YtpjfjfloeejgiaaFmt.Lw
/- Patterns read item by item: steps, a text's parts, parts that are closed. -/
set_option linter.unusedVariables false
set_option linter.unusedSimpArgs false
namespace Go.Proofs.YtpjfjfloeejgiaaFmt.Lw
open Go.RowKit Go.Proofs.YtpjfjfloeejgiaaFmtW.PrintWords Go.Proofs.YtpjfjfloeejgiaaFmt.Rf Go.Proofs.YtpjfjfloeejgiaaFmt.Vm Go.Proofs.YtpjfjfloeejgiaaFmt.Mtc Go.Proofs.YtpjfjfloeejgiaaFmt.PFnPatternFirst

/-- Items read one behind the other. -/
inductive Steps (t : List Int) : RSt → RSt → Prop
  | refl (s) : Steps t s s
  | step {s s' s2} : s.at_ < t.length → pItem t s = some s' → Steps t s' s2 → Steps t s s2
theorem Steps.trans {t : List Int} {a b c : RSt} (h : Steps t a b) (k : Steps t b c) : Steps t a c := by
  induction h with
  | refl s => exact k
  | step h1 h2 h3 ih => exact .step h1 h2 (ih k)
theorem Steps.one {t : List Int} {a b : RSt} (h1 : a.at_ < t.length) (h2 : pItem t a = some b) : Steps t a b := .step h1 h2 (.refl b)
theorem steps_of {t : List Int} : ∀ (n : Nat) (s sf : RSt), pItems t n s = some sf → Steps t s sf ∧ t.length ≤ sf.at_ := by
  intro n
  induction n with
  | zero => intro s sf h; simp [pItems] at h
  | succ n ih =>
    intro s sf h
    simp only [pItems] at h
    by_cases hlt : s.at_ < t.length
    · rw [if_pos hlt] at h
      cases hI : pItem t s with
      | none => rw [hI] at h; cases h
      | some s' =>
        rw [hI] at h
        obtain ⟨k1, k2⟩ := ih _ _ h
        exact ⟨.step hlt hI k1, k2⟩
    · rw [if_neg hlt] at h
      obtain rfl := Option.some.inj h
      exact ⟨.refl _, by omega⟩
theorem Steps.caps {t : List Int} {s sf : RSt} (h : Steps t s sf) (hc : s.caps ≤ 9) (hat : s.at_ ≤ t.length) : sf.caps ≤ 9 ∧ s.at_ ≤ sf.at_ ∧ sf.at_ ≤ t.length := by
  induction h with
  | refl s => exact ⟨hc, Nat.le_refl _, hat⟩
  | step h1 h2 h3 ih =>
    obtain ⟨k1, k2, k3, k4, k5⟩ := pItem_ok h2 h1 hc
    have := ih k5 k2
    omega
theorem pItems_of {t : List Int} {s sf : RSt} (h : Steps t s sf) : t.length ≤ sf.at_ → s.caps ≤ 9 → s.at_ ≤ t.length → ∀ n, t.length + 1 ≤ n + s.at_ → pItems t n s = some sf := by
  induction h with
  | refl s =>
    intro h1 h2 h3 n hn
    obtain ⟨n, rfl⟩ : ∃ m, n = m + 1 := ⟨n - 1, by omega⟩
    simp only [pItems]
    rw [if_neg (by omega)]
  | step h1 h2 h3 ih =>
    intro k1 k2 k3 n hn
    obtain ⟨n, rfl⟩ : ∃ m, n = m + 1 := ⟨n - 1, by omega⟩
    obtain ⟨m1, m2, m3, m4, m5⟩ := pItem_ok h2 h1 k2
    simp only [pItems]
    rw [if_pos h1, h2]
    exact ih k1 m5 m2 n (by omega)
/-- A text's items, parted at a place that none of them straddles. -/
theorem Steps.cut {t : List Int} {m : Nat} {s sf : RSt} (h : Steps t s sf) (hno : ∀ a b, a.at_ < m → s.at_ ≤ a.at_ → pItem t a = some b → b.at_ ≤ m) : s.caps ≤ 9 → s.at_ ≤ m → m ≤ sf.at_ → ∃ sB, sB.at_ = m ∧ Steps t s sB ∧ Steps t sB sf := by
  induction h with
  | refl s => intro h0 h1 h2; exact ⟨s, by omega, .refl s, .refl s⟩
  | @step s s' s2 h1 h2 h3 ih =>
    intro h0 k1 k2
    by_cases hm : s.at_ = m
    · exact ⟨s, hm, .refl s, .step h1 h2 h3⟩
    · have hl := hno s s' (by omega) (Nat.le_refl _) h2
      obtain ⟨m1, m2, m3, m4, m5⟩ := pItem_ok h2 h1 h0
      obtain ⟨sB, e1, e2, e3⟩ := ih (fun a b ha hb => hno a b ha (by omega)) m5 hl k2
      exact ⟨sB, e1, .step h1 h2 e2, e3⟩
section
variable {t : List Int} {lo m : Nat} {s s' : RSt}
/-- An item within a closed part ends within it. -/
theorem closed_step (hm : m ≤ t.length) (hc : ∀ i : Nat, lo ≤ i → i < m → rd t i ≠ 91 ∧ (rd t i = 37 → i + 1 < m ∧ rd t ((i + 1 : Nat) : Int) ≠ 98)) (hb : m < t.length → rd t m ≠ 41 ∧ ¬ isRep (rd t m))
    (hlo : lo ≤ s.at_) (hlt : s.at_ < m) (h : pItem t s = some s') : s'.at_ ≤ m := by
  obtain ⟨c1, c2⟩ := hc s.at_ hlo hlt
  unfold pItem at h
  by_cases h40 : rd t s.at_ = 40
  · rw [if_pos h40] at h
    unfold pCapture at h
    split at h
    · cases h
    · split at h
      · rename_i hq
        obtain rfl := Option.some.inj h
        simp only [RSt.add]
        by_cases he : s.at_ + 1 = m
        · exact absurd (he ▸ hq.2) (hb (he ▸ hq.1)).1
        · omega
      · obtain rfl := Option.some.inj h
        simp only [RSt.add]; omega
  rw [if_neg h40] at h
  split at h
  · unfold pClosing at h
    split at h
    · cases h
    · obtain rfl := Option.some.inj h
      simp only [RSt.add]; omega
  split at h
  · obtain rfl := Option.some.inj h
    simp only [RSt.add]; omega
  cases hsp : pSpecial t s with
  | some r =>
    rw [hsp] at h
    simp only at h
    subst h
    unfold pSpecial at hsp
    split at hsp
    · cases hsp
    · rename_i hq
      simp only [not_or, Decidable.not_not] at hq
      obtain ⟨d1, d2⟩ := c2 hq.1
      simp only at hsp
      by_cases hz : rd t ((s.at_ + 1 : Nat) : Int) = 102 ∨ rd t ((s.at_ + 1 : Nat) : Int) = 48
      · rw [if_pos hz] at hsp; cases hsp
      rw [if_neg hz, if_neg d2] at hsp
      split at hsp
      · split at hsp
        · cases hsp
        · obtain rfl := Option.some.inj (Option.some.inj hsp)
          simp only [RSt.add]; omega
      · cases hsp
  | none =>
    rw [hsp] at h
    simp only at h
    cases hS : pSingle t s.at_ with
    | none => rw [hS] at h; cases h
    | some y =>
      obtain ⟨set, e⟩ := y
      rw [hS] at h
      simp only at h
      have hgt := pSingle_le (by omega) hS
      have he : e ≤ m := by
        unfold pSingle at hS
        simp only at hS
        by_cases h46 : rd t s.at_ = 46
        · rw [if_pos h46] at hS
          simp only [Option.some.injEq, Prod.mk.injEq] at hS; omega
        rw [if_neg h46] at hS
        by_cases h37 : rd t s.at_ = 37
        · rw [if_pos h37] at hS
          have := c2 h37
          split at hS
          · cases hS
          · obtain ⟨z, _, hz⟩ := Option.map_eq_some_iff.1 hS
            simp only [Prod.mk.injEq] at hz
            omega
        rw [if_neg h37, if_neg c1] at hS
        split at hS
        · cases hS
        · simp only [Option.some.injEq, Prod.mk.injEq] at hS; omega
      simp only at hgt
      split at h
      · rename_i hr
        obtain rfl := Option.some.inj h
        simp only [RSt.add]
        by_cases hem : e = m
        · exact absurd (hem ▸ hr.2) (hb (hem ▸ hr.1)).2
        · omega
      · obtain rfl := Option.some.inj h
        simp only [RSt.add]; omega
/-- What stands behind a closed part and is the end, is read as the end. -/
theorem closed_end (hm : m + 1 = t.length) (hd : rd t m = 36) (hc : ∀ i : Nat, lo ≤ i → i < m → rd t i ≠ 91 ∧ (rd t i = 37 → i + 1 < m ∧ rd t ((i + 1 : Nat) : Int) ≠ 98)) (hlo : lo ≤ s.at_) (hsm : s.at_ ≤ m) (h0 : s.caps ≤ 9) {n : Nat} {sf : RSt}
    (h : pItems t n s = some sf) : ∃ its, sf.items = its ++ [⟨7, [], 0, 0, 0, 0⟩] := by
  obtain ⟨h1, h2⟩ := steps_of _ _ _ h
  have hno : ∀ a b : RSt, a.at_ < m → s.at_ ≤ a.at_ → pItem t a = some b → b.at_ ≤ m := fun a b ha hb hp =>
    closed_step (by omega) hc (fun _ => by rw [hd]; exact ⟨by decide, by unfold isRep; omega⟩) (by omega) ha hp
  obtain ⟨sB, e1, e2, e3⟩ := h1.cut hno h0 hsm (by omega)
  cases e3 with
  | refl => omega
  | step k1 k2 k3 =>
    unfold pItem at k2
    rw [e1, hd] at k2
    rw [if_neg (by decide), if_neg (by decide), if_pos ⟨rfl, hm⟩] at k2
    obtain rfl := Option.some.inj k2
    cases k3 with
    | refl => exact ⟨sB.items, rfl⟩
    | step q1 q2 q3 => simp only [RSt.add] at q1; omega
end
/-- What ends with the end's item ends at the end. -/
theorem den_end {s : List Int} : ∀ (its : List S147) (at_ : Nat) (caps : List S74) (e : Nat) (c : List S74), den s (its ++ [⟨7, [], 0, 0, 0, 0⟩]) at_ caps = some (some (e, c)) → s.length ≤ e := by
  intro its
  induction its with
  | nil =>
    intro at_ caps e c h
    by_cases hlt : at_ < s.length
    · simp [den, hlt] at h
    · simp [den, hlt] at h
      omega
  | cons x its ih =>
    intro at_ caps e c h
    rw [List.cons_append] at h
    unfold den at h
    split at h
    · exact ih _ _ _ _ h
    split at h
    · split at h
      · cases h
      · exact ih _ _ _ _ h
    split at h
    · exact ih _ _ _ _ h
    split at h
    · split at h
      · cases h
      · split at h
        · cases h
        · split at h
          · cases h
          · split at h
            · split at h
              · exact ih _ _ _ _ h
              · cases h
            · cases h
    split at h
    · split at h
      · cases h
      · exact ih _ _ _ _ h
    split at h
    · split at h
      · cases h
      · exact ih _ _ _ _ h
    · generalize counts x.f2 (run s x.f1 (s.length + 1 - at_) at_) = cs at h
      induction cs with
      | nil => cases h
      | cons k ks ihk =>
        simp only [firsts] at h
        split at h
        · cases h
        · rename_i r hr
          simp only [Option.some.injEq] at h
          subst h
          exact ih _ _ _ _ hr
        · exact ihk h
theorem dFind_den {s : List Int} {items : List S147} {anc : Bool} : ∀ (n at_ : Nat) (a e : Nat) (c : List S74), dFind s items anc n at_ = some (some (a, e, c)) → den s items a [] = some (some (e, c)) ∧ (anc = true → a = at_) := by
  intro n
  induction n with
  | zero => intro at_ a e c h; simp [dFind] at h
  | succ n ih =>
    intro at_ a e c h
    simp only [dFind] at h
    split at h
    · split at h
      · cases h
      · rename_i e2 c2 hd
        simp only [Option.some.injEq, Prod.mk.injEq] at h
        obtain ⟨rfl, rfl, rfl⟩ := h
        exact ⟨hd, fun _ => rfl⟩
      · split at h
        · cases h
        · rename_i ha
          obtain ⟨k1, k2⟩ := ih _ _ _ _ h
          exact ⟨k1, fun hq => absurd hq ha⟩
    · cases h
end Go.Proofs.YtpjfjfloeejgiaaFmt.Lw
/- The law FnPatternAnchor: the walk. -/
set_option linter.unusedVariables false
set_option linter.unusedSimpArgs false
namespace Go.Proofs.YtpjfjfloeejgiaaFmt.Lw
open Go.RowKit Go.Proofs.YtpjfjfloeejgiaaFmtW.PrintWords Go.Proofs.YtpjfjfloeejgiaaFmt.Rf Go.Proofs.YtpjfjfloeejgiaaFmt.Vm Go.Proofs.YtpjfjfloeejgiaaFmt.Mtc Go.Proofs.YtpjfjfloeejgiaaFmt.PFnPatternFirst
/-- Of a pattern that is read: how it was. -/
theorem pRead_items {t : List Int} {anc : Bool} {items : List S147} {n : Nat} (h : pRead t = some (anc, items, n)) :
    anc = decide (0 < t.length ∧ rd t 0 = 94) ∧ ∃ sf, pItems t (t.length + 1) ⟨if anc = true then 1 else 0, [], [], 0⟩ = some sf ∧ sf.items = items ∧ sf.caps = n ∧ sf.opn = [] := by
  unfold pRead at h
  split at h
  · cases h
  simp only at h
  generalize hanc : decide (0 < t.length ∧ rd t 0 = 94) = a0 at h
  split at h
  · cases h
  · rename_i sf hI
    split at h
    · rename_i ho
      simp only [Option.some.injEq, Prod.mk.injEq] at h
      obtain ⟨rfl, rfl, rfl⟩ := h
      exact ⟨rfl, sf, hI, rfl, rfl, ho⟩
    · cases h
theorem bytesOf_append (a b : ByteArray) : bytesOf (a ++ b) = bytesOf a ++ bytesOf b := by
  unfold bytesOf
  rw [ByteArray.data_append, Array.toList_append, List.map_append]
theorem rd_left {a b : List Int} {i : Nat} (h : i < a.length) : rd (a ++ b) i = rd a i := by
  simp [rd, List.getD_eq_getElem?_getD, List.getElem?_append_left h]
theorem rd_right {a b : List Int} {i : Nat} (h : a.length ≤ i) : rd (a ++ b) i = rd b ((i - a.length : Nat) : Int) := by
  simp [rd, List.getD_eq_getElem?_getD, List.getElem?_append_right h]
/-- What the law asks of one of its three patterns. -/
structure Good (p s q : ByteArray) : Prop where
  pos : 0 < q.size
  few : q.size ≤ 2147483649
  first : ∀ a en caps, fFirst q s 0 = (0, some (a, en, caps)) → bt q ((0 : Nat) : Int) = 94 → a = 0
  last : ∀ a en caps, fFirst q s 0 = (0, some (a, en, caps)) → bt q ((q.size - 1 : Nat) : Int) = 36 → Closed (bytesOf p) → en = s.size
theorem good_first {s q : ByteArray} {a en : Nat} {caps : List S74} (h : fFirst q s 0 = (0, some (a, en, caps))) (h94 : bt q ((0 : Nat) : Int) = 94) (hq : 0 < q.size) : a = 0 := by
  obtain ⟨anc, items, n, fn, hr, hB, hs, h0, hf, ha, _, hd⟩ := fFirst_told h (by simp)
  obtain ⟨hanc, _⟩ := pRead_items hr
  have : anc = true := by
    rw [hanc]
    refine decide_eq_true ⟨by rw [bytesOf_length]; exact hq, ?_⟩
    rw [← rd_bytesOf] at h94
    exact h94
  have h1 := (dFind_den _ _ _ _ _ hd).2 this
  have := ha this
  omega
/-- A closed part, maybe ^ ahead of it, and $ behind it. -/
theorem good_last {p s q : ByteArray} {pre : List Int} (hq : bytesOf q = pre ++ bytesOf p ++ [36]) (hpre : pre = [94] ∨ (pre = [] ∧ 0 < p.size ∧ bt p ((0 : Nat) : Int) ≠ 94)) (hc : Closed (bytesOf p))
    {a en : Nat} {caps : List S74} (h : fFirst q s 0 = (0, some (a, en, caps))) : en = s.size := by
  obtain ⟨anc, items, n, fn, hr, hB, hs, h0, hf, ha, _, hd⟩ := fFirst_told h (by simp)
  obtain ⟨hanc, sf, hI, he, _, _⟩ := pRead_items hr
  obtain ⟨cs, hfit⟩ := dFind_fit hr hB hs hd
  have hle := hfit.le
  rw [bytesOf_length] at hle
  have hden := (dFind_den _ _ _ _ _ hd).1
  generalize hT : bytesOf q = t at *
  have htl : t.length = pre.length + (bytesOf p).length + 1 := by rw [hq]; simp; omega
  have hlo : (if anc = true then 1 else 0) = pre.length := by
    rcases hpre with rfl | ⟨rfl, hp0, h94⟩
    · have : anc = true := by rw [hanc, hq]; simp [rd]
      rw [if_pos this]; rfl
    · have : anc = false := by
        rw [hanc, hq, decide_eq_false_iff_not]
        rintro ⟨_, hk⟩
        rw [List.nil_append] at hk
        have e := rd_left (a := bytesOf p) (b := [36]) (i := 0) (by rw [bytesOf_length]; exact hp0)
        rw [show ((0 : Nat) : Int) = 0 from rfl] at e
        rw [e, rd_bytesOf] at hk
        exact h94 hk
      rw [this]; rfl
  have hmid : ∀ i : Nat, pre.length ≤ i → i < t.length - 1 → rd t i = rd (bytesOf p) ((i - pre.length : Nat) : Int) := by
    intro i h1 h2
    rw [hq, rd_left (by rw [List.length_append]; omega), rd_right h1]
  have hend := closed_end (t := t) (lo := pre.length) (m := t.length - 1) (s := ⟨if anc = true then 1 else 0, [], [], 0⟩) (by omega) (by
      rw [hq, rd_right (by simp)]; simp [rd]) (fun i h1 h2 => by
      have hx := hc (i - pre.length) (by omega)
      rw [hmid i h1 h2]
      refine ⟨hx.1, fun h37 => ?_⟩
      obtain ⟨k1, k2⟩ := hx.2 h37
      refine ⟨by omega, ?_⟩
      rw [hmid (i + 1) (by omega) (by omega), show i + 1 - pre.length = i - pre.length + 1 by omega]
      exact k2) (by simp only; omega) (by simp only; omega) (by simp) hI
  obtain ⟨its, hits⟩ := hend
  rw [he] at hits
  rw [hits] at hden
  have := den_end _ _ _ _ _ hden
  rw [bytesOf_length] at this
  omega
/-- At the head of FnPatternAnchor's loop. -/
def AtAnc (p s : ByteArray) (q i : Nat) (R : World → Prop) (a : Act) (w : World) : Prop :=
  a.tmps.size = 117 ∧ a.defers = [] ∧ (a.tmps.getD 0 undef = .string p ∧ a.tmps.getD 1 undef = .string s ∧ a.tmps.getD 43 undef = .slice (some ⟨q, 0, none⟩) 3 3 ∧ a.tmps.getD 44 undef = .int .i64 3 ∧ a.tmps.getD 45 undef = .int .i64 (i : Int)) ∧ R w
set_option maxRecDepth 100000 in
theorem AtAnc.open_ {p s : ByteArray} {q i : Nat} {R : World → Prop} {a : Act} {w : World} (h : AtAnc p s q i R a w) : (∃ u : Nat → Value, a = ⟨#[.string p, .string s, u 2, u 3, u 4, u 5, u 6, u 7, u 8, u 9, u 10, u 11, u 12, u 13, u 14, u 15, u 16, u 17, u 18, u 19, u 20, u 21, u 22, u 23, u 24, u 25, u 26, u 27, u 28, u 29, u 30, u 31, u 32, u 33, u 34, u 35, u 36, u 37, u 38, u 39, u 40, u 41, u 42, .slice (some ⟨q, 0, none⟩) 3 3, .int .i64 3, .int .i64 (i : Int), u 46, u 47, u 48, u 49, u 50, u 51, u 52, u 53, u 54, u 55, u 56, u 57, u 58, u 59, u 60, u 61, u 62, u 63, u 64, u 65, u 66, u 67, u 68, u 69, u 70, u 71, u 72, u 73, u 74, u 75, u 76, u 77, u 78, u 79, u 80, u 81, u 82, u 83, u 84, u 85, u 86, u 87, u 88, u 89, u 90, u 91, u 92, u 93, u 94, u 95, u 96, u 97, u 98, u 99, u 100, u 101, u 102, u 103, u 104, u 105, u 106, u 107, u 108, u 109, u 110, u 111, u 112, u 113, u 114, u 115, u 116], []⟩) ∧ R w := by
  obtain ⟨tmps, defers⟩ := a
  obtain ⟨hs, hd, ⟨h0, h1, h43, h44, h45⟩, hR⟩ := h
  refine ⟨⟨fun i => tmps.getD i undef, ?_⟩, hR⟩
  have hd' : defers = [] := hd
  subst hd'
  have k0 : tmps.getD 0 undef = .string p := h0
  have k1 : tmps.getD 1 undef = .string s := h1
  have k43 : tmps.getD 43 undef = .slice (some ⟨q, 0, none⟩) 3 3 := h43
  have k44 : tmps.getD 44 undef = .int .i64 3 := h44
  have k45 : tmps.getD 45 undef = .int .i64 (i : Int) := h45
  have h := frame_lit 117 tmps hs
  have h2 : ((List.range 117).map (fun i => tmps.getD i undef)).toArray = #[tmps.getD 0 undef, tmps.getD 1 undef, tmps.getD 2 undef, tmps.getD 3 undef, tmps.getD 4 undef, tmps.getD 5 undef, tmps.getD 6 undef, tmps.getD 7 undef, tmps.getD 8 undef, tmps.getD 9 undef, tmps.getD 10 undef, tmps.getD 11 undef, tmps.getD 12 undef, tmps.getD 13 undef, tmps.getD 14 undef, tmps.getD 15 undef, tmps.getD 16 undef, tmps.getD 17 undef, tmps.getD 18 undef, tmps.getD 19 undef, tmps.getD 20 undef, tmps.getD 21 undef, tmps.getD 22 undef, tmps.getD 23 undef, tmps.getD 24 undef, tmps.getD 25 undef, tmps.getD 26 undef, tmps.getD 27 undef, tmps.getD 28 undef, tmps.getD 29 undef, tmps.getD 30 undef, tmps.getD 31 undef, tmps.getD 32 undef, tmps.getD 33 undef, tmps.getD 34 undef, tmps.getD 35 undef, tmps.getD 36 undef, tmps.getD 37 undef, tmps.getD 38 undef, tmps.getD 39 undef, tmps.getD 40 undef, tmps.getD 41 undef, tmps.getD 42 undef, tmps.getD 43 undef, tmps.getD 44 undef, tmps.getD 45 undef, tmps.getD 46 undef, tmps.getD 47 undef, tmps.getD 48 undef, tmps.getD 49 undef, tmps.getD 50 undef, tmps.getD 51 undef, tmps.getD 52 undef, tmps.getD 53 undef, tmps.getD 54 undef, tmps.getD 55 undef, tmps.getD 56 undef, tmps.getD 57 undef, tmps.getD 58 undef, tmps.getD 59 undef, tmps.getD 60 undef, tmps.getD 61 undef, tmps.getD 62 undef, tmps.getD 63 undef, tmps.getD 64 undef, tmps.getD 65 undef, tmps.getD 66 undef, tmps.getD 67 undef, tmps.getD 68 undef, tmps.getD 69 undef, tmps.getD 70 undef, tmps.getD 71 undef, tmps.getD 72 undef, tmps.getD 73 undef, tmps.getD 74 undef, tmps.getD 75 undef, tmps.getD 76 undef, tmps.getD 77 undef, tmps.getD 78 undef, tmps.getD 79 undef, tmps.getD 80 undef, tmps.getD 81 undef, tmps.getD 82 undef, tmps.getD 83 undef, tmps.getD 84 undef, tmps.getD 85 undef, tmps.getD 86 undef, tmps.getD 87 undef, tmps.getD 88 undef, tmps.getD 89 undef, tmps.getD 90 undef, tmps.getD 91 undef, tmps.getD 92 undef, tmps.getD 93 undef, tmps.getD 94 undef, tmps.getD 95 undef, tmps.getD 96 undef, tmps.getD 97 undef, tmps.getD 98 undef, tmps.getD 99 undef, tmps.getD 100 undef, tmps.getD 101 undef, tmps.getD 102 undef, tmps.getD 103 undef, tmps.getD 104 undef, tmps.getD 105 undef, tmps.getD 106 undef, tmps.getD 107 undef, tmps.getD 108 undef, tmps.getD 109 undef, tmps.getD 110 undef, tmps.getD 111 undef, tmps.getD 112 undef, tmps.getD 113 undef, tmps.getD 114 undef, tmps.getD 115 undef, tmps.getD 116 undef] := rfl
  rw [h2] at h
  rw [k0, k1, k43, k44, k45] at h
  exact congrArg (fun t => Act.mk t _) h
section
variable {w : World} {p s : ByteArray}
set_option maxHeartbeats 40000000 in
set_option maxRecDepth 100000 in
theorem law_anchor : Calls Tryf.prog 4 #[.string p, .string s] w fun e w' => e = .returned (.bool true) ∧ Below w.heap.size w w' := by
  by_cases hp : 2147483647 < p.size
  · have hpI : (2147483647 : Int) < (p.size : Int) := by omega
    go_enter Tryf.func4, Tryf.ntmps4
    go_wp2_with fail
    go_ret
    exact ⟨rfl, Below.refl _ _⟩
  have hpI : ¬ (2147483647 : Int) < (p.size : Int) := by omega
  by_cases hs : 2147483647 < s.size
  · have hsI : (2147483647 : Int) < (s.size : Int) := by omega
    go_enter Tryf.func4, Tryf.ntmps4
    go_wp2_with fail
    go_ret
    exact ⟨rfl, Below.refl _ _⟩
  have hsI : ¬ (2147483647 : Int) < (s.size : Int) := by omega
  by_cases h0 : p.size = 0
  · have hb0 : ((p.size : Int) == 0) = true := beq_iff_eq.mpr (by omega)
    go_enter Tryf.func4, Tryf.ntmps4
    go_wp2_with fail
    go_ret
    exact ⟨rfl, Below.refl _ _⟩
  have hb0 : ((p.size : Int) == 0) = false := beq_eq_false_iff_ne.mpr (by omega)
  have h0lt : 0 < p.size := by omega
  have h0ltI : (0 : Int) < (p.size : Int) := by omega
  have hx0 := bt_nat p 0 h0lt
  by_cases h94 : bt p ((0 : Nat) : Int) = 94
  · have hb94 : (bt p ((0 : Nat) : Int) == 94) = true := beq_iff_eq.mpr h94
    generalize bt p ((0 : Nat) : Int) = ch at hx0 hb94
    clear h94
    go_enter Tryf.func4, Tryf.ntmps4
    go_wp2_with fail
    go_ret
    exact ⟨rfl, Below.refl _ _⟩
  have hb94 : (bt p ((0 : Nat) : Int) == 94) = false := beq_eq_false_iff_ne.mpr h94
  have qm : IntKind.i64.wrap ((p.size : Int) - 1) = ((p.size - 1 : Nat) : Int) := by rw [IntWalk.i64_in _ (by omega)]; omega
  have hlt : p.size - 1 < p.size := by omega
  have hltI2 : ((p.size - 1 : Nat) : Int) < (p.size : Int) := by omega
  have hxl := bt_nat p (p.size - 1) hlt
  have qm2 : (p.size : Int) - 1 = ((p.size - 1 : Nat) : Int) := by omega
  by_cases h36 : bt p ((p.size - 1 : Nat) : Int) = 36
  · have hb36 : (bt p ((p.size - 1 : Nat) : Int) == 36) = true := beq_iff_eq.mpr h36
    generalize bt p ((0 : Nat) : Int) = ch at hx0 hb94
    generalize bt p ((p.size - 1 : Nat) : Int) = ch2 at hxl hb36
    clear h94 h36
    go_enter Tryf.func4, Tryf.ntmps4
    go_wp2_with fail
    go_ret
    exact ⟨rfl, Below.refl _ _⟩
  have hb36 : (bt p ((p.size - 1 : Nat) : Int) == 36) = false := beq_eq_false_iff_ne.mpr h36
  have H94 := Aside0.mk h94
  have H36 := Aside0.mk h36
  generalize bt p ((0 : Nat) : Int) = ch at hx0 hb94
  generalize bt p ((p.size - 1 : Nat) : Int) = ch2 at hxl hb36
  clear h94 h36
  go_enter Tryf.func4, Tryf.ntmps4
  go_wp2_with fail
  have hgood : Good p s ({ data := #[94] } ++ p) ∧ Good p s (p ++ { data := #[36] }) ∧ Good p s ({ data := #[94] } ++ p ++ { data := #[36] }) := by
    have e0 : bytesOf ({ data := #[94] } : ByteArray) = [94] := rfl
    have e1 : bytesOf ({ data := #[36] } : ByteArray) = [36] := rfl
    have z0 : ({ data := #[94] } : ByteArray).size = 1 := rfl
    have z1 : ({ data := #[36] } : ByteArray).size = 1 := rfl
    have t0 : bytesOf ({ data := #[94] } ++ p) = [94] ++ bytesOf p := by rw [bytesOf_append, e0]
    have t1 : bytesOf (p ++ { data := #[36] }) = bytesOf p ++ [36] := by rw [bytesOf_append, e1]
    have t2 : bytesOf ({ data := #[94] } ++ p ++ { data := #[36] }) = [94] ++ bytesOf p ++ [36] := by rw [bytesOf_append, bytesOf_append, e0, e1]
    have l0 : ({ data := #[94] } ++ p : ByteArray).size = p.size + 1 := by rw [← bytesOf_length, t0]; simp [bytesOf_length]
    have l1 : (p ++ { data := #[36] } : ByteArray).size = p.size + 1 := by rw [← bytesOf_length, t1]; simp [bytesOf_length]
    have l2 : ({ data := #[94] } ++ p ++ { data := #[36] } : ByteArray).size = p.size + 2 := by rw [← bytesOf_length, t2]; simp [bytesOf_length]
    refine ⟨⟨by omega, by omega, fun a en caps h h94 => good_first h h94 (by omega), fun a en caps h h36 hc => ?_⟩, ⟨by omega, by omega, fun a en caps h h94 => good_first h h94 (by omega), fun a en caps h h36 hc => good_last (pre := []) (by rw [t1]; rfl) (.inr ⟨rfl, h0lt, H94.out⟩) hc h⟩,
      ⟨by omega, by omega, fun a en caps h h94 => good_first h h94 (by omega), fun a en caps h h36 hc => good_last (pre := [94]) t2 (.inl rfl) hc h⟩⟩
    exfalso
    rw [l0, show p.size + 1 - 1 = p.size by omega, ← rd_bytesOf, t0, rd_right (by simp; omega)] at h36
    simp only [List.length_singleton] at h36
    rw [rd_bytesOf] at h36
    exact H36.out h36
  have HG := Aside0.mk hgood
  have hbx := blk_new w (.cells #[.string ({ data := #[94] } ++ p), .string (p ++ { data := #[36] }), .string ({ data := #[94] } ++ p ++ { data := #[36] })] 9)
  have hbw := below_alloc (Below.refl w.heap.size w) (.cells #[.string ({ data := #[94] } ++ p), .string (p ++ { data := #[36] }), .string ({ data := #[94] } ++ p ++ { data := #[36] })] 9)
  generalize w.alloc (.cells #[.string ({ data := #[94] } ++ p), .string (p ++ { data := #[36] }), .string ({ data := #[94] } ++ p ++ { data := #[36] })] 9) = wx at *
  have HBX := Aside0.mk hbx
  have HBW := Aside0.mk hbw
  clear hgood hbx hbw
  refine wp_loop_ghost_k (fun k a wr => ∃ (i : Nat), i + k = 3 ∧ AtAnc p s w.heap.size i (fun wr => Below wx.heap.size wx wr) a wr) 3 ⟨0, rfl, rfl, rfl, ⟨rfl, rfl, rfl, rfl, rfl⟩, Below.refl _ _⟩ ?_
  intro gk a wr hI J K hJ hK
  obtain ⟨i, hik, hI⟩ := hI
  obtain ⟨⟨u, rfl⟩, hbr⟩ := hI.open_
  have HBR := Aside0.mk hbr
  clear hI
  cases gk with
  | zero =>
    have hi : i = 3 := by omega
    subst hi
    clear hbr
    go_wp2_with fail
    go_ret
    exact ⟨rfl, HBW.out.trans (HBR.out.mono HBW.out.size)⟩
  | succ gk =>
    have hltI : (i : Int) < 3 := by omega
    have qi : IntKind.i64.wrap ((i : Int) + 1) = (i : Int) + 1 := IntWalk.i64_in _ (by omega)
    have hqq : ∃ q, Good p s q ∧ wr.cell? ⟨w.heap.size, i, none⟩ = some (.string q) := by
      have hb := (hbr.block _ (blk_lt HBX.out)).trans HBX.out
      rcases (show i = 0 ∨ i = 1 ∨ i = 2 by omega) with rfl | rfl | rfl
      · exact ⟨_, HG.out.1, blk_cell hb 0⟩
      · exact ⟨_, HG.out.2.1, blk_cell hb 1⟩
      · exact ⟨_, HG.out.2.2, blk_cell hb 2⟩
    obtain ⟨q, hg, hcell⟩ := hqq
    have HGQ := Aside0.mk hg
    have hq0 := hg.pos
    have hqf := hg.few
    have HF := Aside0.mk (firstMatch_any (w := wr) (p := q) (s := s) (frm := 0) (by omega))
    have HN := Aside0.mk (fun (W : World) o (h : fFirst q s 0 = o) h2 => nine_any (w := W) h h2)
    have hoc := o_cases q s 0
    clear hg hbr HG
    go_wp2_with fail
    refine HF.out.mono ?_
    rintro e w1 ⟨hb1, h1⟩
    have HBT := Aside0.mk (HBR.out.trans (hb1.mono HBR.out.size))
    clear HF HBR hcell hb1
    rcases hoc with ho | ho | ⟨a, en, caps, ho⟩
    · rw [ho] at h1
      simp only at h1
      subst h1
      have HB1 := Aside0.mk (below_alloc HBT.out (.cells #[.int .i64 0, .int .i64 0, .slice none 0 0] 30))
      clear HN ho HBT
      go_wp2_with fail
      exact Handed.intro gk (by omega) (hJ _ _ _ ⟨i + 1, by omega, rfl, rfl, ⟨rfl, rfl, rfl, rfl, congrArg (Value.int .i64) (Int.natCast_succ i).symm⟩, HB1.out⟩)
    · rw [ho] at h1
      simp only at h1
      subst h1
      have HB1 := Aside0.mk (below_alloc HBT.out (.cells #[.int .i64 0, .int .i64 0, .slice none 0 0] 30))
      have HN2 := Aside0.mk (HN.out (w1.alloc (.cells #[.int .i64 0, .int .i64 0, .slice none 0 0] 30)) _ ho (by simp))
      clear HN ho HBT
      go_wp2_with fail
      refine HN2.out.mono ?_
      rintro e w2 ⟨hb2, h2⟩
      simp only at h2
      subst h2
      have HB2 := Aside0.mk (below_alloc (HB1.out.trans (hb2.mono HB1.out.size)) (.cells #[.int .i64 0, .int .i64 0, .slice none 0 0, .slice none 0 0] 37))
      clear hb2 HB1 HN2
      go_wp2_with fail
      exact Handed.intro gk (by omega) (hJ _ _ _ ⟨i + 1, by omega, rfl, rfl, ⟨rfl, rfl, rfl, rfl, congrArg (Value.int .i64) (Int.natCast_succ i).symm⟩, HB2.out⟩)
    · rw [ho] at h1
      obtain ⟨A, c, he, hle, hC⟩ := h1
      have hfew := o_few ho
      have HFI := Aside0.mk (HGQ.out.first a en caps ho)
      have HLA := Aside0.mk (HGQ.out.last a en caps ho)
      subst he
      have HB1 := Aside0.mk (below_alloc HBT.out (.cells #[.int .i64 (a : Int), .int .i64 (en : Int), .slice A caps.length c] 30))
      have HN2 := Aside0.mk (HN.out (w1.alloc (.cells #[.int .i64 (a : Int), .int .i64 (en : Int), .slice A caps.length c] 30)) _ ho (by simp))
      have hx := blk_new w1 (.cells #[.int .i64 (a : Int), .int .i64 (en : Int), .slice A caps.length c] 30)
      have HX := Aside0.mk hx
      have HC := Aside0.mk (Kd.C_below hC (below_alloc (Below.refl w1.heap.size w1) (.cells #[.int .i64 (a : Int), .int .i64 (en : Int), .slice A caps.length c] 30)))
      clear HN ho hC hx HBT
      go_upto_region 9 with (fail)
      generalize w1.alloc (.cells #[.int .i64 (a : Int), .int .i64 (en : Int), .slice A caps.length c] 30) = w2 at *
      generalize w1.heap.size = q1 at *
      go_wp2_with fail
      refine HN2.out.mono ?_
      rintro e w3 ⟨hb3, m, A1, c1, A2, c2, he, r1, r2, hdue⟩
      subst he
      have HX3 := Aside0.mk ((hb3.block _ (blk_lt HX.out)).trans HX.out)
      have HB3 := Aside0.mk (HB1.out.trans (hb3.mono HB1.out.size))
      have HB4 := Aside0.mk (below_alloc HB3.out (.cells #[.int .i64 m.b, .int .i64 m.e, .slice A1 m.cs.length c1, .slice A2 m.ps.length c2] 37))
      have bel := below_alloc (Below.refl w3.heap.size w3) (.cells #[.int .i64 m.b, .int .i64 m.e, .slice A1 m.cs.length c1, .slice A2 m.ps.length c2] 37)
      have hi := (ism_true (w := (w3.alloc (.cells #[.int .i64 m.b, .int .i64 m.e, .slice A1 m.cs.length c1, .slice A2 m.ps.length c2] 37))) (A1 := A1) (A2 := A2) (A3 := A) (c1 := c1) (c2 := c2) (c3 := c) hdue (Kd.C_below r1 bel) (Kd.C_below r2 bel) (by rw [List.length_map]; exact Kd.C_below (Kd.C_below HC.out hb3) bel) (by rw [List.length_map]; omega))
      rw [List.length_map] at hi
      have HI := Aside0.mk hi
      have hy := blk_new w3 (.cells #[.int .i64 m.b, .int .i64 m.e, .slice A1 m.cs.length c1, .slice A2 m.ps.length c2] 37)
      have hx4 := blk_alloc HX3.out (.cells #[.int .i64 m.b, .int .i64 m.e, .slice A1 m.cs.length c1, .slice A2 m.ps.length c2] 37)
      have HMB := Aside0.mk hdue.b
      have HME := Aside0.mk hdue.e
      clear hb3 r1 r2 hdue bel HN2 HC HX HB1 hi
      go_upto_region 11 with (fail)
      generalize w3.alloc (.cells #[.int .i64 m.b, .int .i64 m.e, .slice A1 m.cs.length c1, .slice A2 m.ps.length c2] 37) = w4 at *
      generalize w3.heap.size = q3 at *
      have HY := Aside0.mk hy
      have a0 := blk_cell hx4 0
      have a1 := blk_cell hx4 1
      have a2 := blk_cell hx4 2
      have b0 := blk_cell hy 0
      have b1 := blk_cell hy 1
      have b2 := blk_cell hy 2
      have b3 := blk_cell hy 3
      clear hx4 hy
      go_wp2_with fail
      refine HI.out.mono ?_
      rintro e w5 ⟨he5, hb5⟩
      subst he5
      have HB5 := Aside0.mk (HB4.out.trans (hb5.mono HB4.out.size))
      have hy5 := (hb5.block _ (blk_lt HY.out)).trans HY.out
      have b0 := blk_cell hy5 0
      have b1 := blk_cell hy5 1
      have HY5 := Aside0.mk hy5
      clear hb5 HI hy5 a0 a1 a2 b2 b3
      go_upto_region 13 with (fail)
      have hxq0 := bt_nat q 0 hq0
      have hq0I : (0 : Int) < (q.size : Int) := by omega
      have qm : IntKind.i64.wrap ((q.size : Int) - 1) = ((q.size - 1 : Nat) : Int) := by rw [IntWalk.i64_in _ (by omega)]; omega
      have hqlt : q.size - 1 < q.size := by omega
      have hqltI : ((q.size - 1 : Nat) : Int) < (q.size : Int) := by omega
      have hxql := bt_nat q (q.size - 1) hqlt
      have qm2 : (q.size : Int) - 1 = ((q.size - 1 : Nat) : Int) := by omega
      have HFI2 := Aside0.mk (fun (h : bt q ((0 : Nat) : Int) = 94) => show m.b = 0 by rw [HMB.out, HFI.out h]; rfl)
      have HLA2 := Aside0.mk (fun (h : bt q ((q.size - 1 : Nat) : Int) = 36) hc => show m.e = (s.size : Int) by rw [HME.out, HLA.out h hc])
      generalize bt q ((0 : Nat) : Int) = ch0 at hxq0 HFI2
      generalize bt q ((q.size - 1 : Nat) : Int) = chl at hxql HLA2
      generalize m.b = mb at *
      generalize m.e = me at *
      have HCL := Aside0.mk (fun (W : World) => closed_calls (w := W) (s := p) (by omega))
      have hf : (ch0 == 94 && mb != 0) = false := by
        by_cases h : ch0 = 94
        · rw [HFI2.out h]; simp
        · rw [beq_eq_false_iff_ne.mpr h]; rfl
      clear HFI HLA HMB HME HFI2 HGQ
      by_cases hl36 : chl = 36
      · have hbl : (chl == 36) = true := beq_iff_eq.mpr hl36
        have HLA3 := Aside0.mk (HLA2.out hl36)
        by_cases h94 : ch0 = 94
        · subst h94
          have hmb : mb = 0 := by simpa using hf
          subst hmb
          clear hf hl36 HLA2
          go_wp2_with fail
          refine (HCL.out w5).mono ?_
          rintro e w6 ⟨cb, he6, hcb, hb6⟩
          subst he6
          have hy6 := (hb6.block _ (blk_lt HY5.out)).trans HY5.out
          have HB6 := Aside0.mk (HB5.out.trans (hb6.mono HB5.out.size))
          have b0 := blk_cell hy6 0
          have b1 := blk_cell hy6 1
          cases cb with
          | false =>
            clear hb6 hy6 hcb
            go_wp2_with fail
            exact Handed.intro gk (by omega) (hJ _ _ _ ⟨i + 1, by omega, rfl, rfl, ⟨rfl, rfl, rfl, rfl, congrArg (Value.int .i64) (Int.natCast_succ i).symm⟩, HB6.out⟩)
          | true =>
            have hme := HLA3.out (hcb rfl)
            subst hme
            clear hb6 hy6 hcb
            go_wp2_with fail
            exact Handed.intro gk (by omega) (hJ _ _ _ ⟨i + 1, by omega, rfl, rfl, ⟨rfl, rfl, rfl, rfl, congrArg (Value.int .i64) (Int.natCast_succ i).symm⟩, HB6.out⟩)
        · have hb0 : (ch0 == 94) = false := beq_eq_false_iff_ne.mpr h94
          clear hf hl36 h94 HLA2
          go_wp2_with fail
          refine (HCL.out w5).mono ?_
          rintro e w6 ⟨cb, he6, hcb, hb6⟩
          subst he6
          have hy6 := (hb6.block _ (blk_lt HY5.out)).trans HY5.out
          have HB6 := Aside0.mk (HB5.out.trans (hb6.mono HB5.out.size))
          have b0 := blk_cell hy6 0
          have b1 := blk_cell hy6 1
          cases cb with
          | false =>
            clear hb6 hy6 hcb
            go_wp2_with fail
            exact Handed.intro gk (by omega) (hJ _ _ _ ⟨i + 1, by omega, rfl, rfl, ⟨rfl, rfl, rfl, rfl, congrArg (Value.int .i64) (Int.natCast_succ i).symm⟩, HB6.out⟩)
          | true =>
            have hme := HLA3.out (hcb rfl)
            subst hme
            clear hb6 hy6 hcb
            go_wp2_with fail
            exact Handed.intro gk (by omega) (hJ _ _ _ ⟨i + 1, by omega, rfl, rfl, ⟨rfl, rfl, rfl, rfl, congrArg (Value.int .i64) (Int.natCast_succ i).symm⟩, HB6.out⟩)
      · have hbl : (chl == 36) = false := beq_eq_false_iff_ne.mpr hl36
        by_cases h94 : ch0 = 94
        · subst h94
          have hmb : mb = 0 := by simpa using hf
          subst hmb
          clear hf hl36 HLA2 HCL
          go_wp2_with fail
          exact Handed.intro gk (by omega) (hJ _ _ _ ⟨i + 1, by omega, rfl, rfl, ⟨rfl, rfl, rfl, rfl, congrArg (Value.int .i64) (Int.natCast_succ i).symm⟩, HB5.out⟩)
        · have hb0 : (ch0 == 94) = false := beq_eq_false_iff_ne.mpr h94
          clear hf hl36 h94 HLA2 HCL
          go_wp2_with fail
          exact Handed.intro gk (by omega) (hJ _ _ _ ⟨i + 1, by omega, rfl, rfl, ⟨rfl, rfl, rfl, rfl, congrArg (Value.int .i64) (Int.natCast_succ i).symm⟩, HB5.out⟩)
end
end Go.Proofs.YtpjfjfloeejgiaaFmt.Lw
