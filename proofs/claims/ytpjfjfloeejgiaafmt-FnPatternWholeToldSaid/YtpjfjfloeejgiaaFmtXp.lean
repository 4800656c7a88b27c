/- Joined texts of this seat: Mvb, Plu, Lwp. -/
import Derived.Test.YtpjfjfloeejgiaaFmtXa
/- Patterns read at another place: what is read of a part stays the same. -/
set_option linter.unusedVariables false
set_option linter.unusedSimpArgs false
namespace Go.Proofs.YtpjfjfloeejgiaaFmt.Lw
open Go.RowKit Go.Proofs.YtpjfjfloeejgiaaFmtW.PrintWords Go.Proofs.YtpjfjfloeejgiaaFmt.Rf Go.Proofs.YtpjfjfloeejgiaaFmt.Vm Go.Proofs.YtpjfjfloeejgiaaFmt.Mtc Go.Proofs.YtpjfjfloeejgiaaFmt.PFnPatternFirst
/-- t' bears at d places further what t bears from lo up to hi. -/
structure Copy (t t' : List Int) (d lo hi : Nat) : Prop where
  l : hi ≤ t.length
  l' : hi + d ≤ t'.length
  c : ∀ i : Nat, lo ≤ i → i < hi → rd t' ((i + d : Nat) : Int) = rd t i
section
variable {t t' : List Int} {d lo hi : Nat}
theorem Copy.at_ (h : Copy t t' d lo hi) {i j : Nat} (h1 : lo ≤ i) (h2 : i < hi) (hj : j = i + d) : rd t' (j : Int) = rd t i := by rw [hj]; exact h.c i h1 h2
theorem pSetL_move (h : Copy t t' d lo hi) {other : Bool} : ∀ (n at_ : Nat) (first : Bool) (set r : List Bool) (e n' : Nat), pSetL t other n first at_ set = some (r, e) → lo ≤ at_ → e ≤ hi → e ≤ at_ + n' → pSetL t' other n' first (at_ + d) set = some (r, e + d) := by
  intro n
  induction n with
  | zero => intro at_ first set r e n' hp; simp [pSetL] at hp
  | succ n ih =>
    intro at_ first set r e n' hp hlo he hn
    have hle := pSetL_le _ _ _ _ _ hp
    simp only at hle
    have hl := h.l
    have hl' := h.l'
    obtain ⟨n', rfl⟩ : ∃ m, n' = m + 1 := ⟨n' - 1, by omega⟩
    simp only [pSetL] at hp ⊢
    have e0 := h.at_ hlo (show at_ < hi by omega) rfl
    rw [if_pos (by omega)] at hp
    rw [if_pos (by omega), e0]
    by_cases h93 : rd t at_ = 93
    · rw [if_pos h93] at hp ⊢
      split at hp
      · cases hp
      · rename_i hf
        rw [if_neg hf]
        simp only [Option.some.injEq, Prod.mk.injEq] at hp ⊢
        exact ⟨hp.1, by omega⟩
    rw [if_neg h93] at hp ⊢
    by_cases h37 : rd t at_ = 37
    · rw [if_pos h37] at hp ⊢
      by_cases hx : t.length ≤ at_ + 1
      · rw [if_pos hx] at hp; cases hp
      rw [if_neg hx] at hp
      cases hE : pEsc set (rd t ((at_ + 1 : Nat) : Int)) with
      | none => rw [hE] at hp; cases hp
      | some set' =>
        rw [hE] at hp
        simp only at hp
        by_cases hq : at_ + 2 < t.length ∧ rd t ((at_ + 2 : Nat) : Int) = 45
        · rw [if_pos hq] at hp; cases hp
        rw [if_neg hq] at hp
        have hle2 := pSetL_le _ _ _ _ _ hp
        simp only at hle2
        rw [if_neg (by omega), h.at_ (i := at_ + 1) (by omega) (by omega) (by omega), hE]
        simp only
        rw [if_neg (fun hk => hq ⟨by omega, by rw [h.at_ (i := at_ + 2) (by omega) (by omega) (by omega)] at hk; exact hk.2⟩)]
        have := ih (at_ + 2) false set' r e n' hp (by omega) he (by omega)
        rw [show at_ + d + 2 = at_ + 2 + d by omega]
        exact this
    rw [if_neg h37] at hp ⊢
    by_cases h45 : rd t at_ = 45 ∨ rd t at_ = 91 ∨ rd t at_ = 94
    · rw [if_pos h45] at hp; cases hp
    rw [if_neg h45] at hp ⊢
    by_cases hr : at_ + 2 < t.length ∧ rd t ((at_ + 1 : Nat) : Int) = 45
    · rw [if_pos hr] at hp
      split at hp
      · cases hp
      rename_i hz
      by_cases hq : at_ + 3 < t.length ∧ rd t ((at_ + 3 : Nat) : Int) = 45
      · rw [if_pos hq] at hp; cases hp
      rw [if_neg hq] at hp
      have hle2 := pSetL_le _ _ _ _ _ hp
      simp only at hle2
      rw [if_pos ⟨by omega, by rw [h.at_ (i := at_ + 1) (by omega) (by omega) (by omega)]; exact hr.2⟩]
      rw [h.at_ (i := at_ + 2) (by omega) (by omega) (by omega)]
      rw [if_neg hz, if_neg (fun hk => hq ⟨by omega, by rw [h.at_ (i := at_ + 3) (by omega) (by omega) (by omega)] at hk; exact hk.2⟩)]
      have := ih (at_ + 3) false _ r e n' hp (by omega) he (by omega)
      rw [show at_ + d + 3 = at_ + 3 + d by omega]
      exact this
    · rw [if_neg hr] at hp
      have hle2 := pSetL_le _ _ _ _ _ hp
      simp only at hle2
      have hno : ¬ (at_ + d + 2 < t'.length ∧ rd t' ((at_ + d + 1 : Nat) : Int) = 45) := by
        rintro ⟨_, hk⟩
        rw [h.at_ (i := at_ + 1) (by omega) (by omega) (by omega)] at hk
        cases n with
        | zero => simp [pSetL] at hp
        | succ n =>
          simp only [pSetL] at hp
          rw [if_pos (by omega), hk, if_neg (by decide), if_neg (by decide), if_pos (.inl rfl)] at hp
          cases hp
      rw [if_neg hno]
      have := ih (at_ + 1) false _ r e n' hp (by omega) he (by omega)
      rw [show at_ + d + 1 = at_ + 1 + d by omega]
      exact this
theorem pSingle_move (h : Copy t t' d lo hi) {at_ e : Nat} {r : List Bool} (hp : pSingle t at_ = some (r, e)) (hlo : lo ≤ at_) (ha : at_ < hi) (he : e ≤ hi) : pSingle t' (at_ + d) = some (r, e + d) := by
  have hl := h.l
  have hl' := h.l'
  unfold pSingle at hp ⊢
  have e0 := h.at_ hlo ha rfl
  rw [e0]
  simp only at hp ⊢
  by_cases h46 : rd t at_ = 46
  · rw [if_pos h46] at hp ⊢
    simp only [Option.some.injEq, Prod.mk.injEq] at hp ⊢
    exact ⟨hp.1, by omega⟩
  rw [if_neg h46] at hp ⊢
  by_cases h37 : rd t at_ = 37
  · rw [if_pos h37] at hp ⊢
    by_cases hx : t.length ≤ at_ + 1
    · rw [if_pos hx] at hp; cases hp
    rw [if_neg hx] at hp
    obtain ⟨z, hz, hw⟩ := Option.map_eq_some_iff.1 hp
    simp only [Prod.mk.injEq] at hw
    obtain ⟨rfl, hw⟩ := hw
    rw [if_neg (by omega), h.at_ (i := at_ + 1) (by omega) (by omega) (by omega), hz]
    simp only [Option.map_some, Option.some.injEq, Prod.mk.injEq, true_and]
    omega
  rw [if_neg h37] at hp ⊢
  by_cases h91 : rd t at_ = 91
  · rw [if_pos h91] at hp ⊢
    unfold pSet at hp ⊢
    by_cases h94 : at_ + 1 < t.length ∧ rd t ((at_ + 1 : Nat) : Int) = 94
    · rw [if_pos h94] at hp
      have hle := pSetL_le _ _ _ _ _ hp
      simp only at hle
      rw [if_pos ⟨by omega, by rw [h.at_ (i := at_ + 1) (by omega) (by omega) (by omega)]; exact h94.2⟩]
      have := pSetL_move h _ (at_ + 1 + 1) _ _ r e (t'.length + 1) hp (by omega) he (by omega)
      rw [show at_ + d + 1 + 1 = at_ + 1 + 1 + d by omega]
      exact this
    · rw [if_neg h94] at hp
      have hle := pSetL_le _ _ _ _ _ hp
      simp only at hle
      rw [if_neg (fun hk => h94 ⟨by omega, by rw [h.at_ (i := at_ + 1) (by omega) (by omega) (by omega)] at hk; exact hk.2⟩)]
      have := pSetL_move h _ (at_ + 1) _ _ r e (t'.length + 1) hp (by omega) he (by omega)
      rw [show at_ + d + 1 = at_ + 1 + d by omega]
      exact this
  rw [if_neg h91] at hp ⊢
  split at hp
  · cases hp
  · rename_i hz
    rw [if_neg hz]
    simp only [Option.some.injEq, Prod.mk.injEq] at hp ⊢
    exact ⟨hp.1, by omega⟩
/-- An item that is no capture and no end. -/
theorem simple_move (h : Copy t t' d lo hi) {s s' u : RSt} (hp : pItem t s = some s') (h40 : rd t s.at_ ≠ 40) (h41 : rd t s.at_ ≠ 41) (h36 : rd t s.at_ = 36 → s.at_ + 1 ≠ t.length ∧ s.at_ + d + 1 ≠ t'.length)
    (hlo : lo ≤ s.at_) (ha : s.at_ < hi) (he : s'.at_ ≤ hi) (hu : u.at_ = s.at_ + d) (hcap : (u.caps = s.caps ∧ u.opn = s.opn) ∨ s.caps = 0) (hrep : hi + d < t'.length → ¬ isRep (rd t' ((hi + d : Nat) : Int))) :
    ∃ x far, s' = s.add x far ∧ pItem t' u = some (u.add x far) ∧ (x.f0 = 1 ∨ x.f0 = 6 ∨ (x.f0 = 5 ∧ s.caps ≠ 0)) := by
  have hl := h.l
  have hl' := h.l'
  unfold pItem at hp ⊢
  have e0 := h.at_ hlo ha hu
  rw [e0]
  rw [if_neg h40, if_neg h41, if_neg (fun hk => (h36 hk.1).1 hk.2)] at hp
  rw [if_neg h40, if_neg h41, if_neg (fun hk => (h36 hk.1).2 (by rw [← hu]; exact hk.2))]
  cases hsp : pSpecial t s with
  | some r =>
    rw [hsp] at hp
    simp only at hp
    subst hp
    unfold pSpecial at hsp ⊢
    rw [e0]
    by_cases hx : rd t s.at_ ≠ 37 ∨ t.length ≤ s.at_ + 1
    · rw [if_pos hx] at hsp; cases hsp
    rw [if_neg hx] at hsp
    simp only [not_or, Decidable.not_not] at hx
    obtain ⟨h37, hx⟩ := hx
    simp only at hsp
    by_cases hz : rd t ((s.at_ + 1 : Nat) : Int) = 102 ∨ rd t ((s.at_ + 1 : Nat) : Int) = 48
    · rw [if_pos hz] at hsp; cases hsp
    rw [if_neg hz] at hsp
    by_cases h98 : rd t ((s.at_ + 1 : Nat) : Int) = 98
    · rw [if_pos h98] at hsp
      by_cases hy : t.length ≤ s.at_ + 3 ∨ rd t ((s.at_ + 2 : Nat) : Int) = rd t ((s.at_ + 3 : Nat) : Int)
      · rw [if_pos hy] at hsp; cases hsp
      rw [if_neg hy] at hsp
      obtain rfl := Option.some.inj (Option.some.inj hsp)
      simp only [RSt.add] at he
      have e1 : rd t' ((u.at_ + 1 : Nat) : Int) = rd t ((s.at_ + 1 : Nat) : Int) := h.at_ (by omega) (by omega) (by omega)
      have e2 : rd t' ((u.at_ + 2 : Nat) : Int) = rd t ((s.at_ + 2 : Nat) : Int) := h.at_ (by omega) (by omega) (by omega)
      have e3 : rd t' ((u.at_ + 3 : Nat) : Int) = rd t ((s.at_ + 3 : Nat) : Int) := h.at_ (by omega) (by omega) (by omega)
      refine ⟨_, _, rfl, ?_, .inr (.inl rfl)⟩
      rw [if_neg (by simp only [not_or, Decidable.not_not]; exact ⟨h37, by omega⟩)]
      simp only
      rw [e1, e2, e3, if_neg hz, if_pos h98, if_neg (by simp only [not_or] at hy ⊢; exact ⟨by omega, hy.2⟩)]
    rw [if_neg h98] at hsp
    by_cases hdg : digit (rd t ((s.at_ + 1 : Nat) : Int)) = true
    · rw [if_pos hdg] at hsp
      by_cases hy : (s.caps : Int) < rd t ((s.at_ + 1 : Nat) : Int) - 48 ∨ (rd t ((s.at_ + 1 : Nat) : Int) - 48) ∈ s.opn
      · rw [if_pos hy] at hsp; cases hsp
      rw [if_neg hy] at hsp
      obtain rfl := Option.some.inj (Option.some.inj hsp)
      simp only [RSt.add] at he
      have e1 : rd t' ((u.at_ + 1 : Nat) : Int) = rd t ((s.at_ + 1 : Nat) : Int) := h.at_ (by omega) (by omega) (by omega)
      have hc0 : s.caps ≠ 0 := by
        intro hq
        rw [digit_iff] at hdg
        simp only [not_or] at hy hz
        omega
      refine ⟨_, _, rfl, ?_, .inr (.inr ⟨rfl, hc0⟩)⟩
      rcases hcap with ⟨hc1, hc2⟩ | hc
      · rw [if_neg (by simp only [not_or, Decidable.not_not]; exact ⟨h37, by omega⟩)]
        simp only
        rw [e1, if_neg hz, if_neg h98, if_pos hdg, hc1, hc2, if_neg hy]
      · exact absurd hc hc0
    · rw [if_neg hdg] at hsp; cases hsp
  | none =>
    rw [hsp] at hp
    simp only at hp
    cases hS : pSingle t s.at_ with
    | none => rw [hS] at hp; cases hp
    | some y =>
      obtain ⟨set, e⟩ := y
      rw [hS] at hp
      simp only at hp
      have hle := pSingle_le (by omega) hS
      simp only at hle
      have heh : e ≤ hi := by
        split at hp
        · obtain rfl := Option.some.inj hp; simp only [RSt.add] at he; omega
        · obtain rfl := Option.some.inj hp; simp only [RSt.add] at he; omega
      have hS' := pSingle_move h hS hlo ha heh
      have hsp' : pSpecial t' u = none := by
        unfold pSpecial at hsp ⊢
        rw [e0]
        by_cases h37 : rd t s.at_ = 37
        · have hlt : s.at_ + 1 < t.length := by
            rcases Nat.lt_or_ge (s.at_ + 1) t.length with hk | hk
            · exact hk
            · exfalso
              unfold pSingle at hS
              simp only at hS
              rw [if_neg (by omega), if_pos h37, if_pos hk] at hS
              cases hS
          rw [if_neg (by simp only [not_or, Decidable.not_not]; exact ⟨h37, by omega⟩)] at hsp
          have hl1 : s.at_ + 1 < hi := by
            have : e = s.at_ + 2 := by
              unfold pSingle at hS
              simp only at hS
              rw [if_neg (by omega), if_pos h37, if_neg (by omega)] at hS
              obtain ⟨z, _, hw⟩ := Option.map_eq_some_iff.1 hS
              simp only [Prod.mk.injEq] at hw
              exact hw.2.symm
            omega
          have e1 : rd t' ((u.at_ + 1 : Nat) : Int) = rd t ((s.at_ + 1 : Nat) : Int) := h.at_ (by omega) (by omega) (by omega)
          rw [if_neg (by simp only [not_or, Decidable.not_not]; exact ⟨h37, by omega⟩)]
          simp only at hsp ⊢
          rw [e1]
          split at hsp
          · cases hsp
          rename_i k1
          split at hsp
          · split at hsp <;> cases hsp
          rename_i k2
          split at hsp
          · split at hsp <;> cases hsp
          rename_i k3
          rw [if_neg k1, if_neg k2, if_neg k3]
        · rw [if_pos (.inl h37)]
      rw [hsp', hu, hS']
      simp only
      by_cases hr : e < t.length ∧ isRep (rd t e)
      · rw [if_pos hr] at hp
        obtain rfl := Option.some.inj hp
        simp only [RSt.add] at he
        have e1 : rd t' ((e + d : Nat) : Int) = rd t e := h.at_ (by omega) (by omega) rfl
        refine ⟨_, _, rfl, ?_, .inl rfl⟩
        rw [e1, if_pos ⟨by omega, hr.2⟩]
        congr 2
        omega
      · rw [if_neg hr] at hp
        obtain rfl := Option.some.inj hp
        have hno : ¬ (e + d < t'.length ∧ isRep (rd t' ((e + d : Nat) : Int))) := by
          rintro ⟨k1, k2⟩
          by_cases hlt : e < hi
          · rw [h.at_ (i := e) (by omega) hlt rfl] at k2
            exact hr ⟨by omega, k2⟩
          · have : e = hi := by omega
            subst this
            exact hrep k1 k2
        refine ⟨_, _, rfl, ?_, .inl rfl⟩
        rw [if_neg hno]
        congr 2
        omega
end
end Go.Proofs.YtpjfjfloeejgiaaFmt.Lw
/- A class with + is the class, and the class with *. -/
set_option linter.unusedVariables false
set_option linter.unusedSimpArgs false
namespace Go.Proofs.YtpjfjfloeejgiaaFmt.Lw
open Go.RowKit Go.Proofs.YtpjfjfloeejgiaaFmtW.PrintWords Go.Proofs.YtpjfjfloeejgiaaFmt.Rf Go.Proofs.YtpjfjfloeejgiaaFmt.Vm Go.Proofs.YtpjfjfloeejgiaaFmt.Mtc Go.Proofs.YtpjfjfloeejgiaaFmt.PFnPatternFirst
section
variable {t t' : List Int} {d lo hi : Nat}
theorem item_move (h : Copy t t' d lo hi) {s s' u : RSt} (hp : pItem t s = some s') (hlo : lo ≤ s.at_) (ha : s.at_ < hi) (he : s'.at_ ≤ hi) (hu : u.at_ = s.at_ + d) (hcap : u.caps = s.caps) (hopn : u.opn = s.opn)
    (hrep : hi + d < t'.length → ¬ isRep (rd t' ((hi + d : Nat) : Int))) (h41' : hi + d < t'.length → rd t' ((hi + d : Nat) : Int) ≠ 41) (hend : ∀ i : Nat, lo ≤ i → i < hi → rd t i = 36 → (i + 1 = t.length ↔ i + d + 1 = t'.length)) :
    ∃ x u', s'.items = s.items ++ [x] ∧ pItem t' u = some u' ∧ u'.at_ = s'.at_ + d ∧ u'.caps = s'.caps ∧ u'.opn = s'.opn ∧ u'.items = u.items ++ [x] := by
  have hl := h.l
  have hl' := h.l'
  have e0 := h.at_ hlo ha hu
  by_cases h40 : rd t s.at_ = 40
  · unfold pItem at hp ⊢
    rw [if_pos h40] at hp
    rw [e0, if_pos h40]
    unfold pCapture at hp ⊢
    rw [hcap]
    by_cases h9 : s.caps = 9
    · rw [if_pos h9] at hp; cases hp
    rw [if_neg h9] at hp ⊢
    by_cases hq : s.at_ + 1 < t.length ∧ rd t ((s.at_ + 1 : Nat) : Int) = 41
    · rw [if_pos hq] at hp
      obtain rfl := Option.some.inj hp
      simp only [RSt.add] at he
      rw [if_pos ⟨by omega, by rw [h.at_ (i := s.at_ + 1) (by omega) (by omega) (by omega)]; exact hq.2⟩]
      exact ⟨_, _, rfl, rfl, by simp only [RSt.add]; omega, rfl, hopn, rfl⟩
    · rw [if_neg hq] at hp
      obtain rfl := Option.some.inj hp
      simp only [RSt.add] at he
      have hno : ¬ (u.at_ + 1 < t'.length ∧ rd t' ((u.at_ + 1 : Nat) : Int) = 41) := by
        rintro ⟨k1, k2⟩
        by_cases hlt : s.at_ + 1 < hi
        · rw [h.at_ (i := s.at_ + 1) (by omega) hlt (by omega)] at k2
          exact hq ⟨by omega, k2⟩
        · have e1 : u.at_ + 1 = hi + d := by omega
          rw [e1] at k1 k2
          exact h41' k1 k2
      rw [if_neg hno]
      exact ⟨_, _, rfl, rfl, by simp only [RSt.add]; omega, rfl, by simp only [RSt.add]; rw [hopn], rfl⟩
  by_cases h41 : rd t s.at_ = 41
  · unfold pItem at hp ⊢
    rw [if_neg h40, if_pos h41] at hp
    rw [e0, if_neg h40, if_pos h41]
    unfold pClosing at hp ⊢
    rw [hopn]
    cases hq : s.opn.getLast? with
    | none => rw [hq] at hp; cases hp
    | some i =>
      rw [hq] at hp
      obtain rfl := Option.some.inj hp
      exact ⟨_, _, rfl, rfl, by simp only [RSt.add]; omega, hcap, by simp only [RSt.add], rfl⟩
  by_cases h36 : rd t s.at_ = 36 ∧ s.at_ + 1 = t.length
  · unfold pItem at hp ⊢
    rw [if_neg h40, if_neg h41, if_pos h36] at hp
    rw [e0, if_neg h40, if_neg h41, if_pos ⟨h36.1, by have := (hend s.at_ hlo ha h36.1).1 h36.2; omega⟩]
    obtain rfl := Option.some.inj hp
    exact ⟨_, _, rfl, rfl, by simp only [RSt.add]; omega, hcap, hopn, rfl⟩
  · obtain ⟨x, far, rfl, h2, _⟩ := simple_move h hp h40 h41 (fun hk => ⟨fun hz => h36 ⟨hk, hz⟩, fun hz => h36 ⟨hk, (hend s.at_ hlo ha hk).2 hz⟩⟩) hlo ha he hu (.inl ⟨hcap, hopn⟩) hrep
    exact ⟨x, _, rfl, h2, by simp only [RSt.add]; omega, hcap, hopn, rfl⟩
theorem steps_move (h : Copy t t' d lo hi) (hrep : hi + d < t'.length → ¬ isRep (rd t' ((hi + d : Nat) : Int))) (h41' : hi + d < t'.length → rd t' ((hi + d : Nat) : Int) ≠ 41) (hend : ∀ i : Nat, lo ≤ i → i < hi → rd t i = 36 → (i + 1 = t.length ↔ i + d + 1 = t'.length))
    {s sf : RSt} (hS : Steps t s sf) : ∀ {u : RSt}, lo ≤ s.at_ → sf.at_ ≤ hi → s.caps ≤ 9 → u.at_ = s.at_ + d → u.caps = s.caps → u.opn = s.opn →
    ∃ uf its, Steps t' u uf ∧ uf.at_ = sf.at_ + d ∧ uf.caps = sf.caps ∧ uf.opn = sf.opn ∧ sf.items = s.items ++ its ∧ uf.items = u.items ++ its := by
  induction hS with
  | refl s => intro u h1 h2 h3 h4 h5 h6; exact ⟨u, [], .refl u, h4, h5, h6, by simp, by simp⟩
  | @step s s' s2 k1 k2 k3 ih =>
    intro u h1 h2 h3 h4 h5 h6
    obtain ⟨m1, m2, m3, m4, m5⟩ := pItem_ok k2 k1 h3
    have hge := (k3.caps m5 m2).2.1
    obtain ⟨x, u', e1, e2, e3, e4, e5, e6⟩ := item_move h k2 h1 (by omega) (by omega) h4 h5 h6 hrep h41' hend
    obtain ⟨uf, its, f1, f2, f3, f4, f5, f6⟩ := ih (u := u') (by omega) h2 m5 e3 e4 e5
    have hl' := h.l'
    refine ⟨uf, x :: its, .step (by omega) e2 f1, f2, f3, f4, ?_, ?_⟩
    · rw [f5, e1]; simp
    · rw [f6, e6]; simp
end
/-- The rest of a reading, behind some steps. -/
theorem pItems_steps {t : List Int} {s u : RSt} (h : Steps t s u) : ∀ {n : Nat} {sf : RSt}, pItems t n s = some sf → ∃ n', pItems t n' u = some sf := by
  induction h with
  | refl s => intro n sf h; exact ⟨n, h⟩
  | @step s s' s2 k1 k2 k3 ih =>
    intro n sf h
    cases n with
    | zero => simp [pItems] at h
    | succ n =>
      simp only [pItems] at h
      rw [if_pos k1, k2] at h
      exact ih h
theorem pItems_uniq {t : List Int} {s : RSt} : ∀ {n m : Nat} {a b : RSt}, pItems t n s = some a → pItems t m s = some b → a = b := by
  intro n
  induction n generalizing s with
  | zero => intro m a b h; simp [pItems] at h
  | succ n ih =>
    intro m a b h k
    cases m with
    | zero => simp [pItems] at k
    | succ m =>
      simp only [pItems] at h k
      by_cases hlt : s.at_ < t.length
      · rw [if_pos hlt] at h k
        cases hI : pItem t s with
        | none => rw [hI] at h; cases h
        | some s' =>
          rw [hI] at h k
          exact ih h k
      · rw [if_neg hlt] at h k
        exact (Option.some.inj h).symm.trans (Option.some.inj k)
/-- The same behind the same. -/
theorem den_same {s : List Int} {X Y : List S147} (h : ∀ at_ caps, den s X at_ caps = den s Y at_ caps) : ∀ (B : List S147) (at_ : Nat) (caps : List S74), den s (B ++ X) at_ caps = den s (B ++ Y) at_ caps := by
  intro B
  induction B with
  | nil => intro at_ caps; exact h at_ caps
  | cons x B ih =>
    intro at_ caps
    rw [List.cons_append, List.cons_append]
    unfold den
    simp only [ih]
/-- One or more is one, and then none or more. -/
theorem den_plus {s : List Int} {set : List Bool} {R : List S147} (at_ : Nat) (caps : List S74) :
    den s (⟨1, set, 43, 0, 0, 0⟩ :: R) at_ caps = den s (⟨1, set, 32, 0, 0, 0⟩ :: ⟨1, set, 42, 0, 0, 0⟩ :: R) at_ caps := by
  have cls : ∀ (rep : Int) (Q : List S147) (a : Nat), den s (⟨1, set, rep, 0, 0, 0⟩ :: Q) a caps = firsts (fun c => den s Q (a + c) caps) (counts rep (run s set (s.length + 1 - a) a)) := by
    intro rep Q a
    rw [den]
    simp
  rw [cls, cls]
  by_cases ha : at_ ≤ s.length
  · generalize hr : run s set (s.length + 1 - at_) at_ = m
    cases m with
    | zero => simp [Rf.counts, Rf.most, Rf.least, firsts]
    | succ m =>
      obtain ⟨hk, hr2⟩ := run_succ ha hr
      have e1 : counts 32 (m + 1) = [1] := by
        simp only [Rf.counts, Rf.most, Rf.least]
        rw [if_pos (.inl trivial), if_pos (.inl trivial), Nat.min_eq_right (by omega)]
        rfl
      have e2 : counts 43 (m + 1) = (desc m).map (· + 1) := by
        simp only [Rf.counts, Rf.most, Rf.least, desc]
        rw [if_pos (.inr trivial), if_neg (by decide), List.map_map, show m + 1 + 1 - 1 = m + 1 by omega]
        refine List.map_congr_left fun j hj => ?_
        have := List.mem_range.1 hj
        simp only [Function.comp]
        rw [if_neg (by decide)]
        omega
      have e3 : ∀ m, counts 42 m = desc m := fun m => by simp [Rf.counts, Rf.most, Rf.least, desc]
      rw [e1, e2, firsts_one, firsts_map, cls, hr2, e3]
      congr 1
      funext k
      congr 1
      omega
  · have h0 : run s set (s.length + 1 - at_) at_ = 0 := by
      rw [show s.length + 1 - at_ = 0 by omega]
      rfl
    rw [h0]
    simp [Rf.counts, Rf.most, Rf.least, firsts]
theorem dFind_same {s : List Int} {X Y : List S147} {anc : Bool} (h : ∀ at_, den s X at_ [] = den s Y at_ []) : ∀ n at_, dFind s X anc n at_ = dFind s Y anc n at_ := by
  intro n
  induction n with
  | zero => intro at_; rfl
  | succ n ih =>
    intro at_
    simp only [dFind, h, ih]
theorem rep43 : isRep 43 := .inr (.inl rfl)
theorem rep42 : isRep 42 := .inl rfl
/-- The items of the two patterns of the law. -/
theorem plus_items {A B : List Int} {l : Int} {anc1 anc2 : Bool} {items1 items2 : List S147} {n1 n2 : Nat} (hc : Closed A)
    (h1 : pRead (A ++ [37, l] ++ [43] ++ B) = some (anc1, items1, n1)) (h2 : pRead (A ++ [37, l] ++ [37, l] ++ [42] ++ B) = some (anc2, items2, n2)) :
    anc1 = anc2 ∧ ∃ I set its, items1 = I ++ ⟨1, set, 43, 0, 0, 0⟩ :: its ∧ items2 = I ++ ⟨1, set, 32, 0, 0, 0⟩ :: ⟨1, set, 42, 0, 0, 0⟩ :: its := by
  obtain ⟨ha1, sf1, hI1, he1, hn1, ho1⟩ := pRead_items h1
  obtain ⟨ha2, sf2, hI2, he2, hn2, ho2⟩ := pRead_items h2
  generalize hT1 : A ++ [37, l] ++ [43] ++ B = t1 at *
  generalize hT2 : A ++ [37, l] ++ [37, l] ++ [42] ++ B = t2 at *
  have l1 : t1.length = A.length + 3 + B.length := by rw [← hT1]; simp; omega
  have l2 : t2.length = A.length + 5 + B.length := by rw [← hT2]; simp; omega
  have a1 : ∀ i : Nat, i < A.length → rd t1 i = rd A i := fun i hi => by
    rw [← hT1, List.append_assoc, List.append_assoc, rd_left hi]
  have a2 : ∀ i : Nat, i < A.length → rd t2 i = rd A i := fun i hi => by
    rw [← hT2, List.append_assoc, List.append_assoc, List.append_assoc, rd_left hi]
  have b1 : ∀ i : Nat, rd t1 ((A.length + i : Nat) : Int) = rd ([37, l] ++ [43] ++ B) i := fun i => by
    rw [← hT1, List.append_assoc, List.append_assoc, rd_right (by omega)]
    rw [← List.append_assoc, show A.length + i - A.length = i by omega]
  have b2 : ∀ i : Nat, rd t2 ((A.length + i : Nat) : Int) = rd ([37, l] ++ [37, l] ++ [42] ++ B) i := fun i => by
    rw [← hT2, List.append_assoc, List.append_assoc, List.append_assoc, rd_right (by omega)]
    rw [← List.append_assoc, ← List.append_assoc, show A.length + i - A.length = i by omega]
  have c10 : rd t1 ((A.length + 0 : Nat) : Int) = 37 := by rw [b1]; rfl
  have c11 : rd t1 ((A.length + 1 : Nat) : Int) = l := by rw [b1]; rfl
  have c12 : rd t1 ((A.length + 2 : Nat) : Int) = 43 := by rw [b1]; rfl
  have c20 : rd t2 ((A.length + 0 : Nat) : Int) = 37 := by rw [b2]; rfl
  have c21 : rd t2 ((A.length + 1 : Nat) : Int) = l := by rw [b2]; rfl
  have c22 : rd t2 ((A.length + 2 : Nat) : Int) = 37 := by rw [b2]; rfl
  have c23 : rd t2 ((A.length + 3 : Nat) : Int) = l := by rw [b2]; rfl
  have c24 : rd t2 ((A.length + 4 : Nat) : Int) = 42 := by rw [b2]; rfl
  have csuf : ∀ i : Nat, rd t2 ((A.length + 5 + i : Nat) : Int) = rd t1 ((A.length + 3 + i : Nat) : Int) := fun i => by
    rw [show A.length + 5 + i = A.length + (5 + i) by omega, show A.length + 3 + i = A.length + (3 + i) by omega, b1, b2, rd_right (by simp only [List.length_append, List.length_cons, List.length_nil]; omega), rd_right (by simp only [List.length_append, List.length_cons, List.length_nil]; omega)]
    congr 1
    simp only [List.length_append, List.length_cons, List.length_nil]
    omega
  have hanc : anc1 = anc2 := by
    rw [ha1, ha2]
    by_cases hA : 0 < A.length
    · have e1 := a1 0 hA
      have e2 := a2 0 hA
      rw [show ((0 : Nat) : Int) = 0 from rfl] at e1 e2
      rw [e1, e2, l1, l2, Bool.eq_iff_iff, decide_eq_true_eq, decide_eq_true_eq]
      constructor <;> (rintro ⟨_, hk⟩; exact ⟨by omega, hk⟩)
    · have hA0 : A.length = 0 := by omega
      rw [hA0] at c10 c20
      rw [show ((0 + 0 : Nat) : Int) = 0 from rfl] at c10 c20
      rw [c10, c20]
      simp
  subst hanc
  refine ⟨rfl, ?_⟩
  have hs0 : (if anc1 = true then 1 else 0) ≤ A.length := by
    split
    · rename_i hq
      rw [hq] at ha1
      have hk := of_decide_eq_true ha1.symm
      rcases Nat.eq_zero_or_pos A.length with hA0 | hA
      · exfalso
        rw [hA0] at c10
        rw [show ((0 + 0 : Nat) : Int) = 0 from rfl] at c10
        omega
      · exact hA
    · omega
  obtain ⟨g1, g2⟩ := steps_of _ _ _ hI1
  have hcl : ∀ i : Nat, 0 ≤ i → i < A.length → rd t1 i ≠ 91 ∧ (rd t1 i = 37 → i + 1 < A.length ∧ rd t1 ((i + 1 : Nat) : Int) ≠ 98) := by
    intro i _ hi
    obtain ⟨k1, k2⟩ := hc i hi
    rw [a1 i hi]
    refine ⟨k1, fun h37 => ?_⟩
    obtain ⟨k3, k4⟩ := k2 h37
    exact ⟨k3, by rw [a1 (i + 1) k3]; exact k4⟩
  have nrep : ¬ isRep 37 := by unfold isRep; omega
  obtain ⟨sB, f1, f2, f3⟩ := g1.cut (m := A.length) (fun a b ha hb hp => closed_step (by omega) hcl (fun _ => by rw [show A.length = A.length + 0 from rfl, c10]; exact ⟨by decide, nrep⟩) (Nat.zero_le _) ha hp) (by simp) hs0 (by omega)
  have hcapB := (f2.caps (by simp) (by simp only; omega)).1
  have hcop : Copy t1 t2 0 0 A.length := ⟨by omega, by omega, fun i _ hi => by rw [Nat.add_zero, a1 i hi, a2 i hi]⟩
  obtain ⟨uB, its0, q1, q2, q3, q4, q5, q6⟩ := steps_move hcop (fun _ => by rw [show A.length + 0 = A.length + 0 from rfl, c20]; exact nrep) (fun _ => by rw [c20]; decide) (fun i _ hi _ => by omega) f2 (u := ⟨if anc1 = true then 1 else 0, [], [], 0⟩) (Nat.zero_le _) (by omega) (by simp) rfl rfl rfl
  have huB : uB = sB := by
    obtain ⟨x1, x2, x3, x4⟩ := uB
    obtain ⟨y1, y2, y3, y4⟩ := sB
    simp only at q2 q3 q4 q5 q6
    simp only [RSt.mk.injEq]
    exact ⟨by omega, q4, by rw [q5, q6], q3⟩
  subst huB
  obtain ⟨nB, hB2⟩ := pItems_steps q1 hI2
  -- the class
  cases f3 with
  | refl => omega
  | step k1 k2 k3 =>
  rename_i s2
  have d10 : rd t1 uB.at_ = 37 := by rw [f1]; exact c10
  have d11 : rd t1 ((uB.at_ + 1 : Nat) : Int) = l := by rw [f1]; exact c11
  have d12 : rd t1 ((uB.at_ + 2 : Nat) : Int) = 43 := by rw [f1]; exact c12
  have d20 : rd t2 uB.at_ = 37 := by rw [f1]; exact c20
  have d21 : rd t2 ((uB.at_ + 1 : Nat) : Int) = l := by rw [f1]; exact c21
  have d22 : rd t2 ((uB.at_ + 2 : Nat) : Int) = 37 := by rw [f1]; exact c22
  have d23 : rd t2 ((uB.at_ + 3 : Nat) : Int) = l := by rw [f1]; exact c23
  have d24 : rd t2 ((uB.at_ + 4 : Nat) : Int) = 42 := by rw [f1]; exact c24
  have ahead : ∀ (T : List Int) (v : RSt), v.at_ + 1 < T.length → rd T v.at_ = 37 → rd T ((v.at_ + 1 : Nat) : Int) = l → pItem T v = (match pSpecial T v with | some r => r | none => match pSingle T v.at_ with | none => none | some (set, behind) => if behind < T.length ∧ isRep (rd T behind) then some (v.add ⟨1, set, rd T behind, 0, 0, 0⟩ (behind + 1 - v.at_)) else some (v.add ⟨1, set, 32, 0, 0, 0⟩ (behind - v.at_))) := by
    intro T v hv h37 hl
    unfold pItem
    rw [h37, if_neg (by decide), if_neg (by decide), if_neg (by rintro ⟨hq, _⟩; cases hq)]
    rfl
  have spec : ∀ (T : List Int) (v : RSt), v.at_ + 1 < T.length → rd T v.at_ = 37 → rd T ((v.at_ + 1 : Nat) : Int) = l → l ≠ 102 → l ≠ 48 → l ≠ 98 → digit l ≠ true → pSpecial T v = none := by
    intro T v hv h37 hl z1 z2 z3 z4
    unfold pSpecial
    rw [if_neg (by simp only [not_or, Decidable.not_not]; exact ⟨h37, by omega⟩)]
    simp only
    rw [hl, if_neg (by simp only [not_or]; exact ⟨z1, z2⟩), if_neg z3, if_neg z4]
  have single : ∀ (T : List Int) (a : Nat), a + 1 < T.length → rd T a = 37 → rd T ((a + 1 : Nat) : Int) = l → pSingle T a = (pEsc none128 l).map (fun s => (s, a + 2)) := by
    intro T a hv h37 hl
    unfold pSingle
    simp only
    rw [h37, if_neg (by decide), if_pos rfl, if_neg (by omega), hl]
  have hsl : ∀ (T : List Int) (n : Nat) (v : RSt) (f : RSt), pItems T n v = some f → v.at_ < T.length → ∃ v' m, n = m + 1 ∧ pItem T v = some v' ∧ pItems T m v' = some f := by
    intro T n v f hh hlt
    cases n with
    | zero => simp [pItems] at hh
    | succ n =>
      simp only [pItems] at hh
      rw [if_pos hlt] at hh
      cases hI : pItem T v with
      | none => rw [hI] at hh; cases hh
      | some v' => rw [hI] at hh; exact ⟨v', n, rfl, rfl, hh⟩
  have star0 : ∀ (T : List Int) (v : RSt), (rd T v.at_ = 42 ∨ rd T v.at_ = 43) → pItem T v = none := by
    intro T v hv
    unfold pItem
    rw [if_neg (by omega), if_neg (by omega), if_neg (by omega)]
    have : pSpecial T v = none := by
      unfold pSpecial
      rw [if_pos (.inl (by omega))]
    rw [this]
    simp only
    have : pSingle T v.at_ = none := by
      unfold pSingle
      simp only
      rw [if_neg (by omega), if_neg (by omega), if_neg (by omega), if_pos (by omega)]
    rw [this]
  rw [ahead t1 uB (by omega) d10 d11] at k2
  obtain ⟨v1, m1, _, hv1, hvm1⟩ := hsl t2 nB uB sf2 hB2 (by omega)
  rw [ahead t2 uB (by omega) d20 d21] at hv1
  have key : l ≠ 102 ∧ l ≠ 48 ∧ l ≠ 98 ∧ digit l ≠ true := by
    refine ⟨?_, ?_, ?_, ?_⟩
    · intro hq
      unfold pSpecial at k2
      rw [if_neg (by simp only [not_or, Decidable.not_not]; exact ⟨d10, by omega⟩)] at k2
      simp only at k2
      rw [d11, if_pos (.inl hq)] at k2
      cases k2
    · intro hq
      unfold pSpecial at k2
      rw [if_neg (by simp only [not_or, Decidable.not_not]; exact ⟨d10, by omega⟩)] at k2
      simp only at k2
      rw [d11, if_pos (.inr hq)] at k2
      cases k2
    · intro hq
      have hsp : pSpecial t2 uB = some (some (uB.add ⟨6, [], 0, 0, 37, l⟩ 4)) := by
        unfold pSpecial
        rw [if_neg (by simp only [not_or, Decidable.not_not]; exact ⟨d20, by omega⟩)]
        simp only
        rw [d21, if_neg (by omega), if_pos hq, d22, d23, if_neg (by simp only [not_or]; exact ⟨by omega, by omega⟩)]
      rw [hsp] at hv1
      obtain rfl := Option.some.inj hv1
      obtain ⟨v2, m2, _, hv2, _⟩ := hsl t2 m1 _ sf2 hvm1 (by simp only [RSt.add]; omega)
      rw [star0 t2 _ (.inl (by simp only [RSt.add]; exact d24))] at hv2
      cases hv2
    · intro hq
      have hdi := digit_iff.1 hq
      have h48 : l ≠ 48 := by
        intro hz
        unfold pSpecial at k2
        rw [if_neg (by simp only [not_or, Decidable.not_not]; exact ⟨d10, by omega⟩)] at k2
        simp only at k2
        rw [d11, if_pos (.inr hz)] at k2
        cases k2
      have hsp : pSpecial t1 uB = some (if (uB.caps : Int) < l - 48 ∨ (l - 48) ∈ uB.opn then none else some (uB.add ⟨5, [], 0, l - 48, 0, 0⟩ 2)) := by
        unfold pSpecial
        rw [if_neg (by simp only [not_or, Decidable.not_not]; exact ⟨d10, by omega⟩)]
        simp only
        rw [d11, if_neg (by omega), if_neg (by omega), if_pos hq]
        split <;> rfl
      rw [hsp] at k2
      simp only at k2
      split at k2
      · cases k2
      · obtain rfl := Option.some.inj k2
        cases k3 with
        | refl => simp only [RSt.add] at g2; omega
        | step w1 w2 w3 =>
          rw [star0 t1 _ (.inr (by simp only [RSt.add]; exact d12))] at w2
          cases w2
  obtain ⟨z1, z2, z3, z4⟩ := key
  rw [spec t1 uB (by omega) d10 d11 z1 z2 z3 z4] at k2
  rw [spec t2 uB (by omega) d20 d21 z1 z2 z3 z4] at hv1
  simp only at k2 hv1
  rw [single t1 uB.at_ (by omega) d10 d11] at k2
  rw [single t2 uB.at_ (by omega) d20 d21] at hv1
  cases hE : pEsc none128 l with
  | none => rw [hE] at k2; cases k2
  | some set =>
  rw [hE] at k2 hv1
  simp only [Option.map_some] at k2 hv1
  rw [d12, if_pos ⟨by omega, rep43⟩] at k2
  rw [d22, if_neg (by rintro ⟨_, hq⟩; exact nrep hq)] at hv1
  obtain rfl := Option.some.inj k2
  obtain rfl := Option.some.inj hv1
  have e22 : (uB.add ⟨1, set, 32, 0, 0, 0⟩ (uB.at_ + 2 - uB.at_)).at_ = uB.at_ + 2 := by simp only [RSt.add]; omega
  obtain ⟨v2, m2, _, hv2, hvm2⟩ := hsl t2 m1 _ sf2 hvm1 (by rw [e22]; omega)
  rw [ahead t2 _ (by rw [e22]; omega) (by rw [e22]; exact d22) (by rw [e22]; exact d23), spec t2 _ (by rw [e22]; omega) (by rw [e22]; exact d22) (by rw [e22]; exact d23) z1 z2 z3 z4] at hv2
  simp only at hv2
  rw [e22, single t2 (uB.at_ + 2) (by omega) d22 d23, hE] at hv2
  simp only [Option.map_some] at hv2
  rw [show uB.at_ + 2 + 2 = uB.at_ + 4 by omega, d24, if_pos ⟨by omega, rep42⟩] at hv2
  obtain rfl := Option.some.inj hv2
  -- the rest
  have hcop2 : Copy t1 t2 2 (A.length + 3) t1.length := ⟨Nat.le_refl _, by omega, fun i hi _ => by
    have := csuf (i - (A.length + 3))
    rw [show A.length + 5 + (i - (A.length + 3)) = i + 2 by omega, show A.length + 3 + (i - (A.length + 3)) = i by omega] at this
    exact this⟩
  have hsf := g1.caps (by simp) (by simp only; omega)
  obtain ⟨uf, its, w1, w2, w3, w4, w5, w6⟩ := steps_move hcop2 (fun hq => by omega) (fun hq => by omega) (fun i _ hi _ => by omega) k3
    (u := (uB.add ⟨1, set, 32, 0, 0, 0⟩ (uB.at_ + 2 - uB.at_)).add ⟨1, set, 42, 0, 0, 0⟩ (uB.at_ + 4 + 1 - (uB.at_ + 2))) (by simp only [RSt.add]; omega) (by omega) (by simp only [RSt.add]; exact hcapB) (by simp only [RSt.add]; omega) rfl rfl
  have hfin := pItems_of w1 (by omega) (by simp only [RSt.add]; exact hcapB) (by simp only [RSt.add]; omega) (t2.length + 1) (by omega)
  have heq := pItems_uniq hvm2 hfin
  refine ⟨uB.items, set, its, ?_, ?_⟩
  · rw [← he1, w5]; simp [RSt.add]
  · rw [← he2, heq, w6]; simp [RSt.add]
end Go.Proofs.YtpjfjfloeejgiaaFmt.Lw
/- The law FnPatternPlus: the walk. -/
set_option linter.unusedVariables false
set_option linter.unusedSimpArgs false
namespace Go.Proofs.YtpjfjfloeejgiaaFmt.Lw
open Go.RowKit Go.Proofs.YtpjfjfloeejgiaaFmtW.PrintWords Go.Proofs.YtpjfjfloeejgiaaFmt.Rf Go.Proofs.YtpjfjfloeejgiaaFmt.Vm Go.Proofs.YtpjfjfloeejgiaaFmt.Mtc Go.Proofs.YtpjfjfloeejgiaaFmt.PFnPatternFirst
theorem bytesOf_nums (xs : List Int) (h : ∀ x ∈ xs, 0 ≤ x ∧ x < 256) : bytesOf (strOfNums xs) = xs := by
  unfold bytesOf strOfNums
  simp only [List.map_map]
  conv => rhs; rw [← List.map_id xs]
  refine List.map_congr_left fun x hx => ?_
  have := h x hx
  simp only [Function.comp, id]
  have e : (UInt8.ofNat x.toNat).toNat = x.toNat := by
    rw [UInt8.toNat_ofNat']
    omega
  rw [e]
  omega
theorem plus_same {p r s c q1 q2 : ByteArray} {x : Int} (hc : bytesOf c = [37, x]) (e1 : bytesOf q1 = bytesOf p ++ [37, x] ++ [43] ++ bytesOf r) (e2 : bytesOf q2 = bytesOf p ++ [37, x] ++ [37, x] ++ [42] ++ bytesOf r) (hcl : Closed (bytesOf p))
    (h1 : (fFirst q1 s 0).1 ≠ 2) (h2 : (fFirst q2 s 0).1 ≠ 2) : fFirst q1 s 0 = fFirst q2 s 0 := by
  obtain ⟨anc1, items1, n1, fn1, hr1, hB1, hs1, z1, hf1, ha1, ho1, hd1⟩ := fFirst_told rfl h1
  obtain ⟨anc2, items2, n2, fn2, hr2, hB2, hs2, z2, hf2, ha2, ho2, hd2⟩ := fFirst_told rfl h2
  rw [e1] at hr1
  rw [e2] at hr2
  obtain ⟨hanc, I, set, its, i1, i2⟩ := plus_items hcl hr1 hr2
  subst hanc
  have hfn : fn1 = fn2 := by omega
  subst hfn
  have heq : dFind (bytesOf s) items1 anc1 (s.size + 2) fn1 = dFind (bytesOf s) items2 anc1 (s.size + 2) fn1 := by
    rw [i1, i2]
    exact dFind_same (fun at_ => den_same (fun a caps => den_plus a caps) I at_ []) _ _
  rw [hd1, hd2] at heq
  have h12 := Option.some.inj heq
  rcases ho1 with ⟨y1, ho1⟩ | ho1 <;> rcases ho2 with ⟨y2, ho2⟩ | ho2 <;> rw [ho1, ho2] at h12 ⊢ <;> simp_all
section
variable {w : World} {p r s : ByteArray} {l : Int}
set_option maxHeartbeats 40000000 in
set_option maxRecDepth 100000 in
theorem law_plus : Calls Tryf.prog 6 #[.string p, .int .i64 l, .string r, .string s] w fun e w' => e = .returned (.bool true) ∧ Below w.heap.size w w' := by
  by_cases hp : 2147483647 < p.size
  · have hpI : (2147483647 : Int) < (p.size : Int) := by omega
    go_enter Tryf.func6, Tryf.ntmps6
    go_wp2_with fail
    go_ret
    exact ⟨rfl, Below.refl _ _⟩
  have hpI : ¬ (2147483647 : Int) < (p.size : Int) := by omega
  by_cases hr : 2147483647 < r.size
  · have hrI : (2147483647 : Int) < (r.size : Int) := by omega
    go_enter Tryf.func6, Tryf.ntmps6
    go_wp2_with fail
    go_ret
    exact ⟨rfl, Below.refl _ _⟩
  have hrI : ¬ (2147483647 : Int) < (r.size : Int) := by omega
  by_cases hs : 2147483647 < s.size
  · have hsI : (2147483647 : Int) < (s.size : Int) := by omega
    go_enter Tryf.func6, Tryf.ntmps6
    go_wp2_with fail
    go_ret
    exact ⟨rfl, Below.refl _ _⟩
  have hsI : ¬ (2147483647 : Int) < (s.size : Int) := by omega
  obtain ⟨x, hx⟩ : ∃ x, bits BinOp.and IntKind.i64 l 127 % 256 = x := ⟨_, rfl⟩
  have hxr : 0 ≤ x ∧ x < 256 := by omega
  obtain ⟨c, hcc⟩ : ∃ c, strOfNums [37, x] = c := ⟨_, rfl⟩
  have hcb : bytesOf c = [37, x] := by rw [← hcc]; exact bytesOf_nums _ (by simp; omega)
  have hcv := run_convert_bytes_arg (P := Tryf.prog) (w.alloc (.cells #[.int .u8 37, .int .u8 x] 5)) 46 5 Tryf.underlying46 Tryf.underlying5 w.heap.size 0 2 2 [37, x] rfl (by
    have hb := blk_new w (.cells #[.int .u8 37, .int .u8 x] 5)
    intro i hi
    rcases (show i = 0 ∨ i = 1 by omega) with rfl | rfl
    · exact blk_cell hb 0
    · exact blk_cell hb 1) 9 Tryf.underlying9
  rw [hcc] at hcv
  have hbw := below_alloc (Below.refl w.heap.size w) (.cells #[.int .u8 37, .int .u8 x] 5)
  have hc2 : c.size = 2 := by rw [← bytesOf_length, hcb]; rfl
  have hc2I : (c.size : Int) = 2 := by omega
  have HCB := Aside0.mk hcb
  have HBW := Aside0.mk hbw
  have HP := Aside0.mk hpI
  clear hbw hcb hcc hxr
  go_enter Tryf.func6, Tryf.ntmps6
  go_upto_region 5 with (fail)
  have hq1b : bytesOf (p ++ c ++ { data := #[43] } ++ r) = bytesOf p ++ [37, x] ++ [43] ++ bytesOf r := by
    rw [bytesOf_append, bytesOf_append, bytesOf_append, HCB.out]; rfl
  have hq2b : bytesOf (p ++ c ++ c ++ { data := #[42] } ++ r) = bytesOf p ++ [37, x] ++ [37, x] ++ [42] ++ bytesOf r := by
    rw [bytesOf_append, bytesOf_append, bytesOf_append, bytesOf_append, HCB.out]; rfl
  have HSAME := Aside0.mk (fun hcl h1 h2 => plus_same (s := s) HCB.out hq1b hq2b hcl h1 h2)
  generalize p ++ c ++ { data := #[43] } ++ r = q1 at *
  generalize p ++ c ++ c ++ { data := #[42] } ++ r = q2 at *
  generalize w.alloc (.cells #[.int .u8 37, .int .u8 x] 5) = wa at *
  have HF1 := Aside0.mk (fun W : World => firstMatch_any (w := W) (p := q1) (s := s) (frm := 0) (by omega))
  have HF2 := Aside0.mk (fun W : World => firstMatch_any (w := W) (p := q2) (s := s) (frm := 0) (by omega))
  have HN1 := Aside0.mk (fun (W : World) o (h : fFirst q1 s 0 = o) h2 => nine_any (w := W) h h2)
  have HN2 := Aside0.mk (fun (W : World) o (h : fFirst q2 s 0 = o) h2 => nine_any (w := W) h h2)
  have HCL := Aside0.mk (fun (W : World) => closed_calls (w := W) (s := p) (by omega))
  have hoc1 := o_cases q1 s 0
  have hoc2 := o_cases q2 s 0
  clear hq1b hq2b hcv hx HCB hc2 hc2I
  go_wp2_with fail
  refine (HF1.out wa).mono ?_
  rintro e w1 ⟨hb1, h1⟩
  have HBT := Aside0.mk (HBW.out.trans (hb1.mono HBW.out.size))
  clear HF1 hb1 HBW
  rcases hoc1 with ho1 | ho1 | ⟨a, en, caps, ho1⟩
  · rw [ho1] at h1
    simp only at h1
    subst h1
    have HB1 := Aside0.mk (below_alloc HBT.out (.cells #[.int .i64 0, .int .i64 0, .slice none 0 0] 30))
    have HX1 := Aside0.mk (blk_new w1 (.cells #[.int .i64 0, .int .i64 0, .slice none 0 0] 30))
    clear HBT 
    go_upto_region 6 with (fail)
    generalize w1.alloc (.cells #[.int .i64 0, .int .i64 0, .slice none 0 0] 30) = w2 at *
    generalize w1.heap.size = n12 at *
    go_wp2_with fail
    refine (HF2.out w2).mono ?_
    rintro e w3 ⟨hb3, h3⟩
    have HBT := Aside0.mk (HB1.out.trans (hb3.mono HB1.out.size))
    have HX3 := Aside0.mk ((hb3.block _ (blk_lt HX1.out)).trans HX1.out)
    clear HF2 HB1 HX1  hb3
    rcases hoc2 with ho2 | ho2 | ⟨a2, en2, caps2, ho2⟩
    · rw [ho2] at h3
      simp only at h3
      subst h3
      have HB3 := Aside0.mk (below_alloc HBT.out (.cells #[.int .i64 0, .int .i64 0, .slice none 0 0] 30))
      clear HN1 HN2 HCL HSAME ho1 ho2
      go_wp2_with fail
      go_ret
      exact ⟨rfl, HB3.out⟩
    · rw [ho2] at h3
      simp only at h3
      subst h3
      have HB3 := Aside0.mk (below_alloc HBT.out (.cells #[.int .i64 0, .int .i64 0, .slice none 0 0] 30))
      clear HN1 HN2 HCL HSAME ho1 ho2
      go_wp2_with fail
      go_ret
      exact ⟨rfl, HB3.out⟩
    · rw [ho2] at h3
      obtain ⟨A2, d2, he2, hle2, hC2⟩ := h3
      subst he2
      clear hC2
      have HB3 := Aside0.mk (below_alloc HBT.out (.cells #[.int .i64 (a2 : Int), .int .i64 (en2 : Int), .slice A2 caps2.length d2] 30))
      clear HN1 HN2 HCL HSAME ho1 ho2
      go_wp2_with fail
      go_ret
      exact ⟨rfl, HB3.out⟩
  · rw [ho1] at h1
    simp only at h1
    subst h1
    have HB1 := Aside0.mk (below_alloc HBT.out (.cells #[.int .i64 0, .int .i64 0, .slice none 0 0] 30))
    have HX1 := Aside0.mk (blk_new w1 (.cells #[.int .i64 0, .int .i64 0, .slice none 0 0] 30))
    clear HBT 
    go_upto_region 6 with (fail)
    generalize w1.alloc (.cells #[.int .i64 0, .int .i64 0, .slice none 0 0] 30) = w2 at *
    generalize w1.heap.size = n12 at *
    go_wp2_with fail
    refine (HF2.out w2).mono ?_
    rintro e w3 ⟨hb3, h3⟩
    have HBT := Aside0.mk (HB1.out.trans (hb3.mono HB1.out.size))
    have HX3 := Aside0.mk ((hb3.block _ (blk_lt HX1.out)).trans HX1.out)
    clear HF2 HB1 HX1  hb3
    rcases hoc2 with ho2 | ho2 | ⟨a2, en2, caps2, ho2⟩
    · rw [ho2] at h3
      simp only at h3
      subst h3
      have HB3 := Aside0.mk (below_alloc HBT.out (.cells #[.int .i64 0, .int .i64 0, .slice none 0 0] 30))
      clear HN1 HN2 HCL HSAME ho1 ho2
      go_wp2_with fail
      go_ret
      exact ⟨rfl, HB3.out⟩
    · rw [ho2] at h3
      simp only at h3
      subst h3
      have HB3 := Aside0.mk (below_alloc HBT.out (.cells #[.int .i64 0, .int .i64 0, .slice none 0 0] 30))
      have HX4 := Aside0.mk (blk_alloc HX3.out (.cells #[.int .i64 0, .int .i64 0, .slice none 0 0] 30))
      go_upto_region 7 with (fail)
      generalize w3.alloc (.cells #[.int .i64 0, .int .i64 0, .slice none 0 0] 30) = w4 at *
      generalize w3.heap.size = n14 at *
      go_wp2_with fail
      refine (HCL.out w4).mono ?_
      rintro e w5 ⟨cb, he5, hcb, hb5⟩
      subst he5
      have HB5 := Aside0.mk (HB3.out.trans (hb5.mono HB3.out.size))
      have HX5 := Aside0.mk ((hb5.block _ (blk_lt HX4.out)).trans HX4.out)
      clear hb5 HCL HX4 HX3 HB3
      cases cb with
      | false =>
        clear HN1 HN2 HSAME ho1 ho2 hcb
        go_wp2_with fail
        go_ret
        exact ⟨rfl, HB5.out⟩
      | true =>
        have hsame := HSAME.out (hcb rfl) (by rw [ho1]; simp) (by rw [ho2]; simp)
        rw [ho1, ho2] at hsame
        have HN1b := Aside0.mk (HN1.out w5 _ ho1 (by simp))
        clear hsame HN1 HSAME hcb ho1
        go_wp2_with fail
        refine HN1b.out.mono ?_
        rintro e w6 ⟨hb6, h6⟩
        simp only at h6
        subst h6
        have HB6 := Aside0.mk (below_alloc (HB5.out.trans (hb6.mono HB5.out.size)) (.cells #[.int .i64 0, .int .i64 0, .slice none 0 0, .slice none 0 0] 37))
        have HN2b := Aside0.mk (HN2.out (w6.alloc (.cells #[.int .i64 0, .int .i64 0, .slice none 0 0, .slice none 0 0] 37)) _ ho2 (by simp))
        clear hb6 HB5 HN1b HN2 ho2
        go_wp2_with fail
        refine HN2b.out.mono ?_
        rintro e w8 ⟨hb8, h8⟩
        simp only at h8
        subst h8
        have HB8 := Aside0.mk (below_alloc (HB6.out.trans (hb8.mono HB6.out.size)) (.cells #[.int .i64 0, .int .i64 0, .slice none 0 0, .slice none 0 0] 37))
        clear hb8 HB6 HN2b
        go_wp2_with fail
        go_ret
        exact ⟨rfl, HB8.out⟩
    · rw [ho2] at h3
      obtain ⟨A2, d2, he2, hle2, hC2⟩ := h3
      subst he2
      clear hC2
      have HB3 := Aside0.mk (below_alloc HBT.out (.cells #[.int .i64 (a2 : Int), .int .i64 (en2 : Int), .slice A2 caps2.length d2] 30))
      have HX4 := Aside0.mk (blk_alloc HX3.out (.cells #[.int .i64 (a2 : Int), .int .i64 (en2 : Int), .slice A2 caps2.length d2] 30))
      go_upto_region 7 with (fail)
      generalize w3.alloc (.cells #[.int .i64 (a2 : Int), .int .i64 (en2 : Int), .slice A2 caps2.length d2] 30) = w4 at *
      generalize w3.heap.size = n14 at *
      go_wp2_with fail
      refine (HCL.out w4).mono ?_
      rintro e w5 ⟨cb, he5, hcb, hb5⟩
      subst he5
      have HB5 := Aside0.mk (HB3.out.trans (hb5.mono HB3.out.size))
      have HX5 := Aside0.mk ((hb5.block _ (blk_lt HX4.out)).trans HX4.out)
      clear hb5 HCL HX4 HX3 HB3
      cases cb with
      | false =>
        clear HN1 HN2 HSAME ho1 ho2 hcb
        go_wp2_with fail
        go_ret
        exact ⟨rfl, HB5.out⟩
      | true =>
        have hsame := HSAME.out (hcb rfl) (by rw [ho1]; simp) (by rw [ho2]; simp)
        rw [ho1, ho2] at hsame
        simp at hsame
  · rw [ho1] at h1
    obtain ⟨A, c1, he, hle, hC⟩ := h1
    have hfew := o_few ho1
    subst he
    have HB1 := Aside0.mk (below_alloc HBT.out (.cells #[.int .i64 (a : Int), .int .i64 (en : Int), .slice A caps.length c1] 30))
    have HX1 := Aside0.mk (blk_new w1 (.cells #[.int .i64 (a : Int), .int .i64 (en : Int), .slice A caps.length c1] 30))
    have HC := Aside0.mk (Kd.C_below hC (below_alloc (Below.refl w1.heap.size w1) (.cells #[.int .i64 (a : Int), .int .i64 (en : Int), .slice A caps.length c1] 30)))
    clear HBT hC
    go_upto_region 6 with (fail)
    generalize w1.alloc (.cells #[.int .i64 (a : Int), .int .i64 (en : Int), .slice A caps.length c1] 30) = w2 at *
    generalize w1.heap.size = n12 at *
    go_wp2_with fail
    refine (HF2.out w2).mono ?_
    rintro e w3 ⟨hb3, h3⟩
    have HBT := Aside0.mk (HB1.out.trans (hb3.mono HB1.out.size))
    have HX3 := Aside0.mk ((hb3.block _ (blk_lt HX1.out)).trans HX1.out)
    have HC3 := Aside0.mk (Kd.C_below HC.out hb3)
    clear HF2 HB1 HX1 HC hb3
    rcases hoc2 with ho2 | ho2 | ⟨a2, en2, caps2, ho2⟩
    · rw [ho2] at h3
      simp only at h3
      subst h3
      have HB3 := Aside0.mk (below_alloc HBT.out (.cells #[.int .i64 0, .int .i64 0, .slice none 0 0] 30))
      clear HN1 HN2 HCL HSAME ho1 ho2
      go_wp2_with fail
      go_ret
      exact ⟨rfl, HB3.out⟩
    · rw [ho2] at h3
      simp only at h3
      subst h3
      have HB3 := Aside0.mk (below_alloc HBT.out (.cells #[.int .i64 0, .int .i64 0, .slice none 0 0] 30))
      have HX4 := Aside0.mk (blk_alloc HX3.out (.cells #[.int .i64 0, .int .i64 0, .slice none 0 0] 30))
      have HC4 := Aside0.mk (Kd.C_below HC3.out (below_alloc (Below.refl w3.heap.size w3) (.cells #[.int .i64 0, .int .i64 0, .slice none 0 0] 30)))
      go_upto_region 7 with (fail)
      generalize w3.alloc (.cells #[.int .i64 0, .int .i64 0, .slice none 0 0] 30) = w4 at *
      generalize w3.heap.size = n14 at *
      go_wp2_with fail
      refine (HCL.out w4).mono ?_
      rintro e w5 ⟨cb, he5, hcb, hb5⟩
      subst he5
      have HB5 := Aside0.mk (HB3.out.trans (hb5.mono HB3.out.size))
      have HX5 := Aside0.mk ((hb5.block _ (blk_lt HX4.out)).trans HX4.out)
      have HC5 := Aside0.mk (Kd.C_below HC4.out hb5)
      clear hb5 HCL HX4 HX3 HB3
      cases cb with
      | false =>
        clear HN1 HN2 HSAME ho1 ho2 hcb
        go_wp2_with fail
        go_ret
        exact ⟨rfl, HB5.out⟩
      | true =>
        have hsame := HSAME.out (hcb rfl) (by rw [ho1]; simp) (by rw [ho2]; simp)
        rw [ho1, ho2] at hsame
        simp at hsame
    · rw [ho2] at h3
      obtain ⟨A2, d2, he2, hle2, hC2⟩ := h3
      subst he2
      clear hC2
      have HB3 := Aside0.mk (below_alloc HBT.out (.cells #[.int .i64 (a2 : Int), .int .i64 (en2 : Int), .slice A2 caps2.length d2] 30))
      have HX4 := Aside0.mk (blk_alloc HX3.out (.cells #[.int .i64 (a2 : Int), .int .i64 (en2 : Int), .slice A2 caps2.length d2] 30))
      have HC4 := Aside0.mk (Kd.C_below HC3.out (below_alloc (Below.refl w3.heap.size w3) (.cells #[.int .i64 (a2 : Int), .int .i64 (en2 : Int), .slice A2 caps2.length d2] 30)))
      go_upto_region 7 with (fail)
      generalize w3.alloc (.cells #[.int .i64 (a2 : Int), .int .i64 (en2 : Int), .slice A2 caps2.length d2] 30) = w4 at *
      generalize w3.heap.size = n14 at *
      go_wp2_with fail
      refine (HCL.out w4).mono ?_
      rintro e w5 ⟨cb, he5, hcb, hb5⟩
      subst he5
      have HB5 := Aside0.mk (HB3.out.trans (hb5.mono HB3.out.size))
      have HX5 := Aside0.mk ((hb5.block _ (blk_lt HX4.out)).trans HX4.out)
      have HC5 := Aside0.mk (Kd.C_below HC4.out hb5)
      clear hb5 HCL HX4 HX3 HB3
      cases cb with
      | false =>
        clear HN1 HN2 HSAME ho1 ho2 hcb
        go_wp2_with fail
        go_ret
        exact ⟨rfl, HB5.out⟩
      | true =>
        have hsame := HSAME.out (hcb rfl) (by rw [ho1]; simp) (by rw [ho2]; simp)
        rw [ho1, ho2] at hsame
        have hs2 : a = a2 ∧ en = en2 ∧ caps = caps2 := by simpa using hsame
        obtain ⟨rfl, rfl, rfl⟩ := hs2
        have HN1b := Aside0.mk (HN1.out w5 _ ho1 (by simp))
        clear hsame HN1 HSAME hcb ho1
        go_wp2_with fail
        refine HN1b.out.mono ?_
        rintro e w6 ⟨hb6, m, M1, k1, M2, k2, he6, r1, r2, hdue⟩
        subst he6
        have HB6 := Aside0.mk (below_alloc (HB5.out.trans (hb6.mono HB5.out.size)) (.cells #[.int .i64 m.b, .int .i64 m.e, .slice M1 m.cs.length k1, .slice M2 m.ps.length k2] 37))
        have HX6 := Aside0.mk (blk_alloc ((hb6.block _ (blk_lt HX5.out)).trans HX5.out) (.cells #[.int .i64 m.b, .int .i64 m.e, .slice M1 m.cs.length k1, .slice M2 m.ps.length k2] 37))
        have bel6 := below_alloc (Below.refl w6.heap.size w6) (.cells #[.int .i64 m.b, .int .i64 m.e, .slice M1 m.cs.length k1, .slice M2 m.ps.length k2] 37)
        have HC6 := Aside0.mk (Kd.C_below (Kd.C_below HC5.out hb6) bel6)
        have HR1 := Aside0.mk (Kd.C_below r1 bel6)
        have HR2 := Aside0.mk (Kd.C_below r2 bel6)
        have HY6 := Aside0.mk (blk_new w6 (.cells #[.int .i64 m.b, .int .i64 m.e, .slice M1 m.cs.length k1, .slice M2 m.ps.length k2] 37))
        have HD := Aside0.mk hdue
        clear hb6 r1 r2 hdue bel6 HX5 HB5 HC5 HN1b
        go_upto_region 10 with (fail)
        generalize w6.alloc (.cells #[.int .i64 m.b, .int .i64 m.e, .slice M1 m.cs.length k1, .slice M2 m.ps.length k2] 37) = w7 at *
        generalize w6.heap.size = n16 at *
        have HN2b := Aside0.mk (HN2.out w7 _ ho2 (by simp))
        clear HN2 ho2
        go_wp2_with fail
        refine HN2b.out.mono ?_
        rintro e w8 ⟨hb8, m2, N1, j1, N2, j2, he8, s1, s2, hdue2⟩
        subst he8
        have HB8 := Aside0.mk (below_alloc (HB6.out.trans (hb8.mono HB6.out.size)) (.cells #[.int .i64 m2.b, .int .i64 m2.e, .slice N1 m2.cs.length j1, .slice N2 m2.ps.length j2] 37))
        have bel8 := below_alloc (Below.refl w8.heap.size w8) (.cells #[.int .i64 m2.b, .int .i64 m2.e, .slice N1 m2.cs.length j1, .slice N2 m2.ps.length j2] 37)
        have HX8 := Aside0.mk (blk_alloc ((hb8.block _ (blk_lt HX6.out)).trans HX6.out) (.cells #[.int .i64 m2.b, .int .i64 m2.e, .slice N1 m2.cs.length j1, .slice N2 m2.ps.length j2] 37))
        have HY8 := Aside0.mk (blk_alloc ((hb8.block _ (blk_lt HY6.out)).trans HY6.out) (.cells #[.int .i64 m2.b, .int .i64 m2.e, .slice N1 m2.cs.length j1, .slice N2 m2.ps.length j2] 37))
        have HW8 := Aside0.mk (blk_new w8 (.cells #[.int .i64 m2.b, .int .i64 m2.e, .slice N1 m2.cs.length j1, .slice N2 m2.ps.length j2] 37))
        have HC8 := Aside0.mk (Kd.C_below (Kd.C_below HC6.out hb8) bel8)
        have HR3 := Aside0.mk (Kd.C_below (Kd.C_below HR1.out hb8) bel8)
        have HR4 := Aside0.mk (Kd.C_below (Kd.C_below HR2.out hb8) bel8)
        have HS1 := Aside0.mk (Kd.C_below s1 bel8)
        have HS2 := Aside0.mk (Kd.C_below s2 bel8)
        have HD2 := Aside0.mk hdue2
        clear hb8 s1 s2 hdue2 bel8 HX6 HY6 HC6 HR1 HR2 HB6 HN2b
        go_upto_region 11 with (fail)
        generalize w8.alloc (.cells #[.int .i64 m2.b, .int .i64 m2.e, .slice N1 m2.cs.length j1, .slice N2 m2.ps.length j2] 37) = w9 at *
        generalize w8.heap.size = n19 at *
        have hi1 := ism_true (w := w9) (A1 := M1) (A2 := M2) (A3 := A) (c1 := k1) (c2 := k2) (c3 := c1) HD.out HR3.out HR4.out (by rw [List.length_map]; exact HC8.out) (by rw [List.length_map]; omega)
        rw [List.length_map] at hi1
        have HI1 := Aside0.mk hi1
        clear hi1
        go_upto_region 13 with (fail)
        have a0 := blk_cell HX8.out 0
        have a1 := blk_cell HX8.out 1
        have a2 := blk_cell HX8.out 2
        have b0 := blk_cell HY8.out 0
        have b1 := blk_cell HY8.out 1
        have b2 := blk_cell HY8.out 2
        have b3 := blk_cell HY8.out 3
        go_wp2_with fail
        refine HI1.out.mono ?_
        rintro e w10 ⟨he10, hb10⟩
        subst he10
        have hx10 := (hb10.block _ (blk_lt HX8.out)).trans HX8.out
        have hw10 := (hb10.block _ (blk_lt HW8.out)).trans HW8.out
        have hi2 := ism_true (w := w10) (A1 := N1) (A2 := N2) (A3 := A) (c1 := j1) (c2 := j2) (c3 := c1) HD2.out (Kd.C_below HS1.out hb10) (Kd.C_below HS2.out hb10) (by rw [List.length_map]; exact Kd.C_below HC8.out hb10) (by rw [List.length_map]; omega)
        rw [List.length_map] at hi2
        have HI2 := Aside0.mk hi2
        have HB10 := Aside0.mk (HB8.out.trans (hb10.mono HB8.out.size))
        clear hi2 hb10 HI1 b0 b1 b2 b3 a0 a1 a2
        have a0 := blk_cell hx10 0
        have a1 := blk_cell hx10 1
        have a2 := blk_cell hx10 2
        have b0 := blk_cell hw10 0
        have b1 := blk_cell hw10 1
        have b2 := blk_cell hw10 2
        have b3 := blk_cell hw10 3
        clear hx10 hw10
        go_wp2_with fail
        refine HI2.out.mono ?_
        rintro e w11 ⟨he11, hb11⟩
        subst he11
        have HB11 := Aside0.mk (HB10.out.trans (hb11.mono HB10.out.size))
        clear hb11 HI2 a0 a1 a2 b0 b1 b2 b3
        go_wp2_with fail
        go_ret
        exact ⟨rfl, HB11.out⟩
end
end Go.Proofs.YtpjfjfloeejgiaaFmt.Lw
