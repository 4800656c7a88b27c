/- Joined texts of this seat: Mtp, Mtu, Ext, Den, Mtw. -/
import Derived.Test.YtpjfjfloeejgiaaFmtGk
import Derived.Test.YtpjfjfloeejgiaaFmtGb
import Derived.StillTailTactics
import Derived.Deep.RegionHeld3
/- The reference's matcher, plain. -/
set_option linter.unusedVariables false
set_option linter.unusedSimpArgs false
namespace Go.Proofs.YtpjfjfloeejgiaaFmt.Rf
open Go.RowKit Go.Proofs.YtpjfjfloeejgiaaFmtW.PrintWords Go.Proofs.YtpjfjfloeejgiaaFmt.PFnPatternFirst

/-- Captures with one of them set. -/
def withC (caps : List S74) (i : Nat) (c : S74) : List S74 := (caps ++ List.replicate (i - caps.length) (⟨0, 0⟩ : S74)).set (i - 1) c
/-- How many bytes from a place on are in a class. -/
def run (s : List Int) (set : List Bool) : Nat → Nat → Nat
  | 0, _ => 0
  | n + 1, a => if a < s.length ∧ set.getD (rd s a).toNat false = true then run s set n (a + 1) + 1 else 0
/-- The place behind what is balanced, the depth being told. -/
def balS (s : List Int) (a b : Int) : Nat → Nat → Int → Option Nat
  | 0, _, _ => none
  | n + 1, k, d =>
    if (if rd s k = a then d + 1 else if rd s k = b then d - 1 else d) = 0 then some (k + 1)
    else balS s a b n (k + 1) (if rd s k = a then d + 1 else if rd s k = b then d - 1 else d)
def pBal (s : List Int) (a b : Int) (at_ : Nat) : Option Nat := if at_ < s.length ∧ rd s at_ = a then balS s a b (s.length - at_) at_ 0 else none
def least (rep : Int) : Nat := if rep = 32 ∨ rep = 43 then 1 else 0
def most (rep : Int) (n : Nat) : Nat := if rep = 32 ∨ rep = 63 then min n 1 else n
/-- The counts of a repetition, as they are tried. -/
def counts (rep : Int) (n : Nat) : List Nat := (List.range (most rep n + 1 - least rep)).map (fun j => if rep = 45 then least rep + j else most rep n - j)
abbrev MtR := Option (Option (Nat × List S74) × Int)
/-- The first count that leads to a match; how many steps are left is handed on. -/
def tries (f : Nat → Int → MtR) : List Nat → Int → MtR
  | [], l => some (none, l)
  | c :: cs, l =>
    match f c l with
    | none => none
    | some (some r, l') => some (some r, l')
    | some (none, l') => tries f cs l'
/-- The place behind what the items match from a place on, and the captures; and how many steps are left; none: the program would panic. -/
def mt (s : List Int) : List S147 → Nat → List S74 → Int → MtR
  | [], at_, caps, left => if left - 1 < 0 then some (none, left - 1) else some (some (at_, caps), left - 1)
  | x :: rest, at_, caps, left =>
    if left - 1 < 0 then some (none, left - 1)
    else if x.f0 = 2 then mt s rest at_ (withC caps x.f3.toNat ⟨at_, -1⟩) (left - 1)
    else if x.f0 = 3 then
      match caps[x.f3.toNat - 1]? with
      | none => none
      | some c => mt s rest at_ (withC caps x.f3.toNat ⟨c.f0, at_ - c.f0⟩) (left - 1)
    else if x.f0 = 4 then mt s rest at_ (withC caps x.f3.toNat ⟨at_, -2⟩) (left - 1)
    else if x.f0 = 5 then
      match caps[x.f3.toNat - 1]? with
      | none => none
      | some c =>
        if c.f1 < 0 then some (none, 0)
        else if (s.length : Int) < at_ + c.f1 then some (none, left - 1)
        else if 0 ≤ c.f0 ∧ c.f0 + c.f1 ≤ s.length then
          (if (s.drop at_).take c.f1.toNat = (s.drop c.f0.toNat).take c.f1.toNat then mt s rest (at_ + c.f1.toNat) caps (left - 1) else some (none, left - 1))
        else none
    else if x.f0 = 6 then
      match pBal s x.f4 x.f5 at_ with
      | none => some (none, left - 1)
      | some e => mt s rest e caps (left - 1)
    else if x.f0 = 7 then (if at_ < s.length then some (none, left - 1) else mt s rest at_ caps (left - 1))
    else tries (fun c l => mt s rest (at_ + c) caps l) (counts x.f2 (run s x.f1 (s.length + 1 - at_) at_)) (left - 1)

theorem run_le (s : List Int) (set : List Bool) : ∀ (n a : Nat), a ≤ s.length → a + run s set n a ≤ s.length := by
  intro n
  induction n with
  | zero => intro a h; simpa [run] using h
  | succ n ih =>
    intro a h
    simp only [run]
    split
    · rename_i hc
      have := ih (a + 1) hc.1
      omega
    · omega
theorem balS_le {s : List Int} {a b : Int} : ∀ (n k : Nat) (d : Int) (e : Nat), balS s a b n k d = some e → k < e ∧ e ≤ k + n := by
  intro n
  induction n with
  | zero => intro k d e h; simp [balS] at h
  | succ n ih =>
    intro k d e h
    simp only [balS] at h
    generalize (if rd s k = a then d + 1 else if rd s k = b then d - 1 else d) = d' at h
    by_cases hd : d' = 0
    · rw [if_pos hd] at h; obtain rfl := Option.some.inj h; omega
    · rw [if_neg hd] at h; have := ih _ _ _ h; omega
theorem pBal_le {s : List Int} {a b : Int} {at_ e : Nat} (h : pBal s a b at_ = some e) : at_ < e ∧ e ≤ s.length := by
  unfold pBal at h
  split at h
  · rename_i hc
    have := balS_le _ _ _ _ h
    omega
  · cases h
theorem counts_len (rep : Int) (n : Nat) : (counts rep n).length ≤ n + 1 := by
  simp only [counts, List.length_map, List.length_range, most]
  split <;> omega
theorem counts_le {rep : Int} {n c : Nat} (h : c ∈ counts rep n) : c ≤ n := by
  simp only [counts, List.mem_map, List.mem_range] at h
  obtain ⟨j, hj, rfl⟩ := h
  have hm : most rep n ≤ n := by unfold most; split <;> omega
  split <;> omega
/-- A call that comes with no step left answers at once. -/
theorem mt_neg (s : List Int) (items : List S147) (at_ : Nat) (caps : List S74) (left : Int) (h : left ≤ 0) : mt s items at_ caps left = some (none, left - 1) := by
  cases items with
  | nil => unfold mt; rw [if_pos (by omega)]
  | cons x rest => unfold mt; rw [if_pos (by omega)]
theorem tries_low {f : Nat → Int → MtR} {B : Int} (hB : 0 ≤ B) (hf : ∀ c l r l', f c l = some (r, l') → (0 < l → -B ≤ l') ∧ (l ≤ 0 → l' = l - 1)) : ∀ (cs : List Nat) (l : Int) (r : Option (Nat × List S74)) (l' : Int), tries f cs l = some (r, l') → min l (-B) - cs.length ≤ l' := by
  intro cs
  induction cs with
  | nil => intro l r l' h; simp only [tries, Option.some.injEq, Prod.mk.injEq] at h; obtain ⟨_, rfl⟩ := h; simp; omega
  | cons c cs ih =>
    intro l r l' h
    simp only [tries] at h
    cases hc : f c l with
    | none => rw [hc] at h; cases h
    | some y =>
      obtain ⟨y1, l1⟩ := y
      rw [hc] at h
      have h1 := hf c l y1 l1 hc
      have hl1 : min l (-B) - 1 ≤ l1 := by
        by_cases h0 : 0 < l
        · have := h1.1 h0; omega
        · have := h1.2 (by omega); omega
      cases y1 with
      | some q =>
        simp only [Option.some.injEq, Prod.mk.injEq] at h
        obtain ⟨_, rfl⟩ := h
        simp only [List.length_cons]; omega
      | none =>
        have := ih l1 r l' h
        simp only [List.length_cons]; omega
/-- How far below zero the steps may go. -/
theorem mt_low (s : List Int) (hs : s.length ≤ 1000) : ∀ (items : List S147) (at_ : Nat) (caps : List S74) (left : Int) (r : Option (Nat × List S74)) (left' : Int), at_ ≤ s.length → mt s items at_ caps left = some (r, left') → 0 < left → -(1002 * (items.length : Int) + 1) ≤ left' := by
  intro items
  induction items with
  | nil =>
    intro at_ caps left r left' ha h h0
    unfold mt at h
    rw [if_neg (by omega)] at h
    simp only [Option.some.injEq, Prod.mk.injEq] at h
    obtain ⟨_, rfl⟩ := h
    simp; omega
  | cons x rest ih =>
    intro at_ caps left r left' ha h h0
    have hl : ((x :: rest).length : Int) = (rest.length : Int) + 1 := by simp
    rw [hl]
    have sub : ∀ at2 caps2, at2 ≤ s.length → ∀ r2 l2, mt s rest at2 caps2 (left - 1) = some (r2, l2) → -(1002 * ((rest.length : Int) + 1) + 1) ≤ l2 := by
      intro at2 caps2 ha2 r2 l2 h2
      by_cases hp : 0 < left - 1
      · have := ih at2 caps2 (left - 1) r2 l2 ha2 h2 hp; omega
      · rw [mt_neg _ _ _ _ _ (by omega)] at h2
        simp only [Option.some.injEq, Prod.mk.injEq] at h2
        omega
    unfold mt at h
    rw [if_neg (by omega)] at h
    split at h
    · exact sub _ _ ha _ _ h
    split at h
    · split at h
      · cases h
      · exact sub _ _ ha _ _ h
    split at h
    · exact sub _ _ ha _ _ h
    split at h
    · split at h
      · cases h
      · split at h
        · simp only [Option.some.injEq, Prod.mk.injEq] at h; omega
        · split at h
          · simp only [Option.some.injEq, Prod.mk.injEq] at h; omega
          · split at h
            · split at h
              · exact sub _ _ (by omega) _ _ h
              · simp only [Option.some.injEq, Prod.mk.injEq] at h; omega
            · cases h
    split at h
    · split at h
      · simp only [Option.some.injEq, Prod.mk.injEq] at h; omega
      · rename_i e he
        exact sub _ _ (pBal_le he).2 _ _ h
    split at h
    · split at h
      · simp only [Option.some.injEq, Prod.mk.injEq] at h; omega
      · exact sub _ _ ha _ _ h
    · have hrun := run_le s x.f1 (s.length + 1 - at_) at_ ha
      have hcl := counts_len x.f2 (run s x.f1 (s.length + 1 - at_) at_)
      have := tries_low (f := fun c l => if at_ + c ≤ s.length then mt s rest (at_ + c) caps l else some (none, l - 1)) (B := 1002 * (rest.length : Int) + 1) (by omega) (fun c l r l' hc => by
        replace hc : (if at_ + c ≤ s.length then mt s rest (at_ + c) caps l else some (none, l - 1)) = some (r, l') := hc
        split at hc
        · rename_i hle
          refine ⟨fun hp => ih _ _ _ _ _ hle hc hp, fun hn => ?_⟩
          rw [mt_neg _ _ _ _ _ hn] at hc
          simp only [Option.some.injEq, Prod.mk.injEq] at hc
          exact hc.2.symm
        · simp only [Option.some.injEq, Prod.mk.injEq] at hc
          refine ⟨fun hp => by omega, fun hn => by omega⟩) (counts x.f2 (run s x.f1 (s.length + 1 - at_) at_)) (left - 1) r left' (by
        rw [← h]
        clear h
        have hmem : ∀ c ∈ counts x.f2 (run s x.f1 (s.length + 1 - at_) at_), at_ + c ≤ s.length := fun c hc => by have := counts_le hc; omega
        generalize counts x.f2 (run s x.f1 (s.length + 1 - at_) at_) = cs at hmem
        generalize left - 1 = l
        induction cs generalizing l with
        | nil => rfl
        | cons c cs ihc =>
          simp only [tries]
          rw [if_pos (hmem c (by simp))]
          cases mt s rest (at_ + c) caps l with
          | none => rfl
          | some y =>
            obtain ⟨y1, l1⟩ := y
            cases y1 with
            | none => exact ihc (fun c hc => hmem c (by simp [hc])) l1
            | some q => rfl)
      omega
end Go.Proofs.YtpjfjfloeejgiaaFmt.Rf
/- The reference's matcher: what ptWith, has and balanced do, plainly told. -/
set_option linter.unusedVariables false
set_option linter.unusedSimpArgs false
namespace Go.Proofs.YtpjfjfloeejgiaaFmt.Rf
open Go.RowKit Go.Proofs.YtpjfjfloeejgiaaFmtW.PrintWords Go.Proofs.YtpjfjfloeejgiaaFmt.PFnPatternFirst

theorem with_l0 {i : Nat} {c : S74} (hi : 1 ≤ i) (hi2 : i ≤ 1000) : ∀ (k : Nat) (y : List S74), i - y.length < k → y.length ≤ 1000 → spec_ptWith.l0 k (i : Int) y c.f0 c.f1 = some ((y ++ List.replicate (i - y.length) (⟨0, 0⟩ : S74)).set (i - 1) c) := by
  intro k
  induction k with
  | zero => intro y h hy; omega
  | succ k ih =>
    intro y h hy
    simp only [spec_ptWith.l0]
    have hw : wrap64 ((i : Int) - 1) = (i : Int) - 1 := IntWalk.wrap64_in _ (by omega)
    by_cases hl : y.length < i
    · rw [if_pos (by omega), if_pos (by omega)]
      refine (ih (y ++ [(⟨0, 0⟩ : S74)]) (by simp; omega) (by simp; omega)).trans ?_
      rw [List.length_append, List.length_singleton, List.append_assoc, show i - y.length = (i - (y.length + 1)) + 1 by omega, List.replicate_succ]
      rfl
    · rw [if_neg (by omega), hw, if_pos (by omega), if_pos (by omega)]
      rw [show i - y.length = 0 by omega, show ((i : Int) - 1).toNat = i - 1 by omega]
      simp
/-- Captures that are read. -/
structure CapU (wr : World) (g : Nat) (A : Option Addr) (c : Nat) (caps : List S74) : Prop where
  cr : Kd.C k74 wr A caps.length caps
  le : caps.length ≤ c
  ne : ∀ ad, A = some ad → 0 < caps.length → g < ad.block
theorem CapU.keep {wr w1 : World} {g : Nat} {A : Option Addr} {c : Nat} {caps : List S74} (h : CapU wr g A c caps) (hk : KeepBut wr w1 g none) : CapU w1 g A c caps :=
  ⟨Kd.C_foot_neS (S := fun k => k = g) (fun h => h) h.cr (fun ad ha hp => Nat.ne_of_gt (h.ne ad ha hp)) _ ⟨hk.1, fun i hi hs => hk.2 i hi hs (by simp)⟩, h.le, h.ne⟩
theorem with_calls {wr : World} {g : Nat} {A : Option Addr} {c i : Nat} {caps : List S74} {x : S74} (h : CapU wr g A c caps) (hi : 1 ≤ i) (hi2 : i ≤ 1000) (hl : caps.length ≤ 1000) (hg : g < wr.heap.size) :
    Calls Tryf.prog 50 #[.slice A caps.length c, .int .i64 (i : Int), .agg #[.int .i64 x.f0, .int .i64 x.f1]] wr fun e w' => ∃ A' c', e = .returned (.slice A' (withC caps i x).length c') ∧ CapU w' g A' c' (withC caps i x) ∧ Below wr.heap.size wr w' := by
  refine (spec_ptWith.calls (i + 1) A c caps (i : Int) x.f0 x.f1 (withC caps i x) wr h.cr h.le ?_).mono ?_
  · unfold spec_ptWith.f
    simp only [Option.bind_some, List.length_nil, List.nil_append]
    rw [if_pos (by omega), with_l0 hi hi2 (i + 1) caps (by omega) hl]
    rfl
  · rintro e w' ⟨v, he, hR, hB⟩
    obtain ⟨A', c', rfl⟩ := Kd.R_slice hR
    obtain ⟨hn, hle, hC⟩ := Kd.R_reads' hR
    refine ⟨A', c', he, ⟨hC, hle, fun ad ha hp => ?_⟩, hB⟩
    subst ha
    obtain ⟨r, c2, hv, hr, _⟩ := Kd.R_form hR hp
    injection hv with h1 _ _
    injection h1 with h1
    subst h1
    show g < r
    omega
theorem bal_l0 {s : ByteArray} {its : List S147} {lf f0 rp ix a b : Int} {set : List Bool} (hs : s.size ≤ 1000) : ∀ (n k : Nat) (d : Int), k + n = s.size → -1000 ≤ d - n → d + n ≤ 1000 → ∀ m, n < m →
    spec_ptMatcher_balanced.l0 m d (k : Int) s its lf f0 set rp ix a b = some (match balS (bytesOf s) a b n k d with | some e => ((e : Nat) : Int) | none => -1, s, lf) := by
  intro n
  induction n with
  | zero =>
    intro k d hk h1 h2 m hm
    obtain ⟨m, rfl⟩ : ∃ m', m = m' + 1 := ⟨m - 1, by omega⟩
    simp only [spec_ptMatcher_balanced.l0, balS]
    rw [if_neg (by omega)]
  | succ n ih =>
    intro k d hk h1 h2 m hm
    obtain ⟨m, rfl⟩ : ∃ m', m = m' + 1 := ⟨m - 1, by omega⟩
    simp only [spec_ptMatcher_balanced.l0, balS, rd_bytesOf]
    rw [if_pos (by omega), if_pos (by omega)]
    have hw1 : wrap64 (d + 1) = d + 1 := IntWalk.wrap64_in _ (by omega)
    have hw2 : wrap64 (d - 1) = d - 1 := IntWalk.wrap64_in _ (by omega)
    have hw3 : wrap64 ((k : Int) + 1) = ((k + 1 : Nat) : Int) := by rw [IntWalk.wrap64_in _ (by omega)]; omega
    rw [hw1, hw2, hw3]
    by_cases ha : bt s (k : Int) = a
    · simp only [if_pos ha]
      by_cases h0 : d + 1 = 0
      · simp only [if_pos h0]
      · simp only [if_neg h0]
        exact ih (k + 1) (d + 1) (by omega) (by omega) (by omega) m (by omega)
    · simp only [if_neg ha]
      by_cases hb : bt s (k : Int) = b
      · simp only [if_pos hb]
        by_cases h0 : d - 1 = 0
        · simp only [if_pos h0]
        · simp only [if_neg h0]
          exact ih (k + 1) (d - 1) (by omega) (by omega) (by omega) m (by omega)
      · simp only [if_neg hb]
        by_cases h0 : d = 0
        · simp only [if_pos h0]
        · simp only [if_neg h0]
          exact ih (k + 1) d (by omega) (by omega) (by omega) m (by omega)
theorem bal_f {s : ByteArray} {its : List S147} {lf f0 rp ix a b : Int} {set : List Bool} (hs : s.size ≤ 1000) (at_ : Nat) (ha : at_ ≤ s.size) :
    spec_ptMatcher_balanced.f (s.size + 2) s its lf f0 set rp ix a b (at_ : Int) = some (match pBal (bytesOf s) a b at_ with | some e => ((e : Nat) : Int) | none => -1, s, lf) := by
  unfold spec_ptMatcher_balanced.f pBal
  rw [bytesOf_length, rd_bytesOf]
  by_cases h1 : at_ < s.size
  · rw [if_neg (by omega), if_pos (by omega), if_pos (by omega)]
    by_cases h2 : bt s (at_ : Int) = a
    · have hf : (bt s (at_ : Int) != a) = false := by simp [h2]
      rw [if_pos ⟨h1, h2⟩, hf]
      show spec_ptMatcher_balanced.j0 (s.size + 1 + 1) _ _ _ _ _ _ _ _ _ _ _ = _
      simp only [spec_ptMatcher_balanced.j0, Bool.false_eq_true, if_false]
      exact bal_l0 hs (s.size - at_) at_ 0 (by omega) (by omega) (by omega) (s.size + 1) (by omega)
    · have hf : (bt s (at_ : Int) != a) = true := by simp [bne_iff_ne, h2]
      rw [if_neg (fun h => h2 h.2), hf]
      show spec_ptMatcher_balanced.j0 (s.size + 1 + 1) _ _ _ _ _ _ _ _ _ _ _ = _
      simp only [spec_ptMatcher_balanced.j0, if_true]
  · rw [if_pos (by omega), if_neg (fun h => h1 h.1)]
    show spec_ptMatcher_balanced.j0 (s.size + 1 + 1) _ _ _ _ _ _ _ _ _ _ _ = _
    simp only [spec_ptMatcher_balanced.j0, if_true]
/-- The matcher in memory. -/
structure MtU (W wr : World) (g : Nat) (s : ByteArray) (items : List S147) (left : Int) : Prop where
  i : IsS100 W wr g s items left
  b : Below W.heap.size W wr
section
variable {W wr w1 : World} {g : Nat} {s : ByteArray} {items : List S147} {left : Int}
theorem MtU.below (h : MtU W wr g s items left) (hb : Below wr.heap.size wr w1) : MtU W w1 g s items left :=
  ⟨h.i.below hb, h.b.trans (hb.mono h.b.size)⟩
theorem MtU.lt (h : MtU W wr g s items left) : g < wr.heap.size := h.i.lt
theorem MtU.put (h : MtU W wr g s items left) (x : Int) : MtU W (wr.setCell ⟨g, 2, none⟩ (.int .i64 x)) g s items x :=
  ⟨h.i.set_2 x, h.b.setCell (p := ⟨g, 2, none⟩) h.i.ge _⟩
theorem MtU.open_ (h : MtU W wr g s items left) : ∃ A c, wr.heap[g]? = some (.cells #[.string s, .slice A items.length c, .int .i64 left] 100 (0, 0)) ∧ k147.C W A items.length items := by
  obtain ⟨A, c, hv, _, hC⟩ := h.i
  exact ⟨A, c, hv, hC⟩
theorem bal_calls {x : S147} {A : Option Addr} {c at_ : Nat} (h : MtU W wr g s items left) (hs : s.size ≤ 1000) (ha : at_ ≤ s.size) (hA : Kd.bool.C wr A x.f1.length x.f1) (hc : x.f1.length ≤ c) (hne : ∀ ad, A = some ad → 0 < x.f1.length → ad.block ≠ g) :
    Calls Tryf.prog 51 #[.pointer (some ⟨g, 0, none⟩), .agg #[.int .i64 x.f0, .slice A x.f1.length c, .int .u8 x.f2, .int .i64 x.f3, .int .u8 x.f4, .int .u8 x.f5], .int .i64 (at_ : Int)] wr fun e w' =>
      e = .returned (.int .i64 (match pBal (bytesOf s) x.f4 x.f5 at_ with | some e => ((e : Nat) : Int) | none => -1)) ∧ MtU W w' g s items left ∧ KeepBut wr w' g none :=
  (spec_ptMatcher_balanced.calls (s.size + 2) g s items left x.f0 A c x.f1 x.f2 x.f3 x.f4 x.f5 (at_ : Int) _ _ _ W wr h.i h.b hA hc hne (bal_f hs at_ ha)).mono
    (fun e w' ⟨he, h1, h2, h3⟩ => ⟨he, ⟨h1, h2⟩, h3⟩)
theorem has_calls {x : S147} {A : Option Addr} {c at_ : Nat} (h : MtU W wr g s items left) (hb : isB s = true) (hl : x.f1.length = 128) (hA : Kd.bool.C wr A x.f1.length x.f1) (hc : x.f1.length ≤ c) (hne : ∀ ad, A = some ad → 0 < x.f1.length → ad.block ≠ g) :
    Calls Tryf.prog 60 #[.pointer (some ⟨g, 0, none⟩), .agg #[.int .i64 x.f0, .slice A x.f1.length c, .int .u8 x.f2, .int .i64 x.f3, .int .u8 x.f4, .int .u8 x.f5], .int .i64 (at_ : Int)] wr fun e w' =>
      e = .returned (.bool (decide (at_ < s.size ∧ x.f1.getD (bt s (at_ : Int)).toNat false = true))) ∧ MtU W w' g s items left ∧ KeepBut wr w' g none := by
  refine (spec_ptMatcher_has.calls g s items left x.f0 A c x.f1 x.f2 x.f3 x.f4 x.f5 (at_ : Int) (decide (at_ < s.size ∧ x.f1.getD (bt s (at_ : Int)).toNat false = true)) s left W wr h.i h.b hA hc hne ?_).mono
    (fun e w' ⟨he, h1, h2, h3⟩ => ⟨he, ⟨h1, h2⟩, h3⟩)
  unfold spec_ptMatcher_has.f
  by_cases h1 : at_ < s.size
  · have hr := bt_range s (at_ : Int)
    have h127 := and127 hr.1 (isB_at hb at_ h1)
    rw [if_pos (by omega), if_pos (by omega), h127, if_pos hr.1, hl, if_pos (by have := isB_at hb at_ h1; omega)]
    simp [rdOf, h1]
  · rw [if_neg (by omega)]
    simp [h1]
end
end Go.Proofs.YtpjfjfloeejgiaaFmt.Rf
/- Cuts of a text, and of its bytes. -/
set_option linter.unusedVariables false
set_option linter.unusedSimpArgs false
namespace Go.Proofs.YtpjfjfloeejgiaaFmt.Rf
open Go.RowKit Go.Proofs.YtpjfjfloeejgiaaFmtW.PrintWords
theorem bytesOf_inj {a b : ByteArray} (h : bytesOf a = bytesOf b) : a = b := by
  have h2 : a.data.toList = b.data.toList := by
    unfold bytesOf at h
    refine List.map_inj_right (fun x y hxy => ?_) |>.1 h
    have : x.toNat = y.toNat := Int.ofNat.inj hxy
    exact UInt8.toNat_inj.1 this
  cases a with
  | mk a => cases b with
    | mk b => exact congrArg ByteArray.mk (Array.toList_inj.1 h2)
theorem bytesOf_extract (s : ByteArray) (a n : Nat) : bytesOf (s.extract a (a + n)) = ((bytesOf s).drop a).take n := by
  unfold bytesOf
  rw [ByteArray.data_extract, Array.toList_extract, ← List.map_drop, ← List.map_take]
  simp [List.extract]
theorem ext_iff (s : ByteArray) (a b n : Nat) : s.extract a (a + n) = s.extract b (b + n) ↔ ((bytesOf s).drop a).take n = ((bytesOf s).drop b).take n := by
  constructor
  · intro h
    rw [← bytesOf_extract, ← bytesOf_extract, h]
  · intro h
    apply bytesOf_inj
    rw [bytesOf_extract, bytesOf_extract, h]
end Go.Proofs.YtpjfjfloeejgiaaFmt.Rf
/- The reference's matcher without its count of steps; what its items are; when it answers. -/
set_option linter.unusedVariables false
set_option linter.unusedSimpArgs false
namespace Go.Proofs.YtpjfjfloeejgiaaFmt.Rf
open Go.RowKit Go.Proofs.YtpjfjfloeejgiaaFmtW.PrintWords Go.Proofs.YtpjfjfloeejgiaaFmt.PFnPatternFirst

abbrev DenR := Option (Option (Nat × List S74))
/-- The first that answers. -/
def firsts (f : Nat → DenR) : List Nat → DenR
  | [] => some none
  | c :: cs =>
    match f c with
    | none => none
    | some (some r) => some (some r)
    | some none => firsts f cs
/-- What the items match; none: it is not told. -/
def den (s : List Int) : List S147 → Nat → List S74 → DenR
  | [], at_, caps => some (some (at_, caps))
  | x :: rest, at_, caps =>
    if x.f0 = 2 then den s rest at_ (withC caps x.f3.toNat ⟨at_, -1⟩)
    else if x.f0 = 3 then
      match caps[x.f3.toNat - 1]? with
      | none => none
      | some c => den s rest at_ (withC caps x.f3.toNat ⟨c.f0, at_ - c.f0⟩)
    else if x.f0 = 4 then den s rest at_ (withC caps x.f3.toNat ⟨at_, -2⟩)
    else if x.f0 = 5 then
      match caps[x.f3.toNat - 1]? with
      | none => none
      | some c =>
        if c.f1 < 0 then none
        else if (s.length : Int) < at_ + c.f1 then some none
        else if 0 ≤ c.f0 ∧ c.f0 + c.f1 ≤ s.length then
          (if (s.drop at_).take c.f1.toNat = (s.drop c.f0.toNat).take c.f1.toNat then den s rest (at_ + c.f1.toNat) caps else some none)
        else none
    else if x.f0 = 6 then
      match pBal s x.f4 x.f5 at_ with
      | none => some none
      | some e => den s rest e caps
    else if x.f0 = 7 then (if at_ < s.length then some none else den s rest at_ caps)
    else firsts (fun c => den s rest (at_ + c) caps) (counts x.f2 (run s x.f1 (s.length + 1 - at_) at_))

theorem tries_firsts {f : Nat → Int → MtR} {g : Nat → DenR} (hf : ∀ c l r l', f c l = some (r, l') → l' ≤ l - 1 ∧ (0 < l' → g c = some r)) :
    ∀ (cs : List Nat) (l : Int) (r : Option (Nat × List S74)) (l' : Int), tries f cs l = some (r, l') → l' ≤ l ∧ (0 < l' → firsts g cs = some r) := by
  intro cs
  induction cs with
  | nil => intro l r l' h; simp only [tries, Option.some.injEq, Prod.mk.injEq] at h; obtain ⟨rfl, rfl⟩ := h; exact ⟨Int.le_refl _, fun _ => rfl⟩
  | cons c cs ih =>
    intro l r l' h
    simp only [tries] at h
    cases hc : f c l with
    | none => rw [hc] at h; cases h
    | some y =>
      obtain ⟨y1, l1⟩ := y
      rw [hc] at h
      have h1 := hf c l y1 l1 hc
      cases y1 with
      | some q =>
        simp only [Option.some.injEq, Prod.mk.injEq] at h
        obtain ⟨rfl, rfl⟩ := h
        refine ⟨by omega, fun hp => ?_⟩
        simp only [firsts, h1.2 hp]
      | none =>
        have h2 := ih l1 r l' h
        refine ⟨by omega, fun hp => ?_⟩
        simp only [firsts, h1.2 (by omega)]
        exact h2.2 hp
/-- Steps that are left tell that none was missed. -/
theorem mt_den (s : List Int) : ∀ (items : List S147) (at_ : Nat) (caps : List S74) (left : Int) (r : Option (Nat × List S74)) (left' : Int),
    mt s items at_ caps left = some (r, left') → left' ≤ left - 1 ∧ (0 < left' → den s items at_ caps = some r) := by
  intro items
  induction items with
  | nil =>
    intro at_ caps left r left' h
    unfold mt at h
    split at h
    · simp only [Option.some.injEq, Prod.mk.injEq] at h; obtain ⟨rfl, rfl⟩ := h; exact ⟨Int.le_refl _, fun _ => by omega⟩
    · simp only [Option.some.injEq, Prod.mk.injEq] at h; obtain ⟨rfl, rfl⟩ := h; exact ⟨Int.le_refl _, fun _ => rfl⟩
  | cons x rest ih =>
    intro at_ caps left r left' h
    have sub : ∀ at2 caps2, mt s rest at2 caps2 (left - 1) = some (r, left') → left' ≤ left - 1 ∧ (0 < left' → den s rest at2 caps2 = some r) := by
      intro at2 caps2 h2
      have := ih _ _ _ _ _ h2
      exact ⟨by omega, this.2⟩
    have triv : ∀ {r0 : Option (Nat × List S74)} {l0 : Int} {D : DenR}, (some (r0, l0) : MtR) = some (r, left') → l0 ≤ left - 1 → (0 < l0 → D = some r0) → left' ≤ left - 1 ∧ (0 < left' → D = some r) := by
      intro r0 l0 D he hl hD
      simp only [Option.some.injEq, Prod.mk.injEq] at he
      obtain ⟨rfl, rfl⟩ := he
      exact ⟨hl, hD⟩
    unfold mt at h
    unfold den
    by_cases h0 : left - 1 < 0
    · rw [if_pos h0] at h
      exact triv h (Int.le_refl _) (fun hp => by omega)
    · rw [if_neg h0] at h
      by_cases h2 : x.f0 = 2
      · rw [if_pos h2] at h ⊢; exact sub _ _ h
      rw [if_neg h2] at h ⊢
      by_cases h3 : x.f0 = 3
      · rw [if_pos h3] at h ⊢
        cases hc : caps[x.f3.toNat - 1]? with
        | none => rw [hc] at h; cases h
        | some c => rw [hc] at h; exact sub _ _ h
      rw [if_neg h3] at h ⊢
      by_cases h4 : x.f0 = 4
      · rw [if_pos h4] at h ⊢; exact sub _ _ h
      rw [if_neg h4] at h ⊢
      by_cases h5 : x.f0 = 5
      · rw [if_pos h5] at h ⊢
        cases hc : caps[x.f3.toNat - 1]? with
        | none => rw [hc] at h; cases h
        | some c =>
          rw [hc] at h
          simp only at h ⊢
          by_cases k1 : c.f1 < 0
          · rw [if_pos k1] at h; exact triv h (by omega) (fun hp => by omega)
          rw [if_neg k1] at h ⊢
          by_cases k2 : (s.length : Int) < at_ + c.f1
          · rw [if_pos k2] at h ⊢; exact triv h (Int.le_refl _) (fun _ => rfl)
          rw [if_neg k2] at h ⊢
          by_cases k3 : 0 ≤ c.f0 ∧ c.f0 + c.f1 ≤ s.length
          · rw [if_pos k3] at h ⊢
            by_cases k4 : (s.drop at_).take c.f1.toNat = (s.drop c.f0.toNat).take c.f1.toNat
            · rw [if_pos k4] at h ⊢; exact sub _ _ h
            · rw [if_neg k4] at h ⊢; exact triv h (Int.le_refl _) (fun _ => rfl)
          · rw [if_neg k3] at h; cases h
      rw [if_neg h5] at h ⊢
      by_cases h6 : x.f0 = 6
      · rw [if_pos h6] at h ⊢
        cases hc : pBal s x.f4 x.f5 at_ with
        | none => rw [hc] at h; exact triv h (Int.le_refl _) (fun _ => rfl)
        | some e => rw [hc] at h; exact sub _ _ h
      rw [if_neg h6] at h ⊢
      by_cases h7 : x.f0 = 7
      · rw [if_pos h7] at h ⊢
        by_cases k : at_ < s.length
        · rw [if_pos k] at h ⊢; exact triv h (Int.le_refl _) (fun _ => rfl)
        · rw [if_neg k] at h ⊢; exact sub _ _ h
      rw [if_neg h7] at h ⊢
      exact tries_firsts (fun c l r l' hc => ih _ _ _ _ _ hc) _ _ _ _ h

/-- Items that the reader gives, so many captures being begun, some of them open. -/
def Wf : List S147 → Nat → List Int → Prop
  | [], c, opn => opn = []
  | x :: rest, c, opn =>
    if x.f0 = 2 then x.f3 = (c : Int) + 1 ∧ Wf rest (c + 1) (opn ++ [(c : Int) + 1])
    else if x.f0 = 3 then opn.getLast? = some x.f3 ∧ Wf rest c opn.dropLast
    else if x.f0 = 4 then x.f3 = (c : Int) + 1 ∧ Wf rest (c + 1) opn
    else if x.f0 = 5 then 1 ≤ x.f3 ∧ x.f3 ≤ c ∧ x.f3 ∉ opn ∧ Wf rest c opn
    else if x.f0 = 6 then x.f4 ≠ x.f5 ∧ Wf rest c opn
    else if x.f0 = 7 then rest = [] ∧ opn = []
    else x.f0 = 1 ∧ (x.f2 = 42 ∨ x.f2 = 43 ∨ x.f2 = 45 ∨ x.f2 = 63 ∨ x.f2 = 32) ∧ Wf rest c opn
/-- Captures behind a part of the items. -/
structure CapsOk (at_ : Nat) (caps : List S74) (opn : List Int) : Prop where
  nd : opn.Nodup
  le : ∀ x ∈ opn, 1 ≤ x ∧ x ≤ caps.length
  op : ∀ (j : Nat) (c : S74), caps[j]? = some c → (c.f1 = -1 ↔ ((j : Int) + 1) ∈ opn)
  ok : ∀ (j : Nat) (c : S74), caps[j]? = some c → 0 ≤ c.f0 ∧ c.f0 ≤ at_ ∧ (c.f1 = -1 ∨ c.f1 = -2 ∨ (0 ≤ c.f1 ∧ c.f0 + c.f1 ≤ at_))
theorem withC_new (caps : List S74) (c : S74) : withC caps (caps.length + 1) c = caps ++ [c] := by
  unfold withC
  rw [show caps.length + 1 - caps.length = 1 by omega, show caps.length + 1 - 1 = caps.length by omega]
  simp
theorem withC_old {caps : List S74} {i : Nat} (h : i ≤ caps.length) (c : S74) : withC caps i c = caps.set (i - 1) c := by
  unfold withC
  rw [show i - caps.length = 0 by omega]
  simp
theorem CapsOk.nil {at_ : Nat} : CapsOk at_ [] [] := ⟨by simp, by simp, by simp, by simp⟩
theorem CapsOk.mono {at_ at2 : Nat} {caps : List S74} {opn : List Int} (h : CapsOk at_ caps opn) (ha : at_ ≤ at2) : CapsOk at2 caps opn :=
  ⟨h.nd, h.le, h.op, fun j c hc => by have := h.ok j c hc; omega⟩
theorem CapsOk.begin {at_ : Nat} {caps : List S74} {opn : List Int} (h : CapsOk at_ caps opn) : CapsOk at_ (caps ++ [⟨at_, -1⟩]) (opn ++ [(caps.length : Int) + 1]) := by
  refine ⟨?_, ?_, ?_, ?_⟩
  · rw [List.nodup_append]
    refine ⟨h.nd, by simp, fun a ha b hb => ?_⟩
    rw [List.mem_singleton.1 hb]
    have := h.le a ha
    omega
  · intro x hx
    rw [List.length_append, List.length_singleton]
    rcases List.mem_append.1 hx with hx | hx
    · have := h.le x hx; omega
    · rw [List.mem_singleton.1 hx]; omega
  · intro j c hc
    rw [List.getElem?_append] at hc
    split at hc
    · rename_i hj
      rw [h.op j c hc]
      simp only [List.mem_append, List.mem_singleton]
      constructor
      · exact .inl
      · rintro (hm | hm)
        · exact hm
        · omega
    · rename_i hj
      rw [List.getElem?_singleton] at hc
      split at hc
      · cases hc
        have : j = caps.length := by omega
        subst this
        simp
      · cases hc
  · intro j c hc
    rw [List.getElem?_append] at hc
    split at hc
    · exact h.ok j c hc
    · rw [List.getElem?_singleton] at hc
      split at hc
      · cases hc; simp
      · cases hc
theorem CapsOk.place {at_ : Nat} {caps : List S74} {opn : List Int} (h : CapsOk at_ caps opn) : CapsOk at_ (caps ++ [⟨at_, -2⟩]) opn := by
  refine ⟨h.nd, fun x hx => ?_, ?_, ?_⟩
  · have := h.le x hx; simp; omega
  · intro j c hc
    rw [List.getElem?_append] at hc
    split at hc
    · exact h.op j c hc
    · rename_i hj
      rw [List.getElem?_singleton] at hc
      split at hc
      · cases hc
        simp only [show ((-2 : Int) = -1) = False by simp, false_iff]
        intro hm
        have := h.le _ hm
        omega
      · cases hc
  · intro j c hc
    rw [List.getElem?_append] at hc
    split at hc
    · exact h.ok j c hc
    · rw [List.getElem?_singleton] at hc
      split at hc
      · cases hc; simp
      · cases hc
theorem last_split {opn : List Int} {i : Int} (h : opn.getLast? = some i) : opn = opn.dropLast ++ [i] := by
  obtain ⟨ys, rfl⟩ := List.getLast?_eq_some_iff.1 h
  simp
theorem CapsOk.lastCap {at_ : Nat} {caps : List S74} {opn : List Int} {i : Int} (h : CapsOk at_ caps opn) (hl : opn.getLast? = some i) :
    1 ≤ i ∧ i ≤ caps.length ∧ ∃ c, caps[i.toNat - 1]? = some c ∧ c.f1 = -1 := by
  have hm : i ∈ opn := by rw [last_split hl]; simp
  have h1 := h.le i hm
  have hlt : i.toNat - 1 < caps.length := by omega
  refine ⟨h1.1, h1.2, caps[i.toNat - 1], List.getElem?_eq_getElem hlt, ?_⟩
  rw [h.op (i.toNat - 1) _ (List.getElem?_eq_getElem hlt)]
  rw [show ((i.toNat - 1 : Nat) : Int) + 1 = i by omega]
  exact hm
theorem CapsOk.close {at_ : Nat} {caps : List S74} {opn : List Int} {i : Int} {c : S74} (h : CapsOk at_ caps opn) (hl : opn.getLast? = some i) (hc : caps[i.toNat - 1]? = some c) :
    CapsOk at_ (caps.set (i.toNat - 1) ⟨c.f0, at_ - c.f0⟩) opn.dropLast := by
  have hs := last_split hl
  have h1 := h.lastCap hl
  have hnd := h.nd
  rw [hs, List.nodup_append] at hnd
  refine ⟨hnd.1, fun x hx => ?_, ?_, ?_⟩
  · rw [List.length_set]
    exact h.le x (by rw [hs]; simp [hx])
  · intro j d hd
    rw [List.getElem?_set] at hd
    split at hd
    · rename_i hj
      split at hd
      · cases hd
        have hk := h.ok _ _ hc
        simp only
        constructor
        · intro hf; omega
        · intro hm
          rw [show (j : Int) + 1 = i by omega] at hm
          exact absurd rfl (hnd.2.2 i hm i (by simp))
      · cases hd
    · rename_i hj
      rw [h.op j d hd]
      rw [hs]
      simp only [List.mem_append, List.mem_singleton, List.dropLast_concat]
      constructor
      · rintro (hm | hm)
        · exact hm
        · omega
      · exact .inl
  · intro j d hd
    rw [List.getElem?_set] at hd
    split at hd
    · split at hd
      · cases hd
        have hk := h.ok _ _ hc
        exact ⟨hk.1, hk.2.1, .inr (.inr ⟨by simp only; omega, by simp only; omega⟩)⟩
      · cases hd
    · exact h.ok j d hd
/-- It always answers. -/
theorem mt_def (s : List Int) : ∀ (items : List S147) (at_ : Nat) (caps : List S74) (opn : List Int) (left : Int), Wf items caps.length opn → CapsOk at_ caps opn → at_ ≤ s.length → ∃ r left', mt s items at_ caps left = some (r, left') := by
  intro items
  induction items with
  | nil =>
    intro at_ caps opn left hw hc ha
    unfold mt
    split
    · exact ⟨_, _, rfl⟩
    · exact ⟨_, _, rfl⟩
  | cons x rest ih =>
    intro at_ caps opn left hw hc ha
    unfold Wf at hw
    unfold mt
    by_cases h0 : left - 1 < 0
    · rw [if_pos h0]; exact ⟨_, _, rfl⟩
    rw [if_neg h0]
    by_cases h2 : x.f0 = 2
    · rw [if_pos h2] at hw ⊢
      rw [hw.1, show ((caps.length : Int) + 1).toNat = caps.length + 1 by omega, withC_new]
      exact ih _ _ _ _ (by rw [List.length_append, List.length_singleton]; exact hw.2) hc.begin ha
    rw [if_neg h2] at hw ⊢
    by_cases h3 : x.f0 = 3
    · rw [if_pos h3] at hw ⊢
      obtain ⟨k1, k2, c, k3, k4⟩ := hc.lastCap hw.1
      rw [k3]
      simp only
      rw [withC_old (by omega)]
      exact ih _ _ _ _ (by rw [List.length_set]; exact hw.2) (hc.close hw.1 k3) ha
    rw [if_neg h3] at hw ⊢
    by_cases h4 : x.f0 = 4
    · rw [if_pos h4] at hw ⊢
      rw [hw.1, show ((caps.length : Int) + 1).toNat = caps.length + 1 by omega, withC_new]
      exact ih _ _ _ _ (by rw [List.length_append, List.length_singleton]; exact hw.2) hc.place ha
    rw [if_neg h4] at hw ⊢
    by_cases h5 : x.f0 = 5
    · rw [if_pos h5] at hw ⊢
      have hlt : x.f3.toNat - 1 < caps.length := by omega
      have hg := List.getElem?_eq_getElem hlt
      have hk := hc.ok _ _ hg
      rw [hg]
      simp only
      by_cases k1 : (caps[x.f3.toNat - 1]).f1 < 0
      · rw [if_pos k1]; exact ⟨_, _, rfl⟩
      rw [if_neg k1]
      split
      · exact ⟨_, _, rfl⟩
      · rename_i k2
        rw [if_pos (by omega)]
        split
        · exact ih _ _ _ _ hw.2.2.2 (hc.mono (by omega)) (by omega)
        · exact ⟨_, _, rfl⟩
    rw [if_neg h5] at hw ⊢
    by_cases h6 : x.f0 = 6
    · rw [if_pos h6] at hw ⊢
      cases hb : pBal s x.f4 x.f5 at_ with
      | none => exact ⟨_, _, rfl⟩
      | some e =>
        have := pBal_le hb
        exact ih _ _ _ _ hw.2 (hc.mono (by omega)) (by omega)
    rw [if_neg h6] at hw ⊢
    by_cases h7 : x.f0 = 7
    · rw [if_pos h7] at hw ⊢
      split
      · exact ⟨_, _, rfl⟩
      · rw [hw.1]
        unfold mt
        split
        · exact ⟨_, _, rfl⟩
        · exact ⟨_, _, rfl⟩
    rw [if_neg h7] at hw ⊢
    have hrun := run_le s x.f1 (s.length + 1 - at_) at_ ha
    have hall : ∀ c ∈ counts x.f2 (run s x.f1 (s.length + 1 - at_) at_), at_ + c ≤ s.length := fun c hc' => by have := counts_le hc'; omega
    generalize counts x.f2 (run s x.f1 (s.length + 1 - at_) at_) = cs at hall
    generalize left - 1 = l
    induction cs generalizing l with
    | nil => exact ⟨_, _, rfl⟩
    | cons c cs ihc =>
      simp only [tries]
      obtain ⟨r, l', he⟩ := ih (at_ + c) caps opn l hw.2.2 (hc.mono (by omega)) (hall c (by simp))
      rw [he]
      cases r with
      | none => exact ihc (fun c hc' => hall c (by simp [hc'])) l'
      | some q => exact ⟨_, _, rfl⟩
end Go.Proofs.YtpjfjfloeejgiaaFmt.Rf
/- ptMatcher.match of package spec: the walk. -/
set_option linter.unusedVariables false
set_option linter.unusedSimpArgs false
namespace Go.Proofs.YtpjfjfloeejgiaaFmt.Rf
open Go.RowKit Go.Proofs.YtpjfjfloeejgiaaFmtW.PrintWords Go.Proofs.YtpjfjfloeejgiaaFmt.PFnPatternFirst
/-- Captures whose numbers are small. -/
structure CapsB (caps : List S74) : Prop where
  n : caps.length ≤ 100
  b : ∀ c ∈ caps, 0 ≤ c.f0 ∧ c.f0 ≤ 1000 ∧ -2000 ≤ c.f1 ∧ c.f1 ≤ 2000
theorem CapsB.with_ {caps : List S74} {i : Nat} {x : S74} (h : CapsB caps) (hi : i ≤ 9) (h0 : 0 ≤ x.f0 ∧ x.f0 ≤ 1000 ∧ -2000 ≤ x.f1 ∧ x.f1 ≤ 2000) : CapsB (withC caps i x) := by
  refine ⟨?_, fun c hc => ?_⟩
  · unfold withC
    rw [List.length_set, List.length_append, List.length_replicate]
    have := h.n
    omega
  · unfold withC at hc
    rcases List.mem_or_eq_of_mem_set hc with h1 | rfl
    · rw [List.mem_append, List.mem_replicate] at h1
      rcases h1 with h1 | ⟨_, rfl⟩
      · exact h.b c h1
      · simp
    · exact h0
/-- An item whose parts are in their bounds. -/
structure ItOk (x : S147) : Prop where
  k : 1 ≤ x.f0 ∧ x.f0 ≤ 7
  s : x.f0 = 1 → x.f1.length = 128
  i : x.f0 = 2 ∨ x.f0 = 3 ∨ x.f0 = 4 ∨ x.f0 = 5 → 1 ≤ x.f3 ∧ x.f3 ≤ 9
/-- What a match hands back. -/
def MtE (W wr : World) (g : Nat) (s : ByteArray) (items : List S147) (o : Option (Nat × List S74)) (left' : Int) (e : Ending) (w' : World) : Prop :=
  MtU W w' g s items left' ∧ KeepBut wr w' g none ∧ match o with
  | none => e = .returned (.tuple #[.int .i64 (-1), .slice none 0 0])
  | some (n, caps) => ∃ A c, e = .returned (.tuple #[.int .i64 (n : Int), .slice A caps.length c]) ∧ CapU w' g A c caps
/-- What a call of function F does at an item. -/
def MtC (F : Nat) (lo : Int) (f : List S147 → Nat → List S74 → Int → MtR) (W : World) (g : Nat) (s : ByteArray) (items : List S147) (i : Nat) : Prop :=
  ∀ (wr : World) (at_ : Nat) (A : Option Addr) (c : Nat) (caps : List S74) (left : Int) (res : Option (Nat × List S74)) (left' : Int), MtU W wr g s items left → CapU wr g A c caps → at_ ≤ s.size → CapsB caps → lo ≤ left → left ≤ 1000000 →
    f (items.drop i) at_ caps left = some (res, left') → Calls Tryf.prog F #[.pointer (some ⟨g, 0, none⟩), .int .i64 (i : Int), .int .i64 (at_ : Int), .slice A caps.length c] wr (MtE W wr g s items res left')
section
variable {W wr w1 : World} {g : Nat} {s : ByteArray} {items : List S147} {left : Int}
theorem MtE.trans {w2 : World} {o : Option (Nat × List S74)} {l : Int} {e : Ending} (h : MtE W w1 g s items o l e w2) (hk : KeepBut wr w1 g none) : MtE W wr g s items o l e w2 :=
  ⟨h.1, hk.trans h.2.1 (.inl rfl), h.2.2⟩
set_option maxHeartbeats 40000000 in
set_option maxRecDepth 100000 in
theorem match_step {i : Nat} (hs : s.size ≤ 1000) (hit : ∀ x ∈ items, ItOk x) (hil : items.length ≤ 100) (ih : i < items.length → MtC 31 (-1000000) (mt (bytesOf s)) W g s items (i + 1))
    (ihr : ∀ hlt : i < items.length, (items[i]).f0 = 1 → MtC 52 0 (fun l a cs left => match l with | [] => none | x :: rest => tries (fun c l => mt (bytesOf s) rest (a + c) cs l) (counts x.f2 (run (bytesOf s) x.f1 (s.size + 1 - a) a)) left) W g s items i) (hi : i ≤ items.length) : MtC 31 (-1000000) (mt (bytesOf s)) W g s items i := by
  intro wr at_ A c caps left res left' h hc ha hok hl0 hl1 hv
  obtain ⟨B, cB, hb, hC⟩ := h.open_
  have e2 : wr.cell? ⟨g, 2, none⟩ = some (.int .i64 left) := blk_cell hb 2
  have f2 := blk_frozen hb 2
  have q0 : IntKind.i64.wrap (left - 1) = left - 1 := IntWalk.i64_in _ (by omega)
  have hp := h.put (left - 1)
  have hk : KeepBut wr (wr.setCell ⟨g, 2, none⟩ (.int .i64 (left - 1))) g none := (KeepBut.refl wr g none).set_ 2 _
  have HK := Aside0.mk hk
  have HP := Aside0.mk hp
  have HCU := Aside0.mk (hc.keep hk)
  have HV := Aside0.mk hv
  have HIT := Aside0.mk hit
  have HIH := Aside0.mk ih
  have HIR := Aside0.mk ihr
  have HOK := Aside0.mk hok
  clear h hc hv hb hC hp hk hit ih ihr hok
  go_enter Tryf.func31, Tryf.ntmps31
  go_upto_region 2 with (fail)
  generalize wr.setCell ⟨g, 2, none⟩ (.int .i64 (left - 1)) = wd at *
  clear e2 f2
  obtain ⟨B, cB, hb, hC⟩ := HP.out.open_
  have e2 : wd.cell? ⟨g, 2, none⟩ = some (.int .i64 (left - 1)) := blk_cell hb 2
  have e1 : wd.cell? ⟨g, 1, none⟩ = some (.slice B items.length cB) := blk_cell hb 1
  have e0 : wd.cell? ⟨g, 0, none⟩ = some (.string s) := blk_cell hb 0
  have HC := Aside0.mk hC
  clear hb hC
  by_cases hneg : left - 1 < 0
  · have hv := HV.out
    have hv2 : mt (bytesOf s) (items.drop i) at_ caps left = some (none, left - 1) := mt_neg _ _ _ _ _ (by omega)
    rw [hv2] at hv
    obtain ⟨rfl, rfl⟩ : (none : Option (Nat × List S74)) = res ∧ left - 1 = left' := by simpa using hv
    clear hv hv2 HV
    go_wp2
    go_ret2
    exact ⟨HP.out, HK.out, rfl⟩
  by_cases hil2 : i = items.length
  · subst hil2
    have hv := HV.out
    rw [List.drop_length] at hv
    unfold mt at hv
    rw [if_neg hneg] at hv
    obtain ⟨rfl, rfl⟩ : some (at_, caps) = res ∧ left - 1 = left' := by simpa using hv
    clear hv HV
    go_wp2
    go_ret2
    exact ⟨HP.out, HK.out, _, _, rfl, HCU.out⟩
  have hlt : i < items.length := by omega
  have hieq : ((i : Int) == (items.length : Int)) = false := beq_eq_false_iff_ne.mpr (by omega)
  have hltI : (i : Int) < (items.length : Int) := by omega
  obtain ⟨ad, A1, d1, hB, y0, y1, y2, y3, y4, y5, y6, y7⟩ := at_T147 HC.out (i : Int) (by omega) hltI
  have hxe : rd_T147 items (i : Int) = items[i] := by simp [rd_T147, List.getD_eq_getElem?_getD, hlt]
  have hdrop : items.drop i = items[i] :: items.drop (i + 1) := List.drop_eq_getElem_cons hlt
  have hxo := HIT.out items[i] (List.getElem_mem hlt)
  rw [hxe] at y0 y1 y2 y3 y4 y5 y6 y7
  have hv := HV.out
  rw [hdrop] at hv
  have hir := fun (hk1 : (items[i]).f0 = 1) wr at_ A c caps left res left' h1 h2 h3 h4 h5 h6 => HIR.out hlt hk1 wr at_ A c caps left res left' h1 h2 h3 h4 h5 h6
  rw [hdrop] at hir
  have hih := HIH.out hlt
  generalize hxx : items[i] = x at *
  subst hB
  simp only [Int.toNat_natCast] at y0 y1 y2 y3 y4 y5
  have z0 := pw_cell_below HP.out.b y0
  have z1 := pw_cell_below HP.out.b y1
  have z2 := pw_cell_below HP.out.b y2
  have z3 := pw_cell_below HP.out.b y3
  have z4 := pw_cell_below HP.out.b y4
  have z5 := pw_cell_below HP.out.b y5
  have HV1 := Aside0.mk hv
  have HIR1 := Aside0.mk hir
  have HIH1 := Aside0.mk hih
  have HXO := Aside0.mk hxo
  have HY6 := Aside0.mk y6
  have HY7 := Aside0.mk y7
  have q1 : IntKind.i64.wrap ((i : Int) + 1) = (i : Int) + 1 := IntWalk.i64_in _ (by omega)
  clear hv hir hih hxo hxe hdrop y0 y1 y2 y3 y4 y5 y6 y7 HV HIR HIH HIT hxx
  go_upto_region 7 with (fail)
  have hbx := blk_new wd (.cells #[.int .i64 x.f0, .slice A1 x.f1.length d1, .int .u8 x.f2, .int .i64 x.f3, .int .u8 x.f4, .int .u8 x.f5] 147)
  have hbw := below_alloc (Below.refl wd.heap.size wd) (.cells #[.int .i64 x.f0, .slice A1 x.f1.length d1, .int .u8 x.f2, .int .i64 x.f3, .int .u8 x.f4, .int .u8 x.f5] 147)
  generalize wd.alloc (.cells #[.int .i64 x.f0, .slice A1 x.f1.length d1, .int .u8 x.f2, .int .i64 x.f3, .int .u8 x.f4, .int .u8 x.f5] 147) = wx at *
  have HK2 := Aside0.mk (HK.out.trans (KeepBut.of_below hbw g none) (.inl rfl))
  have HP2 := Aside0.mk (HP.out.below hbw)
  have HC2 := Aside0.mk (HCU.out.keep (KeepBut.of_below hbw g none))
  have g0 := blk_cell hbx 0
  have g1 := blk_cell hbx 1
  have g2 := blk_cell hbx 2
  have g3 := blk_cell hbx 3
  have g4 := blk_cell hbx 4
  have g5 := blk_cell hbx 5
  have e0 := pw_cell_below hbw e0
  have e1 := pw_cell_below hbw e1
  have e2 := pw_cell_below hbw e2
  have HBX := Aside0.mk hbx
  have HGW := Aside0.mk (show g < wd.heap.size from HP.out.lt)
  clear z0 z1 z2 z3 z4 z5 hbx hbw HK HP HCU
  have hv := HV1.out
  unfold mt at hv
  rw [if_neg hneg] at hv
  by_cases k2 : x.f0 = 2
  · rw [if_pos k2] at hv
    obtain ⟨n1, n2⟩ := HXO.out.i (.inl k2)
    obtain ⟨ix, hix⟩ : ∃ ix : Nat, x.f3 = ix := ⟨x.f3.toNat, by omega⟩
    rw [hix] at hv g3
    rw [k2] at g0
    simp only [Int.toNat_natCast] at hv
    have HW := Aside0.mk (with_calls (x := ⟨(at_ : Int), -1⟩) HC2.out (i := ix) (by omega) (by omega) (by have := HOK.out.n; omega) HP2.out.lt)
    have HVV := Aside0.mk hv
    have HOK2 := Aside0.mk (HOK.out.with_ (i := ix) (x := ⟨(at_ : Int), -1⟩) (by omega) (by simp; omega))
    clear hv HV1 e0 e1 e2 g1 g2 g4 g5 n1 n2 hix k2
    go_wp2_with fail
    refine HW.out.mono ?_
    rintro e w3 ⟨A3, c3, he, hcu, hb3⟩
    subst he
    have hcall := HIH1.out w3 at_ A3 c3 _ (left - 1) res left' (HP2.out.below hb3) hcu ha HOK2.out (by omega) (by omega) HVV.out
    rw [Int.natCast_add, Int.natCast_one] at hcall
    have HCALL := Aside0.mk hcall
    have HK3 := Aside0.mk (HK2.out.trans (KeepBut.of_below hb3 g none) (.inl rfl))
    clear hcall hcu hb3 HW HVV
    go_wp2_with fail
    refine HCALL.out.mono ?_
    intro e w4 h4
    obtain ⟨m1, m2, m3⟩ := h4.trans HK3.out
    have M1 := Aside0.mk m1
    have M2 := Aside0.mk m2
    clear h4 m1 m2 HCALL HK3
    cases res with
    | none =>
      subst m3
      go_wp2_with fail
      go_ret2
      exact ⟨M1.out, M2.out, rfl⟩
    | some y =>
      obtain ⟨yn, yc⟩ := y
      obtain ⟨A4, c4, he, hc4⟩ := m3
      subst he
      have HC4 := Aside0.mk hc4
      clear hc4
      go_wp2_with fail
      go_ret2
      exact ⟨M1.out, M2.out, _, _, rfl, HC4.out⟩
  rw [if_neg k2] at hv
  have b2 : (x.f0 == 2) = false := beq_eq_false_iff_ne.mpr k2
  by_cases k3 : x.f0 = 3
  · rw [if_pos k3] at hv
    obtain ⟨n1, n2⟩ := HXO.out.i (.inr (.inl k3))
    obtain ⟨j, hj⟩ : ∃ j : Nat, x.f3.toNat - 1 = j := ⟨_, rfl⟩
    obtain ⟨ix, hix⟩ : ∃ ix : Nat, x.f3 = ix := ⟨x.f3.toNat, by omega⟩
    rw [hj] at hv
    rw [k3] at g0
    have qz : IntKind.i64.wrap ((ix : Int) - 1) = (j : Int) := by rw [IntWalk.i64_in _ (by omega)]; omega
    rw [hix] at hv g3
    simp only [Int.toNat_natCast] at hv
    cases hcj : caps[j]? with
    | none => rw [hcj] at hv; cases hv
    | some cc =>
      rw [hcj] at hv
      obtain ⟨hjl, hje⟩ := List.getElem?_eq_some_iff.1 hcj
      have hjI : (j : Int) < (caps.length : Int) := by omega
      obtain ⟨ad2, hA, v0, v1⟩ := at_T74 HC2.out.cr (j : Int) (by omega) hjI
      have hce : rd_T74 caps (j : Int) = cc := by simp [rd_T74, List.getD_eq_getElem?_getD, hcj]
      rw [hce] at v0 v1
      simp only [Int.toNat_natCast] at v0 v1
      have hbnd := HOK.out.b cc (List.mem_of_getElem? hcj)
      obtain ⟨cf0, cf1⟩ := cc
      dsimp only at v0 v1 hbnd hv
      subst hA
      have qa : IntKind.i64.wrap ((at_ : Int) - cf0) = (at_ : Int) - cf0 := IntWalk.i64_in _ (by omega)
      have HOK2 := Aside0.mk (HOK.out.with_ (i := ix) (x := ⟨cf0, (at_ : Int) - cf0⟩) (by omega) (by dsimp only; omega))
      have HW := Aside0.mk (with_calls (wr := wx.drew) (x := ⟨cf0, (at_ : Int) - cf0⟩) (HC2.out.keep (keep_drew (KeepBut.refl wx g none))) (i := ix) (by omega) (by omega) (by have := HOK.out.n; omega) HP2.out.lt)
      have HP2d := Aside0.mk (HP2.out.below (below_drew (Below.refl wx.heap.size wx)))
      have HK2d := Aside0.mk (HK2.out.trans (keep_drew (KeepBut.refl wx g none)) (.inl rfl))
      have hgw : wd.heap.size ≠ g := by have := HGW.out; omega
      have hga : (ad2.add (j * 2)).block ≠ g := by rw [add_block]; exact Nat.ne_of_gt (HC2.out.ne _ rfl (by omega))
      have HVV := Aside0.mk hv
      have HKEEP := Aside0.mk (fun (w3 : World) (hb3 : Below wx.drew.heap.size wx.drew w3) => And.intro (pw_cell_below (w := wx.drew) hb3 g3) (pw_cell_below (w := wx.drew) hb3 v0))
      have HKEEP2 := Aside0.mk (fun (w3 w4 : World) (hb3 : Below wx.drew.heap.size wx.drew w3) (hk4 : KeepBut w3 w4 g none) => And.intro (keep_cell hk4 (HKEEP.out w3 hb3).1 hgw) (keep_cell hk4 (HKEEP.out w3 hb3).2 hga))
      clear hv HV1 k2 k3 b2 hcj hje hce hj g1 g2 g4 g5 e0 e1 e2 v1 hix n1 n2 hgw hga
      go_upto_region 11 with (fail)
      cases res with
      | none =>
        go_region_held3 (fun w' => w'.cell? ⟨wd.heap.size, 3, none⟩ = some (.int .i64 (ix : Int)) ∧ w'.cell? (ad2.add (j * 2)) = some (.int .i64 cf0)) (first | exact ⟨g3, v0⟩ | exact HKEEP.out _ HB3.out | exact HKEEP2.out _ _ HB3.out HK4.out) (first | (go_at_call 50; refine HW.out.mono ?_; rintro e w3 ⟨A3, c3, he, hcu, hb3⟩; subst he; (have hcall := HIH1.out w3 at_ A3 c3 _ (left - 1) none left' (HP2d.out.below hb3) hcu ha HOK2.out (by omega) (by omega) HVV.out); rw [Int.natCast_add, Int.natCast_one] at hcall; have HCALL := Aside0.mk hcall; (have HK3 := Aside0.mk (HK2d.out.trans (KeepBut.of_below hb3 g none) (.inl rfl))); have HB3 := Aside0.mk hb3; clear hcall hcu hb3) | (go_at_call 31; refine HCALL.out.mono ?_; intro e w4 h4; have HK4 := Aside0.mk h4.2.1; obtain ⟨m1, m2, m3⟩ := h4.trans HK3.out; have M1 := Aside0.mk m1; have M2 := Aside0.mk m2; clear h4 m1 m2; subst m3))
        go_wp2_with fail
        go_ret2
        exact ⟨M1.out, M2.out, rfl⟩
      | some y =>
        obtain ⟨yn, yc⟩ := y
        go_region_held3 (fun w' => w'.cell? ⟨wd.heap.size, 3, none⟩ = some (.int .i64 (ix : Int)) ∧ w'.cell? (ad2.add (j * 2)) = some (.int .i64 cf0)) (first | exact ⟨g3, v0⟩ | exact HKEEP.out _ HB3.out | exact HKEEP2.out _ _ HB3.out HK4.out) (first | (go_at_call 50; refine HW.out.mono ?_; rintro e w3 ⟨A3, c3, he, hcu, hb3⟩; subst he; (have hcall := HIH1.out w3 at_ A3 c3 _ (left - 1) (some (yn, yc)) left' (HP2d.out.below hb3) hcu ha HOK2.out (by omega) (by omega) HVV.out); rw [Int.natCast_add, Int.natCast_one] at hcall; have HCALL := Aside0.mk hcall; (have HK3 := Aside0.mk (HK2d.out.trans (KeepBut.of_below hb3 g none) (.inl rfl))); have HB3 := Aside0.mk hb3; clear hcall hcu hb3) | (go_at_call 31; refine HCALL.out.mono ?_; intro e w4 h4; have HK4 := Aside0.mk h4.2.1; obtain ⟨m1, m2, m3⟩ := h4.trans HK3.out; have M1 := Aside0.mk m1; have M2 := Aside0.mk m2; clear h4 m1 m2; obtain ⟨A4, c4, he, hc4⟩ := m3; subst he; have HC4 := Aside0.mk hc4; clear hc4))
        go_wp2_with fail
        go_ret2
        exact ⟨M1.out, M2.out, _, _, rfl, HC4.out⟩
  rw [if_neg k3] at hv
  have b3 : (x.f0 == 3) = false := beq_eq_false_iff_ne.mpr k3
  by_cases k4 : x.f0 = 4
  · rw [if_pos k4] at hv
    obtain ⟨n1, n2⟩ := HXO.out.i (.inr (.inr (.inl k4)))
    obtain ⟨ix, hix⟩ : ∃ ix : Nat, x.f3 = ix := ⟨x.f3.toNat, by omega⟩
    rw [hix] at hv g3
    rw [k4] at g0
    simp only [Int.toNat_natCast] at hv
    have HW := Aside0.mk (with_calls (x := ⟨(at_ : Int), -2⟩) HC2.out (i := ix) (by omega) (by omega) (by have := HOK.out.n; omega) HP2.out.lt)
    have HVV := Aside0.mk hv
    have HOK2 := Aside0.mk (HOK.out.with_ (i := ix) (x := ⟨(at_ : Int), -2⟩) (by omega) (by simp; omega))
    clear hv HV1 e0 e1 e2 g1 g2 g4 g5 n1 n2 hix k2 k3 k4 b2 b3
    go_wp2_with fail
    refine HW.out.mono ?_
    rintro e w3 ⟨A3, c3, he, hcu, hb3⟩
    subst he
    have hcall := HIH1.out w3 at_ A3 c3 _ (left - 1) res left' (HP2.out.below hb3) hcu ha HOK2.out (by omega) (by omega) HVV.out
    rw [Int.natCast_add, Int.natCast_one] at hcall
    have HCALL := Aside0.mk hcall
    have HK3 := Aside0.mk (HK2.out.trans (KeepBut.of_below hb3 g none) (.inl rfl))
    clear hcall hcu hb3 HW HVV
    go_wp2_with fail
    refine HCALL.out.mono ?_
    intro e w4 h4
    obtain ⟨m1, m2, m3⟩ := h4.trans HK3.out
    have M1 := Aside0.mk m1
    have M2 := Aside0.mk m2
    clear h4 m1 m2 HCALL HK3
    cases res with
    | none =>
      subst m3
      go_wp2_with fail
      go_ret2
      exact ⟨M1.out, M2.out, rfl⟩
    | some y =>
      obtain ⟨yn, yc⟩ := y
      obtain ⟨A4, c4, he, hc4⟩ := m3
      subst he
      have HC4 := Aside0.mk hc4
      clear hc4
      go_wp2_with fail
      go_ret2
      exact ⟨M1.out, M2.out, _, _, rfl, HC4.out⟩
  rw [if_neg k4] at hv
  have b4 : (x.f0 == 4) = false := beq_eq_false_iff_ne.mpr k4
  by_cases k5 : x.f0 = 5
  · rw [if_pos k5] at hv
    obtain ⟨n1, n2⟩ := HXO.out.i (.inr (.inr (.inr k5)))
    obtain ⟨j, hj⟩ : ∃ j : Nat, x.f3.toNat - 1 = j := ⟨_, rfl⟩
    rw [hj] at hv
    rw [k5] at g0
    have qz : IntKind.i64.wrap (x.f3 - 1) = (j : Int) := by rw [IntWalk.i64_in _ (by omega)]; omega
    cases hcj : caps[j]? with
    | none => rw [hcj] at hv; cases hv
    | some cc =>
      rw [hcj] at hv
      obtain ⟨hjl, hje⟩ := List.getElem?_eq_some_iff.1 hcj
      have hjI : (j : Int) < (caps.length : Int) := by omega
      obtain ⟨ad2, hA, v0, v1⟩ := at_T74 HC2.out.cr (j : Int) (by omega) hjI
      have hce : rd_T74 caps (j : Int) = cc := by simp [rd_T74, List.getD_eq_getElem?_getD, hcj]
      rw [hce] at v0 v1
      simp only [Int.toNat_natCast] at v0 v1
      have hbnd := HOK.out.b cc (List.mem_of_getElem? hcj)
      obtain ⟨cf0, cf1⟩ := cc
      dsimp only at v0 v1 hbnd hv
      subst hA
      have HVV := Aside0.mk hv
      clear hv HV1 k2 k3 k4 k5 b2 b3 b4 hcj hje hce hj g1 g2 g4 g5
      go_upto_region 16 with (fail)
      have hcy := blk_new wx (.cells #[.int .i64 cf0, .int .i64 cf1] 74)
      have hby := below_alloc (Below.refl wx.heap.size wx) (.cells #[.int .i64 cf0, .int .i64 cf1] 74)
      generalize wx.alloc (.cells #[.int .i64 cf0, .int .i64 cf1] 74) = wy at *
      have HK3 := Aside0.mk (HK2.out.trans (KeepBut.of_below hby g none) (.inl rfl))
      have HP3 := Aside0.mk (HP2.out.below hby)
      have HC3 := Aside0.mk (HC2.out.keep (KeepBut.of_below hby g none))
      have c0 := blk_cell hcy 0
      have c1 := blk_cell hcy 1
      have e0 := pw_cell_below hby e0
      have e2 := pw_cell_below hby e2
      obtain ⟨B5, c5, hb5, _⟩ := HP3.out.open_
      have f2 := blk_frozen hb5 2
      clear hcy hby e1 v0 v1 g0 g3 hb5 HK2 HP2 HC2
      have hv := HVV.out
      by_cases hneg2 : cf1 < 0
      · rw [if_pos hneg2] at hv
        obtain ⟨rfl, rfl⟩ : (none : Option (Nat × List S74)) = res ∧ (0 : Int) = left' := by simpa using hv
        have M1 := Aside0.mk (HP3.out.put 0)
        have M2 := Aside0.mk (HK3.out.set_ 2 (.int .i64 0))
        clear hv HVV
        go_wp2_with fail
        go_ret2
        exact ⟨M1.out, M2.out, rfl⟩
      rw [if_neg hneg2, bytesOf_length] at hv
      have qs : IntKind.i64.wrap ((at_ : Int) + cf1) = (at_ : Int) + cf1 := IntWalk.i64_in _ (by omega)
      have qt : IntKind.i64.wrap (cf0 + cf1) = cf0 + cf1 := IntWalk.i64_in _ (by omega)
      by_cases hlong : (s.size : Int) < (at_ : Int) + cf1
      · rw [if_pos hlong] at hv
        obtain ⟨rfl, rfl⟩ : (none : Option (Nat × List S74)) = res ∧ left - 1 = left' := by simpa using hv
        clear hv HVV
        go_wp2_with fail
        go_quiet (fail)
        go_wp2_with fail
        go_ret2
        exact ⟨⟨HP3.out.i.drewN _, pw_below_drewN HP3.out.b _⟩, keep_drewN HK3.out _, rfl⟩
      rw [if_neg hlong] at hv
      by_cases hin : 0 ≤ cf0 ∧ cf0 + cf1 ≤ (s.size : Int)
      · rw [if_pos hin] at hv
        obtain ⟨hin1, hin2⟩ := hin
        obtain ⟨p, hp⟩ : ∃ p : Nat, cf0 = p := ⟨cf0.toNat, by omega⟩
        obtain ⟨n, hn⟩ : ∃ n : Nat, cf1 = n := ⟨cf1.toNat, by omega⟩
        subst hp hn
        simp only [Int.toNat_natCast] at hv
        have r1 : (at_ : Int) ≤ (at_ : Int) + (n : Int) := by omega
        have r2 : (p : Int) ≤ (p : Int) + (n : Int) := by omega
        have r3 : ((at_ : Int) + (n : Int)) ≤ (s.size : Int) := by omega
        have r6 : (p : Int) + (n : Int) ≤ (s.size : Int) := by omega
        have r4 : ((at_ : Int) + (n : Int)).toNat = at_ + n := by omega
        have r5 : ((p : Int) + (n : Int)).toNat = p + n := by omega
        have HVV := Aside0.mk hv
        clear hv
        obtain ⟨bq, hbq⟩ : ∃ b : Bool, b = !decide (s.extract at_ (at_ + n) = s.extract p (p + n)) := ⟨_, rfl⟩
        go_upto_region 19 with (fail)
        go_cut [151] from 111 to 152 (fun v wc => v = .bool bq ∧ ∃ m, wc = wy.drewN m)
        case first =>
          by_cases heq : s.extract at_ (at_ + n) = s.extract p (p + n)
          · have hb : bq = false := by rw [hbq]; simp [heq]
            subst hb
            clear hbq HVV
            go_quiet (fail)
            go_wp2
            go_meet
            case rel => exact ⟨by simp [heq], _, rfl⟩
          · have hb : bq = true := by rw [hbq]; simp [heq]
            have HNE := Aside0.mk (show ((s.extract at_ (at_ + n)).toList == (s.extract p (p + n)).toList) = false from by
              rw [beq_eq_false_iff_ne]
              intro h
              rw [Go.ByteArray.toList_eq, Go.ByteArray.toList_eq] at h
              exact heq (bytesOf_inj (by unfold bytesOf; rw [h])))
            subst hb
            clear hbq HVV
            go_quiet (fail)
            go_wp2
            go_meet
            case rel => exact ⟨by rw [HNE.out]; rfl, _, rfl⟩
        obtain ⟨rfl, m, hm⟩ := hcut
        have HP4 := Aside0.mk (show MtU W wc g s items (left - 1) from hm ▸ ⟨HP3.out.i.drewN m, pw_below_drewN HP3.out.b m⟩)
        have HK4 := Aside0.mk (show KeepBut wr wc g none from hm ▸ keep_drewN HK3.out m)
        have HC4 := Aside0.mk (show CapU wc g (some ad2) c caps from hm ▸ HC3.out.keep (keep_drewN (KeepBut.refl wy g none) m))
        have c1' : wc.cell? ⟨wx.heap.size, 1, none⟩ = some (.int .i64 (n : Int)) := by rw [hm]; exact c1
        clear hm HP3 HK3 HC3 c0 c1 e0 e2 f2
        have hv := HVV.out
        cases bq with
        | true =>
          have hne : ¬ s.extract at_ (at_ + n) = s.extract p (p + n) := by
            intro h
            rw [decide_eq_true h] at hbq
            cases hbq
          rw [if_neg (fun h => hne ((ext_iff s at_ p n).2 h))] at hv
          obtain ⟨rfl, rfl⟩ : (none : Option (Nat × List S74)) = res ∧ left - 1 = left' := by simpa using hv
          clear hv HVV hbq hne
          go_wp2_with fail
          go_ret2
          exact ⟨HP4.out, HK4.out, rfl⟩
        | false =>
          have heq : s.extract at_ (at_ + n) = s.extract p (p + n) := by
            by_cases h : s.extract at_ (at_ + n) = s.extract p (p + n)
            · exact h
            · rw [decide_eq_false h] at hbq; cases hbq
          rw [if_pos ((ext_iff s at_ p n).1 heq)] at hv
          have hcall := HIH1.out wc (at_ + n) (some ad2) c caps (left - 1) res left' HP4.out HC4.out (by omega) HOK.out (by omega) (by omega) hv
          rw [Int.natCast_add, Int.natCast_one, Int.natCast_add] at hcall
          have HCALL := Aside0.mk hcall
          have HK3 := Aside0.mk HK4.out
          clear hcall hv HVV hbq heq
          go_wp2_with fail
          refine HCALL.out.mono ?_
          intro e w4 h4
          obtain ⟨m1, m2, m3⟩ := h4.trans HK3.out
          have M1 := Aside0.mk m1
          have M2 := Aside0.mk m2
          clear h4 m1 m2 HCALL HK3
          cases res with
          | none =>
            subst m3
            go_wp2_with fail
            go_ret2
            exact ⟨M1.out, M2.out, rfl⟩
          | some y =>
            obtain ⟨yn, yc⟩ := y
            obtain ⟨A4, c4, he, hc4⟩ := m3
            subst he
            have HC4 := Aside0.mk hc4
            clear hc4
            go_wp2_with fail
            go_ret2
            exact ⟨M1.out, M2.out, _, _, rfl, HC4.out⟩
      · rw [if_neg hin] at hv; cases hv
  rw [if_neg k5] at hv
  have b5 : (x.f0 == 5) = false := beq_eq_false_iff_ne.mpr k5
  by_cases k6 : x.f0 = 6
  · rw [if_pos k6] at hv
    rw [k6] at g0
    have hset := Kd.C_below HY7.out (HP2.out.b)
    have hbal := bal_calls (x := x) HP2.out hs ha hset HY6.out (fun ad he hp => by
      subst he
      have h1 := Kd.C_lt HY7.out hp (by decide)
      have h2 := HP2.out.i.ge
      omega)
    rw [k6] at hbal
    have HBAL := Aside0.mk hbal
    have HVV := Aside0.mk hv
    clear hv HV1 hset hbal k2 k3 k4 k5 k6 b2 b3 b4 b5 e0 e1 e2
    go_wp2_with fail
    refine HBAL.out.mono ?_
    rintro e w3 ⟨he, hm3, hk3⟩
    subst he
    have hv := HVV.out
    have HK3 := Aside0.mk (HK2.out.trans hk3 (.inl rfl))
    cases hpb : pBal (bytesOf s) x.f4 x.f5 at_ with
    | none =>
      rw [hpb] at hv
      simp only at hv
      obtain ⟨rfl, rfl⟩ : (none : Option (Nat × List S74)) = res ∧ left - 1 = left' := by simpa using hv
      have M1 := Aside0.mk hm3
      clear hv HVV HBAL hm3 hk3 hpb
      go_wp2_with fail
      go_ret2
      exact ⟨M1.out, HK3.out, rfl⟩
    | some eb =>
      rw [hpb] at hv
      simp only at hv
      have hle := (pBal_le hpb).2
      rw [bytesOf_length] at hle
      have hcall := HIH1.out w3 eb A c caps (left - 1) res left' hm3 (HC2.out.keep hk3) hle HOK.out (by omega) (by omega) hv
      rw [Int.natCast_add, Int.natCast_one] at hcall
      have HCALL := Aside0.mk hcall
      have hge : ¬ ((eb : Int) < 0) := by omega
      clear hcall hm3 hk3 HBAL HVV hv hpb
      go_wp2_with fail
      refine HCALL.out.mono ?_
      intro e w4 h4
      obtain ⟨m1, m2, m3⟩ := h4.trans HK3.out
      have M1 := Aside0.mk m1
      have M2 := Aside0.mk m2
      clear h4 m1 m2 HCALL HK3
      cases res with
      | none =>
        subst m3
        go_wp2_with fail
        go_ret2
        exact ⟨M1.out, M2.out, rfl⟩
      | some y =>
        obtain ⟨yn, yc⟩ := y
        obtain ⟨A4, c4, he, hc4⟩ := m3
        subst he
        have HC4 := Aside0.mk hc4
        clear hc4
        go_wp2_with fail
        go_ret2
        exact ⟨M1.out, M2.out, _, _, rfl, HC4.out⟩
  rw [if_neg k6] at hv
  have b6 : (x.f0 == 6) = false := beq_eq_false_iff_ne.mpr k6
  by_cases k7 : x.f0 = 7
  · rw [if_pos k7] at hv
    rw [k7] at g0
    clear k2 k3 k4 k5 k6 k7 b2 b3 b4 b5 b6 HV1 g1 g2 g3 g4 g5
    by_cases hal : at_ < s.size
    · rw [bytesOf_length, if_pos hal] at hv
      have halI : (at_ : Int) < (s.size : Int) := by omega
      obtain ⟨rfl, rfl⟩ : (none : Option (Nat × List S74)) = res ∧ left - 1 = left' := by simpa using hv
      clear hv
      go_wp2_with fail
      go_ret2
      exact ⟨HP2.out, HK2.out, rfl⟩
    · rw [bytesOf_length, if_neg hal] at hv
      have halI : ¬ (at_ : Int) < (s.size : Int) := by omega
      have hcall := HIH1.out wx at_ A c caps (left - 1) res left' HP2.out HC2.out ha HOK.out (by omega) (by omega) hv
      rw [Int.natCast_add, Int.natCast_one] at hcall
      have HCALL := Aside0.mk hcall
      have HK3 := Aside0.mk HK2.out
      clear hcall hv
      go_wp2_with fail
      refine HCALL.out.mono ?_
      intro e w4 h4
      obtain ⟨m1, m2, m3⟩ := h4.trans HK3.out
      have M1 := Aside0.mk m1
      have M2 := Aside0.mk m2
      clear h4 m1 m2 HCALL HK3
      cases res with
      | none =>
        subst m3
        go_wp2_with fail
        go_ret2
        exact ⟨M1.out, M2.out, rfl⟩
      | some y =>
        obtain ⟨yn, yc⟩ := y
        obtain ⟨A4, c4, he, hc4⟩ := m3
        subst he
        have HC4 := Aside0.mk hc4
        clear hc4
        go_wp2_with fail
        go_ret2
        exact ⟨M1.out, M2.out, _, _, rfl, HC4.out⟩
  rw [if_neg k7] at hv
  have b7 : (x.f0 == 7) = false := beq_eq_false_iff_ne.mpr k7
  have hcall := HIR1.out (by have := HXO.out.k; omega) wx at_ A c caps (left - 1) res left' HP2.out HC2.out ha HOK.out (by omega) (by omega) (by rw [bytesOf_length] at hv; exact hv)
  have HCALL := Aside0.mk hcall
  have HK3 := Aside0.mk HK2.out
  clear hcall hv HV1 k2 k3 k4 k5 k6 k7 e0 e1 e2 g1 g2 g3 g4 g5
  go_wp2_with fail
  refine HCALL.out.mono ?_
  intro e w4 h4
  obtain ⟨m1, m2, m3⟩ := h4.trans HK3.out
  have M1 := Aside0.mk m1
  have M2 := Aside0.mk m2
  clear h4 m1 m2 HCALL HK3
  cases res with
  | none =>
    subst m3
    go_wp2_with fail
    go_ret2
    exact ⟨M1.out, M2.out, rfl⟩
  | some y =>
    obtain ⟨yn, yc⟩ := y
    obtain ⟨A4, c4, he, hc4⟩ := m3
    subst he
    have HC4 := Aside0.mk hc4
    clear hc4
    go_wp2_with fail
    go_ret2
    exact ⟨M1.out, M2.out, _, _, rfl, HC4.out⟩
end
end Go.Proofs.YtpjfjfloeejgiaaFmt.Rf
