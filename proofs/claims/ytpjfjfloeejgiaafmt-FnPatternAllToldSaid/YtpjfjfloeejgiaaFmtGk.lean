/- Joined texts of this seat: Rfp, Setu, Esc, Psw, Psg, Rdu, Rda, Rdb, Rdc, Rdd, Rde, Rdf. -/
import Derived.Test.YtpjfjfloeejgiaaFmtGb
import Derived.Test.YtpjfjfloeejgiaaFmtGc
import Derived.Deep.RegionLaw
import Derived.StillTailTactics
/- The reference's patterns, plain: classes, items, the reader. -/
set_option linter.unusedVariables false
set_option linter.unusedSimpArgs false
namespace Go.Proofs.YtpjfjfloeejgiaaFmt.Rf
open Go.RowKit Go.Proofs.YtpjfjfloeejgiaaFmtW.PrintWords Go.Proofs.YtpjfjfloeejgiaaFmt.PFnPatternFirst

/-- Whether a byte below 128 is in the class of a small letter; none: there is no such class. -/
def inC (c b : Int) : Option Bool :=
  let lower := decide (97 ≤ b) && decide (b ≤ 122)
  let upper := decide (65 ≤ b) && decide (b ≤ 90)
  let digit := decide (48 ≤ b) && decide (b ≤ 57)
  let graph := decide (32 < b) && decide (b < 127)
  if c = 97 then some (lower || upper)
  else if c = 99 then some (decide (b < 32) || decide (b = 127))
  else if c = 100 then some digit
  else if c = 108 then some lower
  else if c = 112 then some (graph && !lower && !upper && !digit)
  else if c = 115 then some (decide (b = 32) || (decide (9 ≤ b) && decide (b ≤ 13)))
  else if c = 117 then some upper
  else if c = 119 then some (lower || upper || digit)
  else if c = 120 then some (digit || (decide (97 ≤ b) && decide (b ≤ 102)) || (decide (65 ≤ b) && decide (b ≤ 70)))
  else if c = 122 then some (decide (b = 0))
  else none
def letter (b : Int) : Bool := (decide (97 ≤ b) && decide (b ≤ 122)) || (decide (65 ≤ b) && decide (b ≤ 90))
def digit (b : Int) : Bool := decide (48 ≤ b) && decide (b ≤ 57)
/-- A class with what a test finds. -/
def orC (set : List Bool) (f : Nat → Bool) (n : Nat) : List Bool := (List.range 128).map (fun j => if j < n && f j then true else set.getD j false)
/-- What stands behind a % added to a class. -/
def pEsc (set : List Bool) (b : Int) : Option (List Bool) :=
  if digit b then none
  else if letter b = false then (if b < 128 then some (set.set b.toNat true) else none)
  else
    let small := if b ≤ 90 then b + 32 else b
    if (inC small 0).isNone then none else some (orC set (fun k => inC small k == some (small == b)) 128)
def none128 : List Bool := List.replicate 128 false
def all128 : List Bool := List.replicate 128 true
/-- A set, behind its bracket (and ^), from a place on. -/
def pSetL (p : List Int) (other : Bool) : Nat → Bool → Nat → List Bool → Option (List Bool × Nat)
  | 0, _, _, _ => none
  | n + 1, first, at_, set =>
    if at_ < p.length then
      let b := rd p at_
      if b = 93 then
        if first then none else some (if other then set.map (!·) else set, at_ + 1)
      else if b = 37 then
        if p.length ≤ at_ + 1 then none else
        match pEsc set (rd p ((at_ + 1 : Nat) : Int)) with
        | none => none
        | some set' => if at_ + 2 < p.length ∧ rd p ((at_ + 2 : Nat) : Int) = 45 then none else pSetL p other n false (at_ + 2) set'
      else if b = 45 ∨ b = 91 ∨ b = 94 then none
      else if at_ + 2 < p.length ∧ rd p ((at_ + 1 : Nat) : Int) = 45 then
        let l := rd p ((at_ + 2 : Nat) : Int)
        if l = 93 ∨ l = 37 ∨ l = 91 ∨ l = 45 ∨ l < b then none
        else if at_ + 3 < p.length ∧ rd p ((at_ + 3 : Nat) : Int) = 45 then none
        else pSetL p other n false (at_ + 3) (orC set (fun k => decide (b ≤ (k : Int)) && decide ((k : Int) ≤ l)) 128)
      else pSetL p other n false (at_ + 1) (set.set b.toNat true)
    else none
def pSet (p : List Int) (at_ : Nat) : Option (List Bool × Nat) :=
  if at_ < p.length ∧ rd p at_ = 94 then pSetL p true (p.length + 1) true (at_ + 1) none128 else pSetL p false (p.length + 1) true at_ none128
/-- A class of characters. -/
def pSingle (p : List Int) (at_ : Nat) : Option (List Bool × Nat) :=
  let b := rd p at_
  if b = 46 then some (all128, at_ + 1)
  else if b = 37 then (if p.length ≤ at_ + 1 then none else (pEsc none128 (rd p ((at_ + 1 : Nat) : Int))).map (fun s => (s, at_ + 2)))
  else if b = 91 then pSet p (at_ + 1)
  else if b = 93 ∨ b = 42 ∨ b = 43 ∨ b = 45 ∨ b = 63 then none
  else some (none128.set b.toNat true, at_ + 1)
/-- The reader. -/
structure RSt where
  at_ : Nat
  opn : List Int
  items : List S147
  caps : Nat
def RSt.add (s : RSt) (x : S147) (far : Nat) : RSt := { s with items := s.items ++ [x], at_ := s.at_ + far }
def pCapture (t : List Int) (s : RSt) : Option RSt :=
  if s.caps = 9 then none
  else if s.at_ + 1 < t.length ∧ rd t ((s.at_ + 1 : Nat) : Int) = 41 then some (({ s with caps := s.caps + 1 } : RSt).add ⟨4, [], 0, s.caps + 1, 0, 0⟩ 2)
  else some (({ s with caps := s.caps + 1, opn := s.opn ++ [(s.caps : Int) + 1] } : RSt).add ⟨2, [], 0, s.caps + 1, 0, 0⟩ 1)
def pClosing (s : RSt) : Option RSt :=
  match s.opn.getLast? with
  | none => none
  | some i => some (({ s with opn := s.opn.dropLast } : RSt).add ⟨3, [], 0, i, 0, 0⟩ 1)
/-- An item told by a %: none: it is none; some none: it is not given. -/
def pSpecial (t : List Int) (s : RSt) : Option (Option RSt) :=
  if rd t s.at_ ≠ 37 ∨ t.length ≤ s.at_ + 1 then none
  else
    let b := rd t ((s.at_ + 1 : Nat) : Int)
    if b = 102 ∨ b = 48 then some none
    else if b = 98 then
      if t.length ≤ s.at_ + 3 ∨ rd t ((s.at_ + 2 : Nat) : Int) = rd t ((s.at_ + 3 : Nat) : Int) then some none
      else some (some (s.add ⟨6, [], 0, 0, rd t ((s.at_ + 2 : Nat) : Int), rd t ((s.at_ + 3 : Nat) : Int)⟩ 4))
    else if digit b then
      if (s.caps : Int) < b - 48 ∨ (b - 48) ∈ s.opn then some none
      else some (some (s.add ⟨5, [], 0, b - 48, 0, 0⟩ 2))
    else none
def isRep (b : Int) : Prop := b = 42 ∨ b = 43 ∨ b = 45 ∨ b = 63
instance (b : Int) : Decidable (isRep b) := by unfold isRep; infer_instance
def pItem (t : List Int) (s : RSt) : Option RSt :=
  if rd t s.at_ = 40 then pCapture t s
  else if rd t s.at_ = 41 then pClosing s
  else if rd t s.at_ = 36 ∧ s.at_ + 1 = t.length then some (s.add ⟨7, [], 0, 0, 0, 0⟩ 1)
  else match pSpecial t s with
  | some r => r
  | none =>
    match pSingle t s.at_ with
    | none => none
    | some (set, behind) =>
      if behind < t.length ∧ isRep (rd t behind) then some (s.add ⟨1, set, rd t behind, 0, 0, 0⟩ (behind + 1 - s.at_))
      else some (s.add ⟨1, set, 32, 0, 0, 0⟩ (behind - s.at_))
def pItems (t : List Int) : Nat → RSt → Option RSt
  | 0, _ => none
  | n + 1, s => if s.at_ < t.length then (match pItem t s with | none => none | some s' => pItems t n s') else some s
/-- A pattern read: whether it is anchored, its items, the number of its captures. -/
def pRead (t : List Int) : Option (Bool × List S147 × Nat) :=
  if 40 < t.length ∨ t.any (fun x => decide (127 < x)) ∨ t.any (fun x => x == 0) then none
  else
    let anchor := decide (0 < t.length ∧ rd t 0 = 94)
    match pItems t (t.length + 1) ⟨if anchor then 1 else 0, [], [], 0⟩ with
    | none => none
    | some s => if s.opn = [] then some (anchor, s.items, s.caps) else none
end Go.Proofs.YtpjfjfloeejgiaaFmt.Rf
/- The reference's classes in memory; ptInClass and ptEscaped. -/
set_option linter.unusedVariables false
set_option linter.unusedSimpArgs false
namespace Go.Proofs.YtpjfjfloeejgiaaFmt.Rf
open Go.RowKit Go.Proofs.YtpjfjfloeejgiaaFmtW.PrintWords Go.Proofs.YtpjfjfloeejgiaaFmt.PFnPatternFirst

theorem inC_all : ((List.range 26).all fun c => (List.range 128).all fun b => decide (spec_ptInClass.f 5 ((c : Int) + 97) (b : Int) = some ((inC ((c : Int) + 97) (b : Int)).getD false, (inC ((c : Int) + 97) (b : Int)).isSome))) = true := by kernel_rfl
theorem inC_f {c b : Int} (h0 : 97 ≤ c) (h1 : c ≤ 122) (h2 : 0 ≤ b) (h3 : b ≤ 127) : spec_ptInClass.f 5 c b = some ((inC c b).getD false, (inC c b).isSome) := by
  have h := List.all_eq_true.1 (List.all_eq_true.1 inC_all (c - 97).toNat (List.mem_range.2 (by omega))) b.toNat (List.mem_range.2 (by omega))
  have e1 : (((c - 97).toNat : Nat) : Int) + 97 = c := by omega
  have e2 : ((b.toNat : Nat) : Int) = b := by omega
  rw [e1, e2] at h
  exact of_decide_eq_true h
theorem inC_calls {c b : Int} (w : World) (h0 : 97 ≤ c) (h1 : c ≤ 122) (h2 : 0 ≤ b) (h3 : b ≤ 127) : Calls Tryf.prog 62 #[.int .u8 c, .int .u8 b] w fun e w' => e = .returned (.tuple #[.bool ((inC c b).getD false), .bool (inC c b).isSome]) ∧ Drawn0 w w' :=
  spec_ptInClass.calls 5 c b _ _ w (inC_f h0 h1 h2 h3)
theorem digit_calls {b : Int} (w : World) : Calls Tryf.prog 55 #[.int .u8 b] w fun e w' => e = .returned (.bool (digit b)) ∧ Drawn0 w w' := by
  refine spec_lxIsDigit.calls b _ w ?_
  unfold spec_lxIsDigit.f digit
  by_cases h : b ≥ 48
  · rw [if_pos h]; simp; omega
  · rw [if_neg h]; simp; omega
theorem letter_calls {b : Int} (w : World) : Calls Tryf.prog 61 #[.int .u8 b] w fun e w' => e = .returned (.bool (letter b)) ∧ Drawn0 w w' := by
  refine spec_ptIsLetter.calls b _ w ?_
  unfold spec_ptIsLetter.f letter
  split
  · split
    · refine congrArg some ?_; rw [Bool.eq_iff_iff]; simp; omega
    · split
      · refine congrArg some ?_; rw [Bool.eq_iff_iff]; simp; omega
      · refine congrArg some ?_; rw [Bool.eq_iff_iff]; simp; omega
  · split
    · refine congrArg some ?_; rw [Bool.eq_iff_iff]; simp; omega
    · refine congrArg some ?_; rw [Bool.eq_iff_iff]; simp; omega

/-- A class in memory: a row of one's own, of 128 cells. -/
structure SetU (W wr : World) (r c : Nat) (set : List Bool) : Prop where
  b : Below W.heap.size W wr
  row : Kd.bool.R 4 wr W.heap.size (fun _ => True) (.slice (some ⟨r, 0, none⟩) 128 c) set
  len : set.length = 128
section
variable {W wr w1 : World} {r c : Nat} {set : List Bool}
theorem SetU.drewN (h : SetU W wr r c set) (m : Nat) : SetU W (wr.drewN m) r c set := ⟨pw_below_drewN h.b m, Kd.R_drewN h.row m, h.len⟩
theorem SetU.at_ (h : SetU W wr r c set) (hd : Drawn0 wr w1) : SetU W w1 r c set := by obtain ⟨m, rfl⟩ := hd; exact h.drewN m
theorem SetU.below (h : SetU W wr r c set) (hb : Below wr.heap.size wr w1) : SetU W w1 r c set := ⟨h.b.trans (hb.mono h.b.size), Kd.R_below h.row hb, h.len⟩
theorem SetU.get (h : SetU W wr r c set) {i : Nat} (hi : i < 128) : wr.cell? ⟨r, i, none⟩ = some (.bool (set.getD i false)) ∧ wr.frozen? ⟨r, i, none⟩ = false := by
  obtain ⟨c1, _, k1, hc1, hf⟩ := Kd.R_elem h.row false (i : Nat) (by omega) (by omega)
  have h1 := hc1 0 (.bool (set.getD i false)) (by
    have : c1 = [.bool (set.getD ((i : Nat) : Int).toNat false)] := k1
    rw [this]; simp)
  have h2 := hf 0
  rw [show Kd.bool.sz = 1 from rfl] at h1 h2
  simp only [Int.toNat_natCast, Nat.mul_one, Nat.add_zero] at h1 h2
  exact ⟨h1, h2⟩
theorem SetU.put (h : SetU W wr r c set) (i : Nat) (x : Bool) : SetU W (wr.setCell ⟨r, i, none⟩ (.bool x)) r c (set.set i x) := by
  have hb : W.heap.size ≤ r := Kd.R_base h.row r rfl
  have h1 := Kd.R_putn h.row (i : Int) x
  simp only [Int.toNat_natCast] at h1
  exact ⟨below_set h.b hb, h1, by rw [List.length_set]; exact h.len⟩
end
theorem orC_len (set : List Bool) (f : Nat → Bool) (n : Nat) : (orC set f n).length = 128 := by simp [orC]
theorem orC_zero {set : List Bool} (h : set.length = 128) (f : Nat → Bool) : orC set f 0 = set := by
  apply List.ext_getElem
  · rw [orC_len, h]
  · intro i h1 h2
    simp [orC, List.getD_eq_getElem?_getD, h2]
theorem orC_yes {set : List Bool} (f : Nat → Bool) {n : Nat} (hn : n < 128) (hf : f n = true) : orC set f (n + 1) = (orC set f n).set n true := by
  apply List.ext_getElem
  · rw [List.length_set, orC_len, orC_len]
  · intro i h1 h2
    rw [List.getElem_set]
    by_cases hi : n = i
    · subst hi; simp [orC, hf]
    · rw [if_neg hi]
      have : (i < n + 1 ↔ i < n) := by omega
      simp [orC, this]
theorem orC_no {set : List Bool} (f : Nat → Bool) {n : Nat} (hf : f n = false) : orC set f (n + 1) = orC set f n := by
  apply List.ext_getElem
  · rw [orC_len, orC_len]
  · intro i h1 h2
    by_cases hi : n = i
    · subst hi; simp [orC, hf]
    · have : (i < n + 1 ↔ i < n) := by omega
      simp [orC, this]
end Go.Proofs.YtpjfjfloeejgiaaFmt.Rf
/- ptEscaped of package spec: the walk. -/
set_option linter.unusedVariables false
set_option linter.unusedSimpArgs false
namespace Go.Proofs.YtpjfjfloeejgiaaFmt.Rf
open Go.RowKit Go.Proofs.YtpjfjfloeejgiaaFmtW.PrintWords Go.Proofs.YtpjfjfloeejgiaaFmt.PFnPatternFirst

/-- At the head of ptEscaped's loop. -/
def AtEsc (r c i : Nat) (b s : Int) (R : World → Prop) (a : Act) (w : World) : Prop :=
  a.tmps.size = 49 ∧ a.defers = [] ∧ (a.tmps.getD 0 undef = .slice (some ⟨r, 0, none⟩) 128 c ∧ a.tmps.getD 1 undef = .int .u8 b ∧ a.tmps.getD 5 undef = .int .u8 s ∧ a.tmps.getD 27 undef = .int .i64 128 ∧ a.tmps.getD 28 undef = .int .i64 (i : Int)) ∧ R w
set_option maxRecDepth 100000 in
theorem AtEsc.open_ {r c i : Nat} {b s : Int} {R : World → Prop} {a : Act} {w : World} (h : AtEsc r c i b s R a w) : (∃ u : Nat → Value, a = ⟨#[.slice (some ⟨r, 0, none⟩) 128 c, .int .u8 b, u 2, u 3, u 4, .int .u8 s, u 6, u 7, u 8, u 9, u 10, u 11, u 12, u 13, u 14, u 15, u 16, u 17, u 18, u 19, u 20, u 21, u 22, u 23, u 24, u 25, u 26, .int .i64 128, .int .i64 (i : Int), u 29, u 30, u 31, u 32, u 33, u 34, u 35, u 36, u 37, u 38, u 39, u 40, u 41, u 42, u 43, u 44, u 45, u 46, u 47, u 48], []⟩) ∧ R w := by
  obtain ⟨tmps, defers⟩ := a
  obtain ⟨hs, hd, ⟨h0, h1, h5, h27, h28⟩, hR⟩ := h
  refine ⟨⟨fun i => tmps.getD i undef, ?_⟩, hR⟩
  have hd' : defers = [] := hd
  subst hd'
  have k0 : tmps.getD 0 undef = .slice (some ⟨r, 0, none⟩) 128 c := h0
  have k1 : tmps.getD 1 undef = .int .u8 b := h1
  have k5 : tmps.getD 5 undef = .int .u8 s := h5
  have k27 : tmps.getD 27 undef = .int .i64 128 := h27
  have k28 : tmps.getD 28 undef = .int .i64 (i : Int) := h28
  have h := frame_lit 49 tmps hs
  have h2 : ((List.range 49).map (fun i => tmps.getD i undef)).toArray = #[tmps.getD 0 undef, tmps.getD 1 undef, tmps.getD 2 undef, tmps.getD 3 undef, tmps.getD 4 undef, tmps.getD 5 undef, tmps.getD 6 undef, tmps.getD 7 undef, tmps.getD 8 undef, tmps.getD 9 undef, tmps.getD 10 undef, tmps.getD 11 undef, tmps.getD 12 undef, tmps.getD 13 undef, tmps.getD 14 undef, tmps.getD 15 undef, tmps.getD 16 undef, tmps.getD 17 undef, tmps.getD 18 undef, tmps.getD 19 undef, tmps.getD 20 undef, tmps.getD 21 undef, tmps.getD 22 undef, tmps.getD 23 undef, tmps.getD 24 undef, tmps.getD 25 undef, tmps.getD 26 undef, tmps.getD 27 undef, tmps.getD 28 undef, tmps.getD 29 undef, tmps.getD 30 undef, tmps.getD 31 undef, tmps.getD 32 undef, tmps.getD 33 undef, tmps.getD 34 undef, tmps.getD 35 undef, tmps.getD 36 undef, tmps.getD 37 undef, tmps.getD 38 undef, tmps.getD 39 undef, tmps.getD 40 undef, tmps.getD 41 undef, tmps.getD 42 undef, tmps.getD 43 undef, tmps.getD 44 undef, tmps.getD 45 undef, tmps.getD 46 undef, tmps.getD 47 undef, tmps.getD 48 undef] := rfl
  rw [h2] at h
  rw [k0, k1, k5, k27, k28] at h
  exact congrArg (fun t => Act.mk t _) h
theorem and127 {b : Int} (h0 : 0 ≤ b) (h1 : b ≤ 127) : bits .and .u8 b 127 = b := by
  have h : ((List.range 128).all fun n => decide (bits .and .u8 (n : Int) 127 = (n : Int))) = true := by kernel_rfl
  have := of_decide_eq_true (List.all_eq_true.1 h b.toNat (List.mem_range.2 (by omega)))
  rwa [Int.toNat_of_nonneg h0] at this
theorem inC_none {s k : Int} : (inC s k).isNone = (inC s 0).isNone := by
  unfold inC
  simp only
  repeat' split
  all_goals first | rfl | omega
section
variable {W wr : World} {r c : Nat} {set : List Bool} {b : Int}
set_option maxHeartbeats 40000000 in
set_option maxRecDepth 100000 in
theorem esc_any (h : SetU W wr r c set) (h0 : 0 ≤ b) (h1 : b ≤ 127) :
    Calls Tryf.prog 58 #[.slice (some ⟨r, 0, none⟩) 128 c, .int .u8 b] wr fun e w' => ∃ set', e = .returned (.bool (pEsc set b).isSome) ∧ SetU W w' r c set' ∧ ∀ s, pEsc set b = some s → set' = s := by
  have H := Aside0.mk h
  clear h
  by_cases hd : digit b = true
  · have hp : pEsc set b = none := by unfold pEsc; rw [if_pos hd]
    rw [hp]
    go_enter Tryf.func58, Tryf.ntmps58
    go_wp2_with fail
    refine (digit_calls _).mono ?_
    rintro e w2 ⟨he, hw⟩
    subst he
    rw [hd]
    have H2 := Aside0.mk (H.out.at_ hw)
    clear hw hd hp
    go_wp2_with fail
    go_ret
    exact ⟨_, rfl, H2.out, fun s hs => (nomatch hs)⟩
  have hd' : digit b = false := by simpa using hd
  by_cases hl : letter b = false
  · have hp : pEsc set b = some (set.set b.toNat true) := by unfold pEsc; rw [if_neg hd, if_pos hl, if_pos (by omega)]
    rw [hp]
    have ha := and127 h0 h1
    have h128 : decide (b < 128) = true := by simp; omega
    go_enter Tryf.func58, Tryf.ntmps58
    go_wp2_with fail
    refine (digit_calls _).mono ?_
    rintro e w2 ⟨he, hw⟩
    subst he
    rw [hd']
    have H2 := Aside0.mk (H.out.at_ hw)
    clear hw hp hd hd'
    go_wp2_with fail
    refine (letter_calls _).mono ?_
    rintro e w3 ⟨he, hw⟩
    subst he
    rw [hl]
    have h3 := H2.out.at_ hw
    obtain ⟨e1, f1⟩ := h3.get (i := b.toNat) (by omega)
    have hP := h3.put b.toNat true
    have HP := Aside0.mk hP
    clear hw hl h3 hP H2
    go_wp2_with fail
    go_ret
    exact ⟨_, rfl, HP.out, fun s hs => Option.some.inj hs⟩
  · have hl' : letter b = true := by simpa using hl
    obtain ⟨s, hs⟩ : ∃ s, (if b ≤ 90 then b + 32 else b) = s := ⟨_, rfl⟩
    have hsr : 97 ≤ s ∧ s ≤ 122 := by
      rw [← hs]
      unfold letter at hl'
      simp at hl'
      split <;> omega
    have hp : pEsc set b = if (inC s 0).isNone then none else some (orC set (fun k => inC s k == some (s == b)) 128) := by
      unfold pEsc
      rw [if_neg hd, if_neg hl]
      simp only [hs]
    generalize pEsc set b = res at hp ⊢
    have HP := Aside0.mk hp
    have hle : decide (b ≤ 90) = true ∨ decide (b ≤ 90) = false := by cases decide (b ≤ 90) <;> simp
    go_enter Tryf.func58, Tryf.ntmps58
    go_wp2_with fail
    refine (digit_calls _).mono ?_
    rintro e w2 ⟨he, hw⟩
    subst he
    rw [hd']
    have H2 := Aside0.mk (H.out.at_ hw)
    clear hw hp hd hd' H
    go_wp2_with fail
    refine (letter_calls _).mono ?_
    rintro e w3 ⟨he, hw⟩
    subst he
    rw [hl']
    have H3 := Aside0.mk (H2.out.at_ hw)
    have HSR := Aside0.mk hsr
    clear hw hl hl' H2 hle hsr
    go_upto_if 22 with (fail)
    go_cut [5] from 23 to 26 (fun v wc => v = .int .u8 s ∧ wc = w3)
    case first =>
      by_cases hle : b ≤ 90
      · have hs2 : b + 32 = s := by rw [if_pos hle] at hs; exact hs
        have q1 : IntKind.u8.wrap (b - 65) = IntKind.u8.wrap (b - 65) := rfl
        have q2 : IntKind.u8.wrap (IntKind.u8.wrap (b - 65) + 97) = s := by
          have := HSR.out
          simp [IntKind.wrap_u8]
          omega
        have Q2 := Aside0.mk q2
        clear hs hs2 q1 q2
        go_wp2
        go_meet
        case rel =>
          refine ⟨?_, rfl⟩
          have := Q2.out
          simp only [IntKind.wrap_u8] at this ⊢
          simpa using this
      · have hs2 : b = s := by rw [if_neg hle] at hs; exact hs
        have HS2 := Aside0.mk hs2
        clear hs hs2
        go_wp2
        go_meet
        case rel => exact ⟨by rw [HS2.out], rfl⟩
    obtain ⟨rfl, rfl⟩ := hcut
    clear hs
    go_wp2_with fail
    refine wp_loop_ghost_k (fun k a wr2 => ∃ (i : Nat), i + k = 128 ∧ AtEsc r c i b s (fun wr2 => SetU W wr2 r c (orC set (fun k => inC s k == some (s == b)) i) ∧ ((inC s 0).isNone = true → i = 0)) a wr2) 128 ⟨0, rfl, rfl, rfl, ⟨rfl, rfl, rfl, rfl, rfl⟩, ⟨by rw [orC_zero H3.out.len]; exact H3.out, fun _ => rfl⟩⟩ ?_
    clear H3
    intro gk a wr2 hI J K hJ hK
    obtain ⟨i, hik, hI⟩ := hI
    obtain ⟨⟨u, rfl⟩, hset, hnone⟩ := hI.open_
    clear hI
    cases gk with
    | zero =>
      have hi : i = 128 := by omega
      subst hi
      have hsome : ¬ (inC s 0).isNone = true := fun h => by have := hnone h; omega
      have hp := HP.out
      rw [if_neg hsome] at hp
      subst hp
      have HX := Aside0.mk hset
      clear hset hnone hsome
      go_wp2
      go_ret
      first
        | exact ⟨_, rfl, HX.out, fun s hs => Option.some.inj hs⟩
        | exact ⟨rfl, HX.out⟩
    | succ gk =>
      have hlt : i < 128 := by omega
      have hltI : (i : Int) < 128 := by omega
      have hwi : IntKind.u8.wrap (i : Int) = (i : Int) := IntWalk.u8_in _ (by omega)
      have qi : IntKind.i64.wrap ((i : Int) + 1) = (i : Int) + 1 := IntWalk.i64_in _ (by omega)
      have hnn : (inC s i).isNone = (inC s 0).isNone := inC_none
      have HSET := Aside0.mk hset
      have HNN := Aside0.mk hnn
      have HNO := Aside0.mk hnone
      clear hset hnone hnn
      go_wp2_with fail
      refine (inC_calls _ HSR.out.1 HSR.out.2 (by omega) (by omega)).mono ?_
      rintro e w4 ⟨he, hw⟩
      subst he
      have h4 := HSET.out.at_ hw
      obtain ⟨e1, f1⟩ := h4.get hlt
      have H4 := Aside0.mk h4
      clear hw h4 HSET
      cases hin : inC s (i : Int) with
      | none =>
        have hp := HP.out
        rw [if_pos (by rw [← HNN.out, hin]; rfl)] at hp
        subst hp
        clear hin
        go_wp2_with fail
        go_ret
        exact ⟨_, rfl, H4.out, fun s hs => (nomatch hs)⟩
      | some v =>
        have hns : (inC s 0).isNone = false := by rw [← HNN.out, hin]; rfl
        have HNS := Aside0.mk (show (inC s 0).isNone = true → i + 1 = 0 from fun h => by rw [hns] at h; cases h)
        cases hv : (v == (s == b)) with
        | true =>
          have hf : (fun k : Nat => inC s k == some (s == b)) i = true := by
            show (inC s i == some (s == b)) = true
            rw [hin]; exact hv
          have hset := H4.out.put i true
          rw [← orC_yes _ hlt hf] at hset
          have HSET := Aside0.mk hset
          clear hin hset hf hns
          go_wp2_with fail
          exact Handed.intro gk (by omega) (hJ _ _ _ ⟨i + 1, by omega, rfl, rfl, ⟨rfl, rfl, rfl, rfl, congrArg (Value.int .i64) (Int.natCast_succ i).symm⟩, ⟨HSET.out, HNS.out⟩⟩)
        | false =>
          have hf : (fun k : Nat => inC s k == some (s == b)) i = false := by
            show (inC s i == some (s == b)) = false
            rw [hin]; exact hv
          have hset := H4.out
          rw [← orC_no _ hf] at hset
          have HSET := Aside0.mk hset
          clear hin hset hf hns
          go_wp2_with fail
          exact Handed.intro gk (by omega) (hJ _ _ _ ⟨i + 1, by omega, rfl, rfl, ⟨rfl, rfl, rfl, rfl, congrArg (Value.int .i64) (Int.natCast_succ i).symm⟩, ⟨HSET.out, HNS.out⟩⟩)
end
end Go.Proofs.YtpjfjfloeejgiaaFmt.Rf
/- ptSet of package spec: the walk. -/
set_option linter.unusedVariables false
set_option linter.unusedSimpArgs false
namespace Go.Proofs.YtpjfjfloeejgiaaFmt.Rf
open Go.RowKit Go.Proofs.YtpjfjfloeejgiaaFmtW.PrintWords Go.Proofs.YtpjfjfloeejgiaaFmt.PFnPatternFirst

/-- At the head of ptSet's loop. -/
def AtPs (s : ByteArray) (r c i : Nat) (other first : Bool) (R : World → Prop) (a : Act) (w : World) : Prop :=
  a.tmps.size = 167 ∧ a.defers = [] ∧ (a.tmps.getD 0 undef = .string s ∧ a.tmps.getD 1 undef = .int .i64 (i : Int) ∧ a.tmps.getD 7 undef = .slice (some ⟨r, 0, none⟩) 128 c ∧ a.tmps.getD 8 undef = .bool other ∧ a.tmps.getD 9 undef = .bool first) ∧ R w
set_option maxRecDepth 100000 in
theorem AtPs.open_ {s : ByteArray} {r c i : Nat} {other first : Bool} {R : World → Prop} {a : Act} {w : World} (h : AtPs s r c i other first R a w) : (∃ u : Nat → Value, a = ⟨#[.string s, .int .i64 (i : Int), u 2, u 3, u 4, u 5, u 6, .slice (some ⟨r, 0, none⟩) 128 c, .bool other, .bool first, u 10, u 11, u 12, u 13, u 14, u 15, u 16, u 17, u 18, u 19, u 20, u 21, u 22, u 23, u 24, u 25, u 26, u 27, u 28, u 29, u 30, u 31, u 32, u 33, u 34, u 35, u 36, u 37, u 38, u 39, u 40, u 41, u 42, u 43, u 44, u 45, u 46, u 47, u 48, u 49, u 50, u 51, u 52, u 53, u 54, u 55, u 56, u 57, u 58, u 59, u 60, u 61, u 62, u 63, u 64, u 65, u 66, u 67, u 68, u 69, u 70, u 71, u 72, u 73, u 74, u 75, u 76, u 77, u 78, u 79, u 80, u 81, u 82, u 83, u 84, u 85, u 86, u 87, u 88, u 89, u 90, u 91, u 92, u 93, u 94, u 95, u 96, u 97, u 98, u 99, u 100, u 101, u 102, u 103, u 104, u 105, u 106, u 107, u 108, u 109, u 110, u 111, u 112, u 113, u 114, u 115, u 116, u 117, u 118, u 119, u 120, u 121, u 122, u 123, u 124, u 125, u 126, u 127, u 128, u 129, u 130, u 131, u 132, u 133, u 134, u 135, u 136, u 137, u 138, u 139, u 140, u 141, u 142, u 143, u 144, u 145, u 146, u 147, u 148, u 149, u 150, u 151, u 152, u 153, u 154, u 155, u 156, u 157, u 158, u 159, u 160, u 161, u 162, u 163, u 164, u 165, u 166], []⟩) ∧ R w := by
  obtain ⟨tmps, defers⟩ := a
  obtain ⟨hs, hd, ⟨h0, h1, h7, h8, h9⟩, hR⟩ := h
  refine ⟨⟨fun i => tmps.getD i undef, ?_⟩, hR⟩
  have hd' : defers = [] := hd
  subst hd'
  have k0 : tmps.getD 0 undef = .string s := h0
  have k1 : tmps.getD 1 undef = .int .i64 (i : Int) := h1
  have k7 : tmps.getD 7 undef = .slice (some ⟨r, 0, none⟩) 128 c := h7
  have k8 : tmps.getD 8 undef = .bool other := h8
  have k9 : tmps.getD 9 undef = .bool first := h9
  have h := frame_lit 167 tmps hs
  have h2 : ((List.range 167).map (fun i => tmps.getD i undef)).toArray = #[tmps.getD 0 undef, tmps.getD 1 undef, tmps.getD 2 undef, tmps.getD 3 undef, tmps.getD 4 undef, tmps.getD 5 undef, tmps.getD 6 undef, tmps.getD 7 undef, tmps.getD 8 undef, tmps.getD 9 undef, tmps.getD 10 undef, tmps.getD 11 undef, tmps.getD 12 undef, tmps.getD 13 undef, tmps.getD 14 undef, tmps.getD 15 undef, tmps.getD 16 undef, tmps.getD 17 undef, tmps.getD 18 undef, tmps.getD 19 undef, tmps.getD 20 undef, tmps.getD 21 undef, tmps.getD 22 undef, tmps.getD 23 undef, tmps.getD 24 undef, tmps.getD 25 undef, tmps.getD 26 undef, tmps.getD 27 undef, tmps.getD 28 undef, tmps.getD 29 undef, tmps.getD 30 undef, tmps.getD 31 undef, tmps.getD 32 undef, tmps.getD 33 undef, tmps.getD 34 undef, tmps.getD 35 undef, tmps.getD 36 undef, tmps.getD 37 undef, tmps.getD 38 undef, tmps.getD 39 undef, tmps.getD 40 undef, tmps.getD 41 undef, tmps.getD 42 undef, tmps.getD 43 undef, tmps.getD 44 undef, tmps.getD 45 undef, tmps.getD 46 undef, tmps.getD 47 undef, tmps.getD 48 undef, tmps.getD 49 undef, tmps.getD 50 undef, tmps.getD 51 undef, tmps.getD 52 undef, tmps.getD 53 undef, tmps.getD 54 undef, tmps.getD 55 undef, tmps.getD 56 undef, tmps.getD 57 undef, tmps.getD 58 undef, tmps.getD 59 undef, tmps.getD 60 undef, tmps.getD 61 undef, tmps.getD 62 undef, tmps.getD 63 undef, tmps.getD 64 undef, tmps.getD 65 undef, tmps.getD 66 undef, tmps.getD 67 undef, tmps.getD 68 undef, tmps.getD 69 undef, tmps.getD 70 undef, tmps.getD 71 undef, tmps.getD 72 undef, tmps.getD 73 undef, tmps.getD 74 undef, tmps.getD 75 undef, tmps.getD 76 undef, tmps.getD 77 undef, tmps.getD 78 undef, tmps.getD 79 undef, tmps.getD 80 undef, tmps.getD 81 undef, tmps.getD 82 undef, tmps.getD 83 undef, tmps.getD 84 undef, tmps.getD 85 undef, tmps.getD 86 undef, tmps.getD 87 undef, tmps.getD 88 undef, tmps.getD 89 undef, tmps.getD 90 undef, tmps.getD 91 undef, tmps.getD 92 undef, tmps.getD 93 undef, tmps.getD 94 undef, tmps.getD 95 undef, tmps.getD 96 undef, tmps.getD 97 undef, tmps.getD 98 undef, tmps.getD 99 undef, tmps.getD 100 undef, tmps.getD 101 undef, tmps.getD 102 undef, tmps.getD 103 undef, tmps.getD 104 undef, tmps.getD 105 undef, tmps.getD 106 undef, tmps.getD 107 undef, tmps.getD 108 undef, tmps.getD 109 undef, tmps.getD 110 undef, tmps.getD 111 undef, tmps.getD 112 undef, tmps.getD 113 undef, tmps.getD 114 undef, tmps.getD 115 undef, tmps.getD 116 undef, tmps.getD 117 undef, tmps.getD 118 undef, tmps.getD 119 undef, tmps.getD 120 undef, tmps.getD 121 undef, tmps.getD 122 undef, tmps.getD 123 undef, tmps.getD 124 undef, tmps.getD 125 undef, tmps.getD 126 undef, tmps.getD 127 undef, tmps.getD 128 undef, tmps.getD 129 undef, tmps.getD 130 undef, tmps.getD 131 undef, tmps.getD 132 undef, tmps.getD 133 undef, tmps.getD 134 undef, tmps.getD 135 undef, tmps.getD 136 undef, tmps.getD 137 undef, tmps.getD 138 undef, tmps.getD 139 undef, tmps.getD 140 undef, tmps.getD 141 undef, tmps.getD 142 undef, tmps.getD 143 undef, tmps.getD 144 undef, tmps.getD 145 undef, tmps.getD 146 undef, tmps.getD 147 undef, tmps.getD 148 undef, tmps.getD 149 undef, tmps.getD 150 undef, tmps.getD 151 undef, tmps.getD 152 undef, tmps.getD 153 undef, tmps.getD 154 undef, tmps.getD 155 undef, tmps.getD 156 undef, tmps.getD 157 undef, tmps.getD 158 undef, tmps.getD 159 undef, tmps.getD 160 undef, tmps.getD 161 undef, tmps.getD 162 undef, tmps.getD 163 undef, tmps.getD 164 undef, tmps.getD 165 undef, tmps.getD 166 undef] := rfl
  rw [h2] at h
  rw [k0, k1, k7, k8, k9] at h
  exact congrArg (fun t => Act.mk t _) h
/-- At the head of the loop that takes the complement. -/
def AtPn (s : ByteArray) (r c i j : Nat) (other first : Bool) (R : World → Prop) (a : Act) (w : World) : Prop :=
  a.tmps.size = 167 ∧ a.defers = [] ∧ (a.tmps.getD 0 undef = .string s ∧ a.tmps.getD 1 undef = .int .i64 (i : Int) ∧ a.tmps.getD 7 undef = .slice (some ⟨r, 0, none⟩) 128 c ∧ a.tmps.getD 8 undef = .bool other ∧ a.tmps.getD 9 undef = .bool first ∧ a.tmps.getD 46 undef = .int .i64 128 ∧ a.tmps.getD 47 undef = .int .i64 (j : Int)) ∧ R w
set_option maxRecDepth 100000 in
theorem AtPn.open_ {s : ByteArray} {r c i j : Nat} {other first : Bool} {R : World → Prop} {a : Act} {w : World} (h : AtPn s r c i j other first R a w) : (∃ u : Nat → Value, a = ⟨#[.string s, .int .i64 (i : Int), u 2, u 3, u 4, u 5, u 6, .slice (some ⟨r, 0, none⟩) 128 c, .bool other, .bool first, u 10, u 11, u 12, u 13, u 14, u 15, u 16, u 17, u 18, u 19, u 20, u 21, u 22, u 23, u 24, u 25, u 26, u 27, u 28, u 29, u 30, u 31, u 32, u 33, u 34, u 35, u 36, u 37, u 38, u 39, u 40, u 41, u 42, u 43, u 44, u 45, .int .i64 128, .int .i64 (j : Int), u 48, u 49, u 50, u 51, u 52, u 53, u 54, u 55, u 56, u 57, u 58, u 59, u 60, u 61, u 62, u 63, u 64, u 65, u 66, u 67, u 68, u 69, u 70, u 71, u 72, u 73, u 74, u 75, u 76, u 77, u 78, u 79, u 80, u 81, u 82, u 83, u 84, u 85, u 86, u 87, u 88, u 89, u 90, u 91, u 92, u 93, u 94, u 95, u 96, u 97, u 98, u 99, u 100, u 101, u 102, u 103, u 104, u 105, u 106, u 107, u 108, u 109, u 110, u 111, u 112, u 113, u 114, u 115, u 116, u 117, u 118, u 119, u 120, u 121, u 122, u 123, u 124, u 125, u 126, u 127, u 128, u 129, u 130, u 131, u 132, u 133, u 134, u 135, u 136, u 137, u 138, u 139, u 140, u 141, u 142, u 143, u 144, u 145, u 146, u 147, u 148, u 149, u 150, u 151, u 152, u 153, u 154, u 155, u 156, u 157, u 158, u 159, u 160, u 161, u 162, u 163, u 164, u 165, u 166], []⟩) ∧ R w := by
  obtain ⟨tmps, defers⟩ := a
  obtain ⟨hs, hd, ⟨h0, h1, h7, h8, h9, h46, h47⟩, hR⟩ := h
  refine ⟨⟨fun i => tmps.getD i undef, ?_⟩, hR⟩
  have hd' : defers = [] := hd
  subst hd'
  have k0 : tmps.getD 0 undef = .string s := h0
  have k1 : tmps.getD 1 undef = .int .i64 (i : Int) := h1
  have k7 : tmps.getD 7 undef = .slice (some ⟨r, 0, none⟩) 128 c := h7
  have k8 : tmps.getD 8 undef = .bool other := h8
  have k9 : tmps.getD 9 undef = .bool first := h9
  have k46 : tmps.getD 46 undef = .int .i64 128 := h46
  have k47 : tmps.getD 47 undef = .int .i64 (j : Int) := h47
  have h := frame_lit 167 tmps hs
  have h2 : ((List.range 167).map (fun i => tmps.getD i undef)).toArray = #[tmps.getD 0 undef, tmps.getD 1 undef, tmps.getD 2 undef, tmps.getD 3 undef, tmps.getD 4 undef, tmps.getD 5 undef, tmps.getD 6 undef, tmps.getD 7 undef, tmps.getD 8 undef, tmps.getD 9 undef, tmps.getD 10 undef, tmps.getD 11 undef, tmps.getD 12 undef, tmps.getD 13 undef, tmps.getD 14 undef, tmps.getD 15 undef, tmps.getD 16 undef, tmps.getD 17 undef, tmps.getD 18 undef, tmps.getD 19 undef, tmps.getD 20 undef, tmps.getD 21 undef, tmps.getD 22 undef, tmps.getD 23 undef, tmps.getD 24 undef, tmps.getD 25 undef, tmps.getD 26 undef, tmps.getD 27 undef, tmps.getD 28 undef, tmps.getD 29 undef, tmps.getD 30 undef, tmps.getD 31 undef, tmps.getD 32 undef, tmps.getD 33 undef, tmps.getD 34 undef, tmps.getD 35 undef, tmps.getD 36 undef, tmps.getD 37 undef, tmps.getD 38 undef, tmps.getD 39 undef, tmps.getD 40 undef, tmps.getD 41 undef, tmps.getD 42 undef, tmps.getD 43 undef, tmps.getD 44 undef, tmps.getD 45 undef, tmps.getD 46 undef, tmps.getD 47 undef, tmps.getD 48 undef, tmps.getD 49 undef, tmps.getD 50 undef, tmps.getD 51 undef, tmps.getD 52 undef, tmps.getD 53 undef, tmps.getD 54 undef, tmps.getD 55 undef, tmps.getD 56 undef, tmps.getD 57 undef, tmps.getD 58 undef, tmps.getD 59 undef, tmps.getD 60 undef, tmps.getD 61 undef, tmps.getD 62 undef, tmps.getD 63 undef, tmps.getD 64 undef, tmps.getD 65 undef, tmps.getD 66 undef, tmps.getD 67 undef, tmps.getD 68 undef, tmps.getD 69 undef, tmps.getD 70 undef, tmps.getD 71 undef, tmps.getD 72 undef, tmps.getD 73 undef, tmps.getD 74 undef, tmps.getD 75 undef, tmps.getD 76 undef, tmps.getD 77 undef, tmps.getD 78 undef, tmps.getD 79 undef, tmps.getD 80 undef, tmps.getD 81 undef, tmps.getD 82 undef, tmps.getD 83 undef, tmps.getD 84 undef, tmps.getD 85 undef, tmps.getD 86 undef, tmps.getD 87 undef, tmps.getD 88 undef, tmps.getD 89 undef, tmps.getD 90 undef, tmps.getD 91 undef, tmps.getD 92 undef, tmps.getD 93 undef, tmps.getD 94 undef, tmps.getD 95 undef, tmps.getD 96 undef, tmps.getD 97 undef, tmps.getD 98 undef, tmps.getD 99 undef, tmps.getD 100 undef, tmps.getD 101 undef, tmps.getD 102 undef, tmps.getD 103 undef, tmps.getD 104 undef, tmps.getD 105 undef, tmps.getD 106 undef, tmps.getD 107 undef, tmps.getD 108 undef, tmps.getD 109 undef, tmps.getD 110 undef, tmps.getD 111 undef, tmps.getD 112 undef, tmps.getD 113 undef, tmps.getD 114 undef, tmps.getD 115 undef, tmps.getD 116 undef, tmps.getD 117 undef, tmps.getD 118 undef, tmps.getD 119 undef, tmps.getD 120 undef, tmps.getD 121 undef, tmps.getD 122 undef, tmps.getD 123 undef, tmps.getD 124 undef, tmps.getD 125 undef, tmps.getD 126 undef, tmps.getD 127 undef, tmps.getD 128 undef, tmps.getD 129 undef, tmps.getD 130 undef, tmps.getD 131 undef, tmps.getD 132 undef, tmps.getD 133 undef, tmps.getD 134 undef, tmps.getD 135 undef, tmps.getD 136 undef, tmps.getD 137 undef, tmps.getD 138 undef, tmps.getD 139 undef, tmps.getD 140 undef, tmps.getD 141 undef, tmps.getD 142 undef, tmps.getD 143 undef, tmps.getD 144 undef, tmps.getD 145 undef, tmps.getD 146 undef, tmps.getD 147 undef, tmps.getD 148 undef, tmps.getD 149 undef, tmps.getD 150 undef, tmps.getD 151 undef, tmps.getD 152 undef, tmps.getD 153 undef, tmps.getD 154 undef, tmps.getD 155 undef, tmps.getD 156 undef, tmps.getD 157 undef, tmps.getD 158 undef, tmps.getD 159 undef, tmps.getD 160 undef, tmps.getD 161 undef, tmps.getD 162 undef, tmps.getD 163 undef, tmps.getD 164 undef, tmps.getD 165 undef, tmps.getD 166 undef] := rfl
  rw [h2] at h
  rw [k0, k1, k7, k8, k9, k46, k47] at h
  exact congrArg (fun t => Act.mk t _) h
/-- At the head of the loop over a range. -/
def AtPr (s : ByteArray) (r c i j : Nat) (other first : Bool) (b l : Int) (R : World → Prop) (a : Act) (w : World) : Prop :=
  a.tmps.size = 167 ∧ a.defers = [] ∧ (a.tmps.getD 0 undef = .string s ∧ a.tmps.getD 1 undef = .int .i64 (i : Int) ∧ a.tmps.getD 7 undef = .slice (some ⟨r, 0, none⟩) 128 c ∧ a.tmps.getD 8 undef = .bool other ∧ a.tmps.getD 9 undef = .bool first ∧ a.tmps.getD 10 undef = .int .u8 b ∧ a.tmps.getD 12 undef = .int .u8 l ∧ a.tmps.getD 13 undef = .int .i64 (j : Int)) ∧ R w
set_option maxRecDepth 100000 in
theorem AtPr.open_ {s : ByteArray} {r c i j : Nat} {other first : Bool} {b l : Int} {R : World → Prop} {a : Act} {w : World} (h : AtPr s r c i j other first b l R a w) : (∃ u : Nat → Value, a = ⟨#[.string s, .int .i64 (i : Int), u 2, u 3, u 4, u 5, u 6, .slice (some ⟨r, 0, none⟩) 128 c, .bool other, .bool first, .int .u8 b, u 11, .int .u8 l, .int .i64 (j : Int), u 14, u 15, u 16, u 17, u 18, u 19, u 20, u 21, u 22, u 23, u 24, u 25, u 26, u 27, u 28, u 29, u 30, u 31, u 32, u 33, u 34, u 35, u 36, u 37, u 38, u 39, u 40, u 41, u 42, u 43, u 44, u 45, u 46, u 47, u 48, u 49, u 50, u 51, u 52, u 53, u 54, u 55, u 56, u 57, u 58, u 59, u 60, u 61, u 62, u 63, u 64, u 65, u 66, u 67, u 68, u 69, u 70, u 71, u 72, u 73, u 74, u 75, u 76, u 77, u 78, u 79, u 80, u 81, u 82, u 83, u 84, u 85, u 86, u 87, u 88, u 89, u 90, u 91, u 92, u 93, u 94, u 95, u 96, u 97, u 98, u 99, u 100, u 101, u 102, u 103, u 104, u 105, u 106, u 107, u 108, u 109, u 110, u 111, u 112, u 113, u 114, u 115, u 116, u 117, u 118, u 119, u 120, u 121, u 122, u 123, u 124, u 125, u 126, u 127, u 128, u 129, u 130, u 131, u 132, u 133, u 134, u 135, u 136, u 137, u 138, u 139, u 140, u 141, u 142, u 143, u 144, u 145, u 146, u 147, u 148, u 149, u 150, u 151, u 152, u 153, u 154, u 155, u 156, u 157, u 158, u 159, u 160, u 161, u 162, u 163, u 164, u 165, u 166], []⟩) ∧ R w := by
  obtain ⟨tmps, defers⟩ := a
  obtain ⟨hs, hd, ⟨h0, h1, h7, h8, h9, h10, h12, h13⟩, hR⟩ := h
  refine ⟨⟨fun i => tmps.getD i undef, ?_⟩, hR⟩
  have hd' : defers = [] := hd
  subst hd'
  have k0 : tmps.getD 0 undef = .string s := h0
  have k1 : tmps.getD 1 undef = .int .i64 (i : Int) := h1
  have k7 : tmps.getD 7 undef = .slice (some ⟨r, 0, none⟩) 128 c := h7
  have k8 : tmps.getD 8 undef = .bool other := h8
  have k9 : tmps.getD 9 undef = .bool first := h9
  have k10 : tmps.getD 10 undef = .int .u8 b := h10
  have k12 : tmps.getD 12 undef = .int .u8 l := h12
  have k13 : tmps.getD 13 undef = .int .i64 (j : Int) := h13
  have h := frame_lit 167 tmps hs
  have h2 : ((List.range 167).map (fun i => tmps.getD i undef)).toArray = #[tmps.getD 0 undef, tmps.getD 1 undef, tmps.getD 2 undef, tmps.getD 3 undef, tmps.getD 4 undef, tmps.getD 5 undef, tmps.getD 6 undef, tmps.getD 7 undef, tmps.getD 8 undef, tmps.getD 9 undef, tmps.getD 10 undef, tmps.getD 11 undef, tmps.getD 12 undef, tmps.getD 13 undef, tmps.getD 14 undef, tmps.getD 15 undef, tmps.getD 16 undef, tmps.getD 17 undef, tmps.getD 18 undef, tmps.getD 19 undef, tmps.getD 20 undef, tmps.getD 21 undef, tmps.getD 22 undef, tmps.getD 23 undef, tmps.getD 24 undef, tmps.getD 25 undef, tmps.getD 26 undef, tmps.getD 27 undef, tmps.getD 28 undef, tmps.getD 29 undef, tmps.getD 30 undef, tmps.getD 31 undef, tmps.getD 32 undef, tmps.getD 33 undef, tmps.getD 34 undef, tmps.getD 35 undef, tmps.getD 36 undef, tmps.getD 37 undef, tmps.getD 38 undef, tmps.getD 39 undef, tmps.getD 40 undef, tmps.getD 41 undef, tmps.getD 42 undef, tmps.getD 43 undef, tmps.getD 44 undef, tmps.getD 45 undef, tmps.getD 46 undef, tmps.getD 47 undef, tmps.getD 48 undef, tmps.getD 49 undef, tmps.getD 50 undef, tmps.getD 51 undef, tmps.getD 52 undef, tmps.getD 53 undef, tmps.getD 54 undef, tmps.getD 55 undef, tmps.getD 56 undef, tmps.getD 57 undef, tmps.getD 58 undef, tmps.getD 59 undef, tmps.getD 60 undef, tmps.getD 61 undef, tmps.getD 62 undef, tmps.getD 63 undef, tmps.getD 64 undef, tmps.getD 65 undef, tmps.getD 66 undef, tmps.getD 67 undef, tmps.getD 68 undef, tmps.getD 69 undef, tmps.getD 70 undef, tmps.getD 71 undef, tmps.getD 72 undef, tmps.getD 73 undef, tmps.getD 74 undef, tmps.getD 75 undef, tmps.getD 76 undef, tmps.getD 77 undef, tmps.getD 78 undef, tmps.getD 79 undef, tmps.getD 80 undef, tmps.getD 81 undef, tmps.getD 82 undef, tmps.getD 83 undef, tmps.getD 84 undef, tmps.getD 85 undef, tmps.getD 86 undef, tmps.getD 87 undef, tmps.getD 88 undef, tmps.getD 89 undef, tmps.getD 90 undef, tmps.getD 91 undef, tmps.getD 92 undef, tmps.getD 93 undef, tmps.getD 94 undef, tmps.getD 95 undef, tmps.getD 96 undef, tmps.getD 97 undef, tmps.getD 98 undef, tmps.getD 99 undef, tmps.getD 100 undef, tmps.getD 101 undef, tmps.getD 102 undef, tmps.getD 103 undef, tmps.getD 104 undef, tmps.getD 105 undef, tmps.getD 106 undef, tmps.getD 107 undef, tmps.getD 108 undef, tmps.getD 109 undef, tmps.getD 110 undef, tmps.getD 111 undef, tmps.getD 112 undef, tmps.getD 113 undef, tmps.getD 114 undef, tmps.getD 115 undef, tmps.getD 116 undef, tmps.getD 117 undef, tmps.getD 118 undef, tmps.getD 119 undef, tmps.getD 120 undef, tmps.getD 121 undef, tmps.getD 122 undef, tmps.getD 123 undef, tmps.getD 124 undef, tmps.getD 125 undef, tmps.getD 126 undef, tmps.getD 127 undef, tmps.getD 128 undef, tmps.getD 129 undef, tmps.getD 130 undef, tmps.getD 131 undef, tmps.getD 132 undef, tmps.getD 133 undef, tmps.getD 134 undef, tmps.getD 135 undef, tmps.getD 136 undef, tmps.getD 137 undef, tmps.getD 138 undef, tmps.getD 139 undef, tmps.getD 140 undef, tmps.getD 141 undef, tmps.getD 142 undef, tmps.getD 143 undef, tmps.getD 144 undef, tmps.getD 145 undef, tmps.getD 146 undef, tmps.getD 147 undef, tmps.getD 148 undef, tmps.getD 149 undef, tmps.getD 150 undef, tmps.getD 151 undef, tmps.getD 152 undef, tmps.getD 153 undef, tmps.getD 154 undef, tmps.getD 155 undef, tmps.getD 156 undef, tmps.getD 157 undef, tmps.getD 158 undef, tmps.getD 159 undef, tmps.getD 160 undef, tmps.getD 161 undef, tmps.getD 162 undef, tmps.getD 163 undef, tmps.getD 164 undef, tmps.getD 165 undef, tmps.getD 166 undef] := rfl
  rw [h2] at h
  rw [k0, k1, k7, k8, k9, k10, k12, k13] at h
  exact congrArg (fun t => Act.mk t _) h
/-- What ptSet and its like hand back. -/
def SetE (W : World) (o : Option (List Bool × Nat)) (e : Ending) (w' : World) : Prop :=
  match o with
  | none => ∃ n : Int, e = .returned (.tuple #[.slice none 0 0, .int .i64 n, .bool false]) ∧ Below W.heap.size W w'
  | some (set, n) => ∃ r c, e = .returned (.tuple #[.slice (some ⟨r, 0, none⟩) 128 c, .int .i64 (n : Int), .bool true]) ∧ SetU W w' r c set
theorem empty_calls (w : World) : Calls Tryf.prog 57 #[] w fun e w' => ∃ r c, e = .returned (.slice (some ⟨r, 0, none⟩) 128 c) ∧ SetU w w' r c none128 := by
  refine (spec_ptEmpty.calls none128 w (by unfold spec_ptEmpty.f none128; rw [if_pos (by decide)])).mono ?_
  rintro e w' ⟨v, rfl, hR, hB⟩
  obtain ⟨r, c, rfl, _⟩ := Kd.R_form hR (by simp [none128])
  have hl : none128.length = 128 := by simp [none128]
  rw [hl]
  rw [hl] at hR
  exact ⟨r, c, rfl, hB, hR, hl⟩
/-- A class with its first members turned. -/
def negC (set : List Bool) (n : Nat) : List Bool := (List.range 128).map (fun j => if j < n then !(set.getD j false) else set.getD j false)
theorem negC_zero {set : List Bool} (h : set.length = 128) : negC set 0 = set := by
  apply List.ext_getElem
  · simp [negC, h]
  · intro i h1 h2
    simp [negC, List.getD_eq_getElem?_getD, h2]
theorem negC_step {set : List Bool} {n : Nat} (hn : n < 128) : negC set (n + 1) = (negC set n).set n (!((negC set n).getD n false)) := by
  have hd : (negC set n).getD n false = set.getD n false := by simp [negC, List.getD_eq_getElem?_getD, hn]
  rw [hd]
  apply List.ext_getElem
  · simp [negC]
  · intro i h1 h2
    rw [List.getElem_set]
    by_cases hi : n = i
    · subst hi; simp [negC]
    · rw [if_neg hi]
      have : (i < n + 1 ↔ i < n) := by omega
      simp [negC, this]
theorem negC_end {set : List Bool} (h : set.length = 128) : negC set 128 = set.map (!·) := by
  apply List.ext_getElem
  · simp [negC, h]
  · intro i h1 h2
    have h3 : i < 128 := by simpa [negC] using h1
    simp [negC, List.getD_eq_getElem?_getD, h3, h]
theorem orC_low {set : List Bool} {f : Nat → Bool} {n : Nat} (h : ∀ k, k < n → f k = false) : orC set f n = orC set f 0 := by
  unfold orC
  refine List.map_congr_left (fun j _ => ?_)
  by_cases hj : j < n
  · simp [h j hj]
  · simp [hj]
theorem orC_high {set : List Bool} {f : Nat → Bool} {n m : Nat} (h : ∀ k, n ≤ k → k < m → f k = false) (hnm : n ≤ m) : orC set f n = orC set f m := by
  unfold orC
  refine List.map_congr_left (fun j _ => ?_)
  by_cases hj : j < n
  · simp [hj, show j < m by omega]
  · by_cases hj2 : j < m
    · simp [hj, hj2, h j (by omega) hj2]
    · simp [hj, hj2]
/-- A text's bytes, below 128. -/
structure Txt (s : ByteArray) : Prop where
  n : s.size ≤ 1000
  b : ∀ i : Nat, i < s.size → 0 ≤ bt s (i : Int) ∧ bt s (i : Int) ≤ 127
theorem bt_nat (s : ByteArray) (i : Nat) (h : i < s.size) : ((s[i]'h).toNat : Int) = bt s (i : Int) := by have := bt_at s (i : Int) (by simpa using h); simpa using this
section
variable {W wr : World} {r c : Nat} {set : List Bool} {s : ByteArray}
set_option maxHeartbeats 40000000 in
set_option maxRecDepth 100000 in
theorem set_any {i : Nat} (hs : Txt s) (hi : i ≤ s.size) :
    Calls Tryf.prog 59 #[.string s, .int .i64 (i : Int)] wr (SetE wr (pSet (bytesOf s) i)) := by
  have HT := Aside0.mk hs
  obtain ⟨res, hres⟩ : ∃ res, pSet (bytesOf s) i = res := ⟨_, rfl⟩
  rw [hres]
  have hn := hs.n
  have HRES := Aside0.mk hres
  have qi : IntKind.i64.wrap ((i : Int) + 1) = (i : Int) + 1 := IntWalk.i64_in _ (by omega)
  clear hs hres
  go_enter Tryf.func59, Tryf.ntmps59
  go_wp2_with fail
  refine (empty_calls _).mono ?_
  rintro e w2 ⟨r, c, he, h2⟩
  subst he
  have H2 := Aside0.mk h2
  clear h2
  obtain ⟨anc, hanc⟩ : ∃ anc : Bool, decide (i < s.size ∧ bt s i = 94) = anc := ⟨_, rfl⟩
  go_upto_region 2 with (fail)
  go_cut [24] from 15 to 25 (fun v wc => v = .bool anc ∧ wc = w2)
  case first =>
    by_cases hlt : i < s.size
    · have hltI : (i : Int) < (s.size : Int) := by omega
      have hx := bt_nat s i hlt
      have hb : (bt s (i : Int) == 94) = anc := by
        rw [← hanc, Bool.eq_iff_iff]; simp [hlt]
      have HB := Aside0.mk hb
      clear hanc hb
      go_wp2
      go_meet
      case rel => exact ⟨by rw [← HB.out], rfl⟩
    · have hltI : ¬ ((i : Int) < (s.size : Int)) := by omega
      have hb : anc = false := by rw [← hanc]; simp [hlt]
      subst hb
      clear hanc
      go_wp2
      go_meet
      case rel => exact ⟨rfl, rfl⟩
  obtain ⟨rfl, rfl⟩ := hcut
  go_upto_if 24 with (fail)
  obtain ⟨i1, hi1⟩ : ∃ i1, i1 = (if anc then i + 1 else i) := ⟨_, rfl⟩
  go_cut [1, 8] from 25 to 27 (fun a b w3 => a = .int .i64 (i1 : Nat) ∧ b = .bool anc ∧ w3 = wc)
  case first =>
    cases anc with
    | true =>
      have hi2 : i1 = i + 1 := hi1
      subst hi2
      clear hanc
      go_wp2
      go_meet
      case rel => exact ⟨congrArg (Value.int .i64) (Int.natCast_succ i).symm, rfl, rfl⟩
    | false =>
      have hi2 : i1 = i := hi1
      subst hi2
      clear hanc
      go_wp2
      go_meet
      case rel => exact ⟨rfl, rfl, rfl⟩
  obtain ⟨rfl, rfl, rfl⟩ := hcut
  rename_i wc2
  have hres2 : pSetL (bytesOf s) anc (s.size + 1) true i1 none128 = res := by
    rw [← HRES.out, hi1]
    unfold pSet
    rw [bytesOf_length, rd_bytesOf]
    by_cases hx : i < s.size ∧ bt s (i : Int) = 94
    · rw [if_pos hx]
      have : anc = true := by rw [← hanc]; simp [hx]
      subst this
      rfl
    · rw [if_neg hx]
      have : anc = false := by rw [← hanc]; simp only [decide_eq_false_iff_not]; exact hx
      subst this
      rfl
  have hi1le : i1 ≤ s.size := by
    rw [hi1]
    cases anc with
    | true => have := of_decide_eq_true hanc; simp; omega
    | false => simp; omega
  have HRES2 := Aside0.mk hres2
  clear hanc hi1 HRES hres2 qi
  go_wp2_with fail
  refine wp_loop_ghost_k (fun k a wr2 => ∃ (j : Nat) (first : Bool) (set : List Bool), j ≤ s.size ∧ s.size + 1 ≤ j + k ∧ AtPs s r c j anc first (fun wr2 => SetU wr wr2 r c set ∧ pSetL (bytesOf s) anc k first j set = res) a wr2) (s.size + 1) ⟨i1, true, none128, hi1le, by omega, rfl, rfl, ⟨rfl, rfl, rfl, rfl, rfl⟩, ⟨H2.out, HRES2.out⟩⟩ ?_
  clear H2 HRES2 hi1le
  intro gk a wr2 hI J K hJ hK
  obtain ⟨j, first, set, hj, hjk, hI⟩ := hI
  obtain ⟨⟨u, rfl⟩, hset, hps⟩ := hI.open_
  clear hI
  cases gk with
  | zero => omega
  | succ gk =>
    simp only [pSetL, bytesOf_length, rd_bytesOf] at hps
    by_cases hlt : j < s.size
    · rw [if_pos hlt] at hps
      have hltI : (j : Int) < (s.size : Int) := by omega
      have hx := bt_nat s j hlt
      obtain ⟨hb0, hb1⟩ := HT.out.b j hlt
      have q1 : IntKind.i64.wrap ((j : Int) + 1) = (j : Int) + 1 := IntWalk.i64_in _ (by omega)
      have q2 : IntKind.i64.wrap ((j : Int) + 2) = (j : Int) + 2 := IntWalk.i64_in _ (by omega)
      have q3 : IntKind.i64.wrap ((j : Int) + 3) = (j : Int) + 3 := IntWalk.i64_in _ (by omega)
      generalize hch : bt s (j : Int) = ch at hps hx hb0 hb1
      have HSET := Aside0.mk hset
      clear hset hch
      by_cases h93 : ch = 93
      · rw [if_pos h93] at hps
        subst h93
        cases first with
        | true =>
          rw [if_pos rfl] at hps
          subst hps
          go_wp2
          go_ret3
          exact ⟨_, rfl, HSET.out.b⟩
        | false =>
          rw [if_neg (by decide)] at hps
          cases anc with
          | false =>
            rw [if_neg (by decide)] at hps
            subst hps
            go_wp2
            go_ret3
            exact ⟨_, _, congrArg (fun x => Ending.returned (.tuple #[_, .int .i64 x, .bool true])) (Int.natCast_succ j).symm, HSET.out⟩
          | true =>
            rw [if_pos rfl] at hps
            subst hps
            go_wp2_with fail
            refine wp_loop_ghost_k (fun k a wr2 => ∃ (m : Nat), m + k = 128 ∧ AtPn s r c j m true false (fun wr2 => SetU wr wr2 r c (negC set m)) a wr2) 128 ⟨0, rfl, rfl, rfl, ⟨rfl, rfl, rfl, rfl, rfl, rfl, rfl⟩, (by rw [negC_zero HSET.out.len]; exact HSET.out)⟩ ?_
            have HL := Aside0.mk HSET.out.len
            clear HSET
            intro gm a wr3 hI J2 K2 hJ2 hK2
            obtain ⟨m, hm, hI⟩ := hI
            obtain ⟨⟨u, rfl⟩, hset⟩ := hI.open_
            clear hI
            cases gm with
            | zero =>
              have hm2 : m = 128 := by omega
              subst hm2
              rw [negC_end HL.out] at hset
              have HS := Aside0.mk hset
              clear hset
              go_wp2
              go_ret3
              exact ⟨_, _, congrArg (fun x => Ending.returned (.tuple #[_, .int .i64 x, .bool true])) (Int.natCast_succ j).symm, HS.out⟩
            | succ gm =>
              have hm3 : m < 128 := by omega
              have hmI : (m : Int) < 128 := by omega
              have qm : IntKind.i64.wrap ((m : Int) + 1) = (m : Int) + 1 := IntWalk.i64_in _ (by omega)
              obtain ⟨e1, f1⟩ := hset.get hm3
              have hset2 := hset.put m (!((negC set m).getD m false))
              rw [← negC_step hm3] at hset2
              have HS := Aside0.mk hset2
              generalize (negC set m).getD m false = bm at *
              clear hset hset2
              go_wp2
              exact Handed.intro gm (by omega) (hJ2 _ _ _ ⟨m + 1, by omega, rfl, rfl, ⟨rfl, rfl, rfl, rfl, rfl, rfl, congrArg (Value.int .i64) (Int.natCast_succ m).symm⟩, HS.out⟩)
      · rw [if_neg h93] at hps
        have b93 : (ch == 93) = false := beq_eq_false_iff_ne.mpr h93
        clear h93
        by_cases h37 : ch = 37
        · rw [if_pos h37] at hps
          subst h37
          by_cases hn1 : s.size ≤ j + 1
          · rw [if_pos hn1] at hps
            subst hps
            have hnI : (s.size : Int) ≤ (j : Int) + 1 := by omega
            go_wp2
            go_ret3
            exact ⟨_, rfl, HSET.out.b⟩
          · rw [if_neg hn1] at hps
            have hnI : ¬ (s.size : Int) ≤ (j : Int) + 1 := by omega
            have hnJ : (j : Int) + 1 < (s.size : Int) := by omega
            have hn2 : j + 1 < s.size := by omega
            have hx1 := bt_nat s (j + 1) hn2
            obtain ⟨hc0, hc1⟩ := HT.out.b (j + 1) hn2
            have HESC := Aside0.mk (esc_any HSET.out hc0 hc1)
            generalize bt s ((j + 1 : Nat) : Int) = ch1 at hps hx1 hc0 hc1 HESC
            have HPS := Aside0.mk hps
            clear HSET hps
            go_wp2_with fail
            refine HESC.out.mono ?_
            rintro e w3 ⟨set', he, hset', hsome⟩
            subst he
            have hps := HPS.out
            cases hesc : pEsc set ch1 with
            | none =>
              rw [hesc] at hps
              simp only at hps
              subst hps
              have HS := Aside0.mk hset'
              clear hset' hsome hesc HESC HPS
              go_wp2_with fail
              go_ret3
              exact ⟨_, rfl, HS.out.b⟩
            | some set2 =>
              have h2 := hsome set2 hesc
              subst h2
              rw [hesc] at hps
              simp only at hps
              have HS := Aside0.mk hset'
              clear hset' hsome hesc HESC HPS
              by_cases hm : j + 2 < s.size ∧ bt s ((j + 2 : Nat) : Int) = 45
              · rw [if_pos hm] at hps
                subst hps
                obtain ⟨hm1, hm2⟩ := hm
                have hmI : (j : Int) + 2 < (s.size : Int) := by omega
                have hx2 := bt_nat s (j + 2) hm1
                rw [hm2] at hx2
                clear hm2
                go_wp2_with fail
                go_ret3
                exact ⟨_, rfl, HS.out.b⟩
              · rw [if_neg hm] at hps
                have HPS := Aside0.mk hps
                clear hps
                by_cases hm1 : j + 2 < s.size
                · have hm2 : ¬ bt s ((j + 2 : Nat) : Int) = 45 := fun h => hm ⟨hm1, h⟩
                  have hmI : (j : Int) + 2 < (s.size : Int) := by omega
                  have hx2 := bt_nat s (j + 2) hm1
                  have b45 : (bt s ((j + 2 : Nat) : Int) == 45) = false := beq_eq_false_iff_ne.mpr hm2
                  generalize bt s ((j + 2 : Nat) : Int) = ch2 at hx2 b45
                  clear hm hm2
                  go_wp2_with fail
                  exact Handed.intro gk (by omega) (hJ _ _ _ ⟨j + 2, false, _, by omega, by omega, rfl, rfl, ⟨rfl, congrArg (Value.int .i64) (Int.natCast_add j 2).symm, rfl, rfl, rfl⟩, ⟨HS.out, HPS.out⟩⟩)
                · have hmI : ¬ (j : Int) + 2 < (s.size : Int) := by omega
                  clear hm
                  go_wp2_with fail
                  exact Handed.intro gk (by omega) (hJ _ _ _ ⟨j + 2, false, _, by omega, by omega, rfl, rfl, ⟨rfl, congrArg (Value.int .i64) (Int.natCast_add j 2).symm, rfl, rfl, rfl⟩, ⟨HS.out, HPS.out⟩⟩)
        · rw [if_neg h37] at hps
          have b37 : (ch == 37) = false := beq_eq_false_iff_ne.mpr h37
          clear h37
          by_cases hbad : ch = 45 ∨ ch = 91 ∨ ch = 94
          · rw [if_pos hbad] at hps
            subst hps
            rcases hbad with h | h | h
            all_goals
              subst h
              go_wp2
              go_ret3
              exact ⟨_, rfl, HSET.out.b⟩
          · rw [if_neg hbad] at hps
            have b45 : (ch == 45) = false := beq_eq_false_iff_ne.mpr (fun h => hbad (.inl h))
            have b91 : (ch == 91) = false := beq_eq_false_iff_ne.mpr (fun h => hbad (.inr (.inl h)))
            have b94 : (ch == 94) = false := beq_eq_false_iff_ne.mpr (fun h => hbad (.inr (.inr h)))
            clear hbad
            by_cases hr : j + 2 < s.size ∧ bt s ((j + 1 : Nat) : Int) = 45
            · rw [if_pos hr] at hps
              obtain ⟨hr1, hr2⟩ := hr
              have hrI : (j : Int) + 2 < (s.size : Int) := by omega
              have hrJ : (j : Int) + 1 < (s.size : Int) := by omega
              have hx1 := bt_nat s (j + 1) (by omega)
              rw [hr2] at hx1
              have hx2 := bt_nat s (j + 2) hr1
              obtain ⟨hc0, hc1⟩ := HT.out.b (j + 2) hr1
              generalize bt s ((j + 2 : Nat) : Int) = l at hps hx2 hc0 hc1
              clear hr2
              by_cases hl : l = 93 ∨ l = 37 ∨ l = 91 ∨ l = 45 ∨ l < ch
              · rw [if_pos hl] at hps
                subst hps
                by_cases k1 : l = 93
                · subst k1
                  clear hl
                  go_wp2
                  go_ret3
                  exact ⟨_, rfl, HSET.out.b⟩
                have c1 : (l == 93) = false := beq_eq_false_iff_ne.mpr k1
                by_cases k2 : l = 37
                · subst k2
                  clear hl k1
                  go_wp2
                  go_ret3
                  exact ⟨_, rfl, HSET.out.b⟩
                have c2 : (l == 37) = false := beq_eq_false_iff_ne.mpr k2
                by_cases k3 : l = 91
                · subst k3
                  clear hl k1 k2
                  go_wp2
                  go_ret3
                  exact ⟨_, rfl, HSET.out.b⟩
                have c3 : (l == 91) = false := beq_eq_false_iff_ne.mpr k3
                by_cases k4 : l = 45
                · subst k4
                  clear hl k1 k2 k3
                  go_wp2
                  go_ret3
                  exact ⟨_, rfl, HSET.out.b⟩
                have c4 : (l == 45) = false := beq_eq_false_iff_ne.mpr k4
                have k5 : l < ch := by rcases hl with h | h | h | h | h <;> first | exact absurd h ‹_› | exact h
                clear hl k1 k2 k3 k4
                go_wp2
                go_ret3
                exact ⟨_, rfl, HSET.out.b⟩
              · rw [if_neg hl] at hps
                have c1 : (l == 93) = false := beq_eq_false_iff_ne.mpr (fun h => hl (.inl h))
                have c2 : (l == 37) = false := beq_eq_false_iff_ne.mpr (fun h => hl (.inr (.inl h)))
                have c3 : (l == 91) = false := beq_eq_false_iff_ne.mpr (fun h => hl (.inr (.inr (.inl h))))
                have c4 : (l == 45) = false := beq_eq_false_iff_ne.mpr (fun h => hl (.inr (.inr (.inr (.inl h)))))
                have c5 : ¬ l < ch := fun h => hl (.inr (.inr (.inr (.inr h))))
                have qc : IntKind.i64.wrap ch = ch := IntWalk.i64_in _ (by omega)
                have ql : IntKind.i64.wrap l = l := IntWalk.i64_in _ (by omega)
                have HPS := Aside0.mk hps
                clear hl hps
                go_wp2_with fail
                obtain ⟨x, hxx⟩ : ∃ x : Nat, ch = x := ⟨ch.toNat, by omega⟩
                refine wp_loop_ghost_k (fun k a wr2 => ∃ (m : Nat), ch ≤ m ∧ m + k = l.toNat + 1 ∧ AtPr s r c j m anc first ch l (fun wr2 => SetU wr wr2 r c (orC set (fun k => decide (ch ≤ (k : Int)) && decide ((k : Int) ≤ l)) m)) a wr2) (l.toNat + 1 - x) ⟨x, by omega, by omega, rfl, rfl, ⟨rfl, rfl, rfl, rfl, rfl, rfl, rfl, congrArg (Value.int .i64) hxx⟩, ?_⟩ ?_
                · show SetU wr wr2 r c _
                  rw [orC_low (fun k hk => by simp; omega), orC_zero HSET.out.len]
                  exact HSET.out
                clear HSET hxx
                intro gm a wr3 hI J2 K2 hJ2 hK2
                obtain ⟨m, hm0, hm, hI⟩ := hI
                obtain ⟨⟨u, rfl⟩, hset⟩ := hI.open_
                clear hI
                cases gm with
                | zero =>
                  have hmI : ¬ (m : Int) ≤ l := by omega
                  rw [orC_high (n := m) (m := 128) (fun k hk _ => by simp; omega) (by omega)] at hset
                  have HS := Aside0.mk hset
                  have hps := HPS.out
                  clear hset HPS
                  by_cases hm3 : j + 3 < s.size ∧ bt s ((j + 3 : Nat) : Int) = 45
                  · rw [if_pos hm3] at hps
                    subst hps
                    obtain ⟨hm1, hm2⟩ := hm3
                    have hmJ : (j : Int) + 3 < (s.size : Int) := by omega
                    have hx3 := bt_nat s (j + 3) hm1
                    rw [hm2] at hx3
                    clear hm2
                    go_wp2_with fail
                    go_ret3
                    exact ⟨_, rfl, HS.out.b⟩
                  · rw [if_neg hm3] at hps
                    have HPS := Aside0.mk hps
                    clear hps
                    by_cases hm1 : j + 3 < s.size
                    · have hm2 : ¬ bt s ((j + 3 : Nat) : Int) = 45 := fun h => hm3 ⟨hm1, h⟩
                      have hmJ : (j : Int) + 3 < (s.size : Int) := by omega
                      have hx3 := bt_nat s (j + 3) hm1
                      have d45 : (bt s ((j + 3 : Nat) : Int) == 45) = false := beq_eq_false_iff_ne.mpr hm2
                      generalize bt s ((j + 3 : Nat) : Int) = ch3 at hx3 d45
                      clear hm3 hm2
                      go_wp2_with fail
                      exact Handed.intro gk (by omega) (hJ _ _ _ ⟨j + 3, false, _, by omega, by omega, rfl, rfl, ⟨rfl, congrArg (Value.int .i64) (Int.natCast_add j 3).symm, rfl, rfl, rfl⟩, ⟨HS.out, HPS.out⟩⟩)
                    · have hmJ : ¬ (j : Int) + 3 < (s.size : Int) := by omega
                      clear hm3
                      go_wp2_with fail
                      exact Handed.intro gk (by omega) (hJ _ _ _ ⟨j + 3, false, _, by omega, by omega, rfl, rfl, ⟨rfl, congrArg (Value.int .i64) (Int.natCast_add j 3).symm, rfl, rfl, rfl⟩, ⟨HS.out, HPS.out⟩⟩)
                | succ gm =>
                  have hm128 : m < 128 := by omega
                  have hmI : (m : Int) ≤ l := by omega
                  have hmJ : (m : Int) < 128 := by omega
                  have qm : IntKind.i64.wrap ((m : Int) + 1) = (m : Int) + 1 := IntWalk.i64_in _ (by omega)
                  obtain ⟨e1, f1⟩ := hset.get hm128
                  have hset2 := hset.put m true
                  rw [← orC_yes _ hm128 (by simp; omega)] at hset2
                  have HS := Aside0.mk hset2
                  clear hset hset2
                  go_wp2_with fail
                  exact Handed.intro gm (by omega) (hJ2 _ _ _ ⟨m + 1, by omega, by omega, rfl, rfl, ⟨rfl, rfl, rfl, rfl, rfl, rfl, rfl, congrArg (Value.int .i64) (Int.natCast_succ m).symm⟩, HS.out⟩)
            · rw [if_neg hr] at hps
              obtain ⟨x, hxx⟩ : ∃ x : Nat, ch = x := ⟨ch.toNat, by omega⟩
              subst hxx
              simp only [Int.toNat_natCast] at hps
              have hx128 : x < 128 := by omega
              have hxI : (x : Int) < 128 := by omega
              obtain ⟨e1, f1⟩ := HSET.out.get hx128
              have hset2 := HSET.out.put x true
              have HS := Aside0.mk hset2
              have HPS := Aside0.mk hps
              clear hset2 hps HSET
              by_cases hr1 : j + 2 < s.size
              · have hr2 : ¬ bt s ((j + 1 : Nat) : Int) = 45 := fun h => hr ⟨hr1, h⟩
                have hrI : (j : Int) + 2 < (s.size : Int) := by omega
                have hrJ : (j : Int) + 1 < (s.size : Int) := by omega
                have hx1 := bt_nat s (j + 1) (by omega)
                have d45 : (bt s ((j + 1 : Nat) : Int) == 45) = false := beq_eq_false_iff_ne.mpr hr2
                generalize bt s ((j + 1 : Nat) : Int) = ch1 at hx1 d45
                clear hr hr2
                go_wp2_with fail
                exact Handed.intro gk (by omega) (hJ _ _ _ ⟨j + 1, false, _, by omega, by omega, rfl, rfl, ⟨rfl, congrArg (Value.int .i64) (Int.natCast_succ j).symm, rfl, rfl, rfl⟩, ⟨HS.out, HPS.out⟩⟩)
              · have hrI : ¬ (j : Int) + 2 < (s.size : Int) := by omega
                clear hr
                go_wp2_with fail
                exact Handed.intro gk (by omega) (hJ _ _ _ ⟨j + 1, false, _, by omega, by omega, rfl, rfl, ⟨rfl, congrArg (Value.int .i64) (Int.natCast_succ j).symm, rfl, rfl, rfl⟩, ⟨HS.out, HPS.out⟩⟩)
    · rw [if_neg hlt] at hps
      have hltI : ¬ ((j : Int) < (s.size : Int)) := by omega
      subst hps
      have HSET := Aside0.mk hset
      clear hset
      go_wp2
      go_ret3
      exact ⟨_, rfl, HSET.out.b⟩
end
end Go.Proofs.YtpjfjfloeejgiaaFmt.Rf
/- ptSingle of package spec: the walk. -/
set_option linter.unusedVariables false
set_option linter.unusedSimpArgs false
namespace Go.Proofs.YtpjfjfloeejgiaaFmt.Rf
open Go.RowKit Go.Proofs.YtpjfjfloeejgiaaFmtW.PrintWords Go.Proofs.YtpjfjfloeejgiaaFmt.PFnPatternFirst

/-- At the head of ptSingle's loop. -/
def AtSg (s : ByteArray) (r c i m : Nat) (R : World → Prop) (a : Act) (w : World) : Prop :=
  a.tmps.size = 68 ∧ a.defers = [] ∧ (a.tmps.getD 0 undef = .string s ∧ a.tmps.getD 1 undef = .int .i64 (i : Int) ∧ a.tmps.getD 7 undef = .slice (some ⟨r, 0, none⟩) 128 c ∧ a.tmps.getD 21 undef = .int .i64 128 ∧ a.tmps.getD 22 undef = .int .i64 (m : Int)) ∧ R w
set_option maxRecDepth 100000 in
theorem AtSg.open_ {s : ByteArray} {r c i m : Nat} {R : World → Prop} {a : Act} {w : World} (h : AtSg s r c i m R a w) : (∃ u : Nat → Value, a = ⟨#[.string s, .int .i64 (i : Int), u 2, u 3, u 4, u 5, u 6, .slice (some ⟨r, 0, none⟩) 128 c, u 8, u 9, u 10, u 11, u 12, u 13, u 14, u 15, u 16, u 17, u 18, u 19, u 20, .int .i64 128, .int .i64 (m : Int), u 23, u 24, u 25, u 26, u 27, u 28, u 29, u 30, u 31, u 32, u 33, u 34, u 35, u 36, u 37, u 38, u 39, u 40, u 41, u 42, u 43, u 44, u 45, u 46, u 47, u 48, u 49, u 50, u 51, u 52, u 53, u 54, u 55, u 56, u 57, u 58, u 59, u 60, u 61, u 62, u 63, u 64, u 65, u 66, u 67], []⟩) ∧ R w := by
  obtain ⟨tmps, defers⟩ := a
  obtain ⟨hs, hd, ⟨h0, h1, h7, h21, h22⟩, hR⟩ := h
  refine ⟨⟨fun i => tmps.getD i undef, ?_⟩, hR⟩
  have hd' : defers = [] := hd
  subst hd'
  have k0 : tmps.getD 0 undef = .string s := h0
  have k1 : tmps.getD 1 undef = .int .i64 (i : Int) := h1
  have k7 : tmps.getD 7 undef = .slice (some ⟨r, 0, none⟩) 128 c := h7
  have k21 : tmps.getD 21 undef = .int .i64 128 := h21
  have k22 : tmps.getD 22 undef = .int .i64 (m : Int) := h22
  have h := frame_lit 68 tmps hs
  have h2 : ((List.range 68).map (fun i => tmps.getD i undef)).toArray = #[tmps.getD 0 undef, tmps.getD 1 undef, tmps.getD 2 undef, tmps.getD 3 undef, tmps.getD 4 undef, tmps.getD 5 undef, tmps.getD 6 undef, tmps.getD 7 undef, tmps.getD 8 undef, tmps.getD 9 undef, tmps.getD 10 undef, tmps.getD 11 undef, tmps.getD 12 undef, tmps.getD 13 undef, tmps.getD 14 undef, tmps.getD 15 undef, tmps.getD 16 undef, tmps.getD 17 undef, tmps.getD 18 undef, tmps.getD 19 undef, tmps.getD 20 undef, tmps.getD 21 undef, tmps.getD 22 undef, tmps.getD 23 undef, tmps.getD 24 undef, tmps.getD 25 undef, tmps.getD 26 undef, tmps.getD 27 undef, tmps.getD 28 undef, tmps.getD 29 undef, tmps.getD 30 undef, tmps.getD 31 undef, tmps.getD 32 undef, tmps.getD 33 undef, tmps.getD 34 undef, tmps.getD 35 undef, tmps.getD 36 undef, tmps.getD 37 undef, tmps.getD 38 undef, tmps.getD 39 undef, tmps.getD 40 undef, tmps.getD 41 undef, tmps.getD 42 undef, tmps.getD 43 undef, tmps.getD 44 undef, tmps.getD 45 undef, tmps.getD 46 undef, tmps.getD 47 undef, tmps.getD 48 undef, tmps.getD 49 undef, tmps.getD 50 undef, tmps.getD 51 undef, tmps.getD 52 undef, tmps.getD 53 undef, tmps.getD 54 undef, tmps.getD 55 undef, tmps.getD 56 undef, tmps.getD 57 undef, tmps.getD 58 undef, tmps.getD 59 undef, tmps.getD 60 undef, tmps.getD 61 undef, tmps.getD 62 undef, tmps.getD 63 undef, tmps.getD 64 undef, tmps.getD 65 undef, tmps.getD 66 undef, tmps.getD 67 undef] := rfl
  rw [h2] at h
  rw [k0, k1, k7, k21, k22] at h
  exact congrArg (fun t => Act.mk t _) h
theorem SetU.lower {W w1 wr : World} {r c : Nat} {set : List Bool} (h : SetU w1 wr r c set) (hb : Below W.heap.size W w1) : SetU W wr r c set := ⟨hb.trans (h.b.mono hb.size), Kd.R_lower h.row hb.size, h.len⟩
theorem SetE.lower {W w1 wr : World} {o : Option (List Bool × Nat)} {e : Ending} (h : SetE w1 o e wr) (hb : Below W.heap.size W w1) : SetE W o e wr := by
  cases o with
  | none => obtain ⟨n, he, h⟩ := h; exact ⟨n, he, hb.trans (h.mono hb.size)⟩
  | some x => obtain ⟨set, n⟩ := x; obtain ⟨r, c, he, h⟩ := h; exact ⟨r, c, he, h.lower hb⟩
theorem orC_all : orC none128 (fun _ => true) 128 = all128 := by kernel_rfl
section
variable {W wr : World} {r c : Nat} {set : List Bool} {s : ByteArray}
set_option maxHeartbeats 40000000 in
set_option maxRecDepth 100000 in
theorem single_any {i : Nat} (hs : Txt s) (hi : i < s.size) :
    Calls Tryf.prog 49 #[.string s, .int .i64 (i : Int)] wr (SetE wr (pSingle (bytesOf s) i)) := by
  have HT := Aside0.mk hs
  obtain ⟨res, hres⟩ : ∃ res, pSingle (bytesOf s) i = res := ⟨_, rfl⟩
  rw [hres]
  have hn := hs.n
  have hltI : (i : Int) < (s.size : Int) := by omega
  have hx := bt_nat s i hi
  obtain ⟨hb0, hb1⟩ := hs.b i hi
  have q1 : IntKind.i64.wrap ((i : Int) + 1) = (i : Int) + 1 := IntWalk.i64_in _ (by omega)
  have q2 : IntKind.i64.wrap ((i : Int) + 2) = (i : Int) + 2 := IntWalk.i64_in _ (by omega)
  unfold pSingle at hres
  simp only [bytesOf_length, rd_bytesOf] at hres
  generalize bt s (i : Int) = ch at hres hx hb0 hb1
  have HRES := Aside0.mk hres
  clear hs hres
  go_enter Tryf.func49, Tryf.ntmps49
  go_wp2_with fail
  refine (empty_calls _).mono ?_
  rintro e w2 ⟨r, c, he, h2⟩
  subst he
  have H2 := Aside0.mk h2
  clear h2
  have hres := HRES.out
  clear HRES
  by_cases h46 : ch = 46
  · rw [if_pos h46] at hres
    subst h46
    subst hres
    go_wp2_with fail
    refine wp_loop_ghost_k (fun k a wr2 => ∃ (m : Nat), m + k = 128 ∧ AtSg s r c i m (fun wr2 => SetU wr wr2 r c (orC none128 (fun _ => true) m)) a wr2) 128 ⟨0, rfl, rfl, rfl, ⟨rfl, rfl, rfl, rfl, rfl⟩, (by rw [orC_zero H2.out.len]; exact H2.out)⟩ ?_
    clear H2
    intro gm a wr3 hI J2 K2 hJ2 hK2
    obtain ⟨m, hm, hI⟩ := hI
    obtain ⟨⟨u, rfl⟩, hset⟩ := hI.open_
    clear hI
    cases gm with
    | zero =>
      have hm2 : m = 128 := by omega
      subst hm2
      rw [orC_all] at hset
      have HS := Aside0.mk hset
      clear hset
      go_wp2
      go_ret3
      exact ⟨_, _, congrArg (fun x => Ending.returned (.tuple #[_, .int .i64 x, .bool true])) (Int.natCast_succ i).symm, HS.out⟩
    | succ gm =>
      have hm3 : m < 128 := by omega
      have hmI : (m : Int) < 128 := by omega
      have qm : IntKind.i64.wrap ((m : Int) + 1) = (m : Int) + 1 := IntWalk.i64_in _ (by omega)
      obtain ⟨e1, f1⟩ := hset.get hm3
      have hset2 := hset.put m true
      rw [← orC_yes (fun _ => true) hm3 rfl] at hset2
      have HS := Aside0.mk hset2
      clear hset hset2
      go_wp2
      exact Handed.intro gm (by omega) (hJ2 _ _ _ ⟨m + 1, by omega, rfl, rfl, ⟨rfl, rfl, rfl, rfl, congrArg (Value.int .i64) (Int.natCast_succ m).symm⟩, HS.out⟩)
  rw [if_neg h46] at hres
  have b46 : (ch == 46) = false := beq_eq_false_iff_ne.mpr h46
  clear h46
  by_cases h37 : ch = 37
  · rw [if_pos h37] at hres
    subst h37
    by_cases hn1 : s.size ≤ i + 1
    · rw [if_pos hn1] at hres
      subst hres
      have hnI : (s.size : Int) ≤ (i : Int) + 1 := by omega
      go_wp2
      go_ret3
      exact ⟨_, rfl, H2.out.b⟩
    · rw [if_neg hn1] at hres
      have hnI : ¬ (s.size : Int) ≤ (i : Int) + 1 := by omega
      have hnJ : (i : Int) + 1 < (s.size : Int) := by omega
      have hn2 : i + 1 < s.size := by omega
      have hx1 := bt_nat s (i + 1) hn2
      obtain ⟨hc0, hc1⟩ := HT.out.b (i + 1) hn2
      have HESC := Aside0.mk (esc_any H2.out hc0 hc1)
      generalize bt s ((i + 1 : Nat) : Int) = ch1 at hres hx1 hc0 hc1 HESC
      have HPS := Aside0.mk hres
      clear H2 hres
      go_wp2_with fail
      refine HESC.out.mono ?_
      rintro e w3 ⟨set', he, hset', hsome⟩
      subst he
      have hps := HPS.out
      cases hesc : pEsc none128 ch1 with
      | none =>
        rw [hesc] at hps
        simp only [Option.map_none] at hps
        subst hps
        have HS := Aside0.mk hset'
        clear hset' hsome hesc HESC HPS
        go_wp2_with fail
        go_ret3
        exact ⟨_, rfl, HS.out.b⟩
      | some set2 =>
        have h2 := hsome set2 hesc
        subst h2
        rw [hesc] at hps
        simp only [Option.map_some] at hps
        subst hps
        have HS := Aside0.mk hset'
        clear hset' hsome hesc HESC HPS
        go_wp2_with fail
        go_ret3
        exact ⟨_, _, congrArg (fun x => Ending.returned (.tuple #[_, .int .i64 x, .bool true])) (Int.natCast_add i 2).symm, HS.out⟩
  rw [if_neg h37] at hres
  have b37 : (ch == 37) = false := beq_eq_false_iff_ne.mpr h37
  clear h37
  by_cases h91 : ch = 91
  · rw [if_pos h91] at hres
    subst h91
    have hcall := set_any (wr := w2) (i := i + 1) HT.out (by omega)
    rw [hres, Int.natCast_add, Int.natCast_one] at hcall
    have HCALL := Aside0.mk hcall
    clear hcall hres
    go_wp2_with fail
    refine HCALL.out.mono ?_
    intro e w3 h3
    cases res with
    | none =>
      obtain ⟨n, he, hb⟩ := h3
      subst he
      have HB := Aside0.mk (H2.out.b.trans (hb.mono H2.out.b.size))
      clear hb HCALL
      go_wp2_with fail
      go_ret3
      exact ⟨_, rfl, HB.out⟩
    | some x =>
      obtain ⟨set, n⟩ := x
      obtain ⟨r2, c2, he, h4⟩ := h3
      subst he
      have HS := Aside0.mk (h4.lower H2.out.b)
      clear h4 HCALL
      go_wp2_with fail
      go_ret3
      exact ⟨_, _, rfl, HS.out⟩
  rw [if_neg h91] at hres
  have b91 : (ch == 91) = false := beq_eq_false_iff_ne.mpr h91
  clear h91
  by_cases hbad : ch = 93 ∨ ch = 42 ∨ ch = 43 ∨ ch = 45 ∨ ch = 63
  · rw [if_pos hbad] at hres
    subst hres
    rcases hbad with h | h | h | h | h
    all_goals
      subst h
      go_wp2
      go_ret3
      exact ⟨_, rfl, H2.out.b⟩
  · rw [if_neg hbad] at hres
    have c1 : (ch == 93) = false := beq_eq_false_iff_ne.mpr (fun h => hbad (.inl h))
    have c2 : (ch == 42) = false := beq_eq_false_iff_ne.mpr (fun h => hbad (.inr (.inl h)))
    have c3 : (ch == 43) = false := beq_eq_false_iff_ne.mpr (fun h => hbad (.inr (.inr (.inl h))))
    have c4 : (ch == 45) = false := beq_eq_false_iff_ne.mpr (fun h => hbad (.inr (.inr (.inr (.inl h)))))
    have c5 : (ch == 63) = false := beq_eq_false_iff_ne.mpr (fun h => hbad (.inr (.inr (.inr (.inr h)))))
    obtain ⟨x, hxx⟩ : ∃ x : Nat, ch = x := ⟨ch.toNat, by omega⟩
    subst hxx
    simp only [Int.toNat_natCast] at hres
    subst hres
    have hx128 : x < 128 := by omega
    have hxI : (x : Int) < 128 := by omega
    obtain ⟨e1, f1⟩ := H2.out.get hx128
    have HS := Aside0.mk (H2.out.put x true)
    clear hbad H2
    go_wp2_with fail
    go_ret3
    exact ⟨_, _, congrArg (fun x => Ending.returned (.tuple #[_, .int .i64 x, .bool true])) (Int.natCast_succ i).symm, HS.out⟩
end
end Go.Proofs.YtpjfjfloeejgiaaFmt.Rf
/- The reader in memory. -/
set_option linter.unusedVariables false
set_option linter.unusedSimpArgs false
namespace Go.Proofs.YtpjfjfloeejgiaaFmt.Rf
open Go.RowKit Go.Proofs.YtpjfjfloeejgiaaFmtW.PrintWords Go.Proofs.YtpjfjfloeejgiaaFmt.PFnPatternFirst
theorem info147 : (Tryf.prog.info? 147).map (fun i => (i.zero, i.size, i.bytes)) = some (some (.agg #[.int .i64 0, .slice none 0 0, .int .u8 0, .int .i64 0, .int .u8 0, .int .u8 0]), 6, 56) := by kernel_rfl
theorem info3 : (Tryf.prog.info? 3).map (fun i => (i.zero, i.size, i.bytes)) = some (some (.int .i64 0), 1, 8) := by kernel_rfl
/-- A row stays where another block is written, told apart by its type. -/
theorem R_apart {α : Type} {d : Kd α} {e base : Nat} {ok : Nat → Prop} {w w1 : World} {v : Value} {xs : List α} (h : d.R e w base ok v xs) {S : Nat → Prop} (hk : Kept w w1 S)
    (hS : ∀ k, S k → k < w.heap.size → ∃ q cells, w.heap[k]? = some (.cells cells q (0, 0)) ∧ q ∉ e :: d.E) : d.R e w1 base ok v xs := by
  refine Kd.R_mono (Kd.R_kept (Kd.R_bound h) hk ?_) (fun k hk => hk.1)
  rintro k ⟨_, _, hlt, q, hq, cells, hc⟩ hSk
  obtain ⟨q', cells', hc', hne⟩ := hS k hSk hlt
  rw [hc] at hc'
  cases hc'
  exact hne hq
theorem R_block {α : Type} {d : Kd α} {e base : Nat} {ok : Nat → Prop} {w : World} {v : Value} {xs : List α} (h : d.R e w base ok v xs) {k : Nat} (hk : v.ownBlock = some k) : ∃ cells, w.heap[k]? = some (.cells cells e (0, 0)) := by
  obtain ⟨inner, ho⟩ := Kd.R_own h
  exact own_typed ho k hk
/-- The reader's block, its rows. -/
structure RdU (W wr : World) (g : Nat) (t : ByteArray) (anc : Bool) (st : RSt) (vo vi : Value) : Prop where
  b : Below W.heap.size W wr
  lt : W.heap.size ≤ g
  hv : wr.heap[g]? = some (.cells #[.string t, .int .i64 (st.at_ : Int), vo, .bool anc, vi, .int .i64 (st.caps : Int)] 96 (0, 0))
  ro : (Kd.int .i64).R 3 wr W.heap.size (fun _ => True) vo st.opn
  ri : k147.R 147 wr W.heap.size (fun _ => True) vi st.items
theorem E147 : k147.E = [4] := rfl
theorem E3 : (Kd.int .i64).E = [] := rfl
section
variable {W wr w1 : World} {g : Nat} {t : ByteArray} {anc : Bool} {st : RSt} {vo vi : Value}
variable {ops : Array Oper} {o : Oper} {a : Act} {Q : Exit → Act → World → Prop} {K : Act → World → Prop} {rest : List Oper}
theorem RdU.drewN (h : RdU W wr g t anc st vo vi) (m : Nat) : RdU W (wr.drewN m) g t anc st vo vi := ⟨pw_below_drewN h.b m, h.lt, h.hv, Kd.R_drewN h.ro m, Kd.R_drewN h.ri m⟩
theorem RdU.below (h : RdU W wr g t anc st vo vi) (hb : Below wr.heap.size wr w1) : RdU W w1 g t anc st vo vi :=
  ⟨h.b.trans (hb.mono h.b.size), h.lt, (hb.block _ (blk_lt h.hv)).trans h.hv, Kd.R_below h.ro hb, Kd.R_below h.ri hb⟩
theorem RdU.sl (h : RdU W wr g t anc st vo vi) : ∃ A1 c1 A2 c2, vo = .slice A1 st.opn.length c1 ∧ vi = .slice A2 st.items.length c2 := by
  obtain ⟨A1, c1, h1⟩ := Kd.R_slice h.ro
  obtain ⟨A2, c2, h2⟩ := Kd.R_slice h.ri
  exact ⟨A1, c1, A2, c2, h1, h2⟩
theorem rows_set {base : Nat} {cells : Array Value} {xo : List Int} {xi : List S147} (hv1 : w1.heap[g]? = some (.cells cells 96 (0, 0))) (ro : (Kd.int .i64).R 3 w1 base (fun _ => True) vo xo) (ri : k147.R 147 w1 base (fun _ => True) vi xi) (j : Nat) (u : Value) :
    (Kd.int .i64).R 3 (w1.setCell ⟨g, j, none⟩ u) base (fun _ => True) vo xo ∧ k147.R 147 (w1.setCell ⟨g, j, none⟩ u) base (fun _ => True) vi xi := by
  have hk : Kept w1 (w1.setCell ⟨g, j, none⟩ u) (fun k => k = g) := (Kept.refl w1 (fun k => k = g)).setCell (p := ⟨g, j, none⟩) (.inl rfl) u
  refine ⟨R_apart ro hk ?_, R_apart ri hk ?_⟩
  · rintro k rfl _
    exact ⟨96, _, hv1, by rw [E3]; decide⟩
  · rintro k rfl _
    exact ⟨96, _, hv1, by rw [E147]; decide⟩
/-- A store into the reader's own block. -/
theorem RdU.keepG (h : RdU W wr g t anc st vo vi) (j : Nat) (u : Value) :
    (Kd.int .i64).R 3 (wr.setCell ⟨g, j, none⟩ u) W.heap.size (fun _ => True) vo st.opn ∧ k147.R 147 (wr.setCell ⟨g, j, none⟩ u) W.heap.size (fun _ => True) vi st.items ∧ Below W.heap.size W (wr.setCell ⟨g, j, none⟩ u) := by
  have := rows_set h.hv h.ro h.ri j u
  exact ⟨this.1, this.2, h.b.setCell (p := ⟨g, j, none⟩) h.lt u⟩
theorem RdU.put1 (h : RdU W wr g t anc st vo vi) (n : Nat) : RdU W (wr.setCell ⟨g, 1, none⟩ (.int .i64 (n : Int))) g t anc { st with at_ := n } vo vi := by
  obtain ⟨k1, k2, k3⟩ := h.keepG 1 (.int .i64 (n : Int))
  exact ⟨k3, h.lt, blk_set h.hv 1 _, k1, k2⟩
theorem RdU.put5 (h : RdU W wr g t anc st vo vi) (n : Nat) : RdU W (wr.setCell ⟨g, 5, none⟩ (.int .i64 (n : Int))) g t anc { st with caps := n } vo vi := by
  obtain ⟨k1, k2, k3⟩ := h.keepG 5 (.int .i64 (n : Int))
  exact ⟨k3, h.lt, blk_set h.hv 5 _, k1, k2⟩
theorem RdU.put3 (h : RdU W wr g t anc st vo vi) (x : Bool) : RdU W (wr.setCell ⟨g, 3, none⟩ (.bool x)) g t x st vo vi := by
  obtain ⟨k1, k2, k3⟩ := h.keepG 3 (.bool x)
  exact ⟨k3, h.lt, blk_set h.hv 3 _, k1, k2⟩
/-- Behind an append to the items. -/
theorem RdU.afterI (h : RdU W wr g t anc st vo vi) {v' : Value} {xs' : List S147} (hR : k147.R 147 w1 W.heap.size (fun _ => True) v' xs') (hb : Below W.heap.size W w1) (hg : wr.grownBy w1 vi.ownBlock) :
    ∃ A1 n1 c1, v' = .slice A1 n1 c1 ∧ RdU W (w1.setCell ⟨g, 4, none⟩ v') g t anc { st with items := xs' } vo v' ∧ w1.cell? ⟨g, 4, none⟩ = some vi ∧ w1.frozen? ⟨g, 4, none⟩ = false := by
  obtain ⟨A1, c1, rfl⟩ := Kd.R_slice hR
  have hgs : some g ≠ vi.ownBlock := by
    intro e'
    obtain ⟨cells, hc⟩ := R_block h.ri e'.symm
    have := h.hv.symm.trans hc
    cases this
  have hv1 := blk_grown h.hv hg hgs
  have hk : Kept wr w1 (fun k => vi.ownBlock = some k) := Kept.of_grown hg (Kept.refl wr _) (fun k hk => .inl hk)
  have h2 : (Kd.int .i64).R 3 w1 W.heap.size (fun _ => True) vo st.opn := R_apart h.ro hk (fun k hk _ => by
    obtain ⟨cells, hc⟩ := R_block h.ri hk
    exact ⟨147, cells, hc, by rw [E3]; decide⟩)
  have h3 := rows_set hv1 h2 hR 4 (.slice A1 xs'.length c1)
  exact ⟨_, _, _, rfl, ⟨below_set hb h.lt, h.lt, blk_set hv1 4 _, h3.1, h3.2⟩, blk_cell hv1 4, blk_frozen hv1 4⟩
/-- Behind an append to what is open. -/
theorem RdU.afterO (h : RdU W wr g t anc st vo vi) {v' : Value} {xs' : List Int} (hR : (Kd.int .i64).R 3 w1 W.heap.size (fun _ => True) v' xs') (hb : Below W.heap.size W w1) (hg : wr.grownBy w1 vo.ownBlock) :
    ∃ A1 n1 c1, v' = .slice A1 n1 c1 ∧ RdU W (w1.setCell ⟨g, 2, none⟩ v') g t anc { st with opn := xs' } v' vi ∧ w1.cell? ⟨g, 2, none⟩ = some vo ∧ w1.frozen? ⟨g, 2, none⟩ = false := by
  obtain ⟨A1, c1, rfl⟩ := Kd.R_slice hR
  have hgs : some g ≠ vo.ownBlock := by
    intro e'
    obtain ⟨cells, hc⟩ := R_block h.ro e'.symm
    have := h.hv.symm.trans hc
    cases this
  have hv1 := blk_grown h.hv hg hgs
  have hk : Kept wr w1 (fun k => vo.ownBlock = some k) := Kept.of_grown hg (Kept.refl wr _) (fun k hk => .inl hk)
  have h2 : k147.R 147 w1 W.heap.size (fun _ => True) vi st.items := R_apart h.ri hk (fun k hk _ => by
    obtain ⟨cells, hc⟩ := R_block h.ro hk
    exact ⟨3, cells, hc, by rw [E147]; decide⟩)
  have h3 := rows_set hv1 hR h2 2 (.slice A1 xs'.length c1)
  exact ⟨_, _, _, rfl, ⟨below_set hb h.lt, h.lt, blk_set hv1 2 _, h3.1, h3.2⟩, blk_cell hv1 2, blk_frozen hv1 2⟩
/-- append(r.out.Items, item), as a step of a region that draws. -/
theorem RdU.stepI (h : RdU W wr g t anc st vo vi) (hb : Below wr.heap.size wr w1) (hw : Region.wanted o (yielded ops a.tmps) = true) (s y : Operand) (ho : o.op = .call { callee := .builtin .append, args := #[s, y], argTypes := #[66, 66] })
    (hs : a.eval s = vi) (hy : a.eval y = .slice (some ⟨w1.heap.size, 0, none⟩) 1 1) (hl : st.items.length ≤ 100000) (x : S147) {v1 : Value} (hx : Kd.bool.R 4 w1 wr.heap.size (fun _ => True) v1 x.f1)
    (hK : ∀ A1 n1 c1 w2, RdU W (w2.setCell ⟨g, 4, none⟩ (.slice A1 n1 c1)) g t anc { st with items := st.items ++ [x] } vo (.slice A1 n1 c1) → w2.cell? ⟨g, 4, none⟩ = some vi → w2.frozen? ⟨g, 4, none⟩ = false → K (a.put o.dst (.slice A1 n1 c1)) w2) :
    if Region.wanted o (yielded ops a.tmps) = true then Oper.wp Tryf.prog o a (w1.alloc (.cells #[.int .i64 x.f0, v1, .int .u8 x.f2, .int .i64 x.f3, .int .u8 x.f4, .int .u8 x.f5] 147)) K Q else K (a.put o.dst undef) (w1.alloc (.cells #[.int .i64 x.f0, v1, .int .u8 x.f2, .int .i64 x.f3, .int .u8 x.f4, .int .u8 x.f5] 147)) := by
  have h1 := h.below hb
  refine Kd.R_append_step (P := Tryf.prog) k147 (w0 := W) W.heap.size hw s y 66 147 (.agg #[.int .i64 0, .slice none 0 0, .int .u8 0, .int .i64 0, .int .u8 0, .int .u8 0]) 56 ho Tryf.underlying66 info147 rfl (by decide) (by decide) vi st.items x [.int .i64 x.f0, v1, .int .u8 x.f2, .int .i64 x.f3, .int .u8 x.f4, .int .u8 x.f5] (fun _ => True) (fun k => wr.heap.size ≤ k) hs hy
    (k147_mkM _ _ _ _ (Kd.R_mono (Kd.R_lower (Kd.R_bound hx) h.b.size) (fun k hk => hk.2.1))) (fun k hk => ⟨trivial, fun e => ?_⟩) (fun k hk => trivial) h1.ri h1.b h1.b.size (by omega) ?_
  · have := Kd.R_lt h.ri k e.symm
    omega
  · intro v' w2 hR hb2 hg _
    obtain ⟨A1, n1, c1, rfl, k1, k2, k3⟩ := h1.afterI hR hb2 hg
    exact hK _ _ _ _ k1 k2 k3
/-- append(r.open, i), as a step of a region that draws. -/
theorem RdU.stepO (h : RdU W wr g t anc st vo vi) (hw : Region.wanted o (yielded ops a.tmps) = true) (s y : Operand) (ho : o.op = .call { callee := .builtin .append, args := #[s, y], argTypes := #[94, 94] })
    (hs : a.eval s = vo) (hy : a.eval y = .slice (some ⟨wr.heap.size, 0, none⟩) 1 1) (hl : st.opn.length ≤ 100000) (x : Int)
    (hK : ∀ A1 n1 c1 w2, RdU W (w2.setCell ⟨g, 2, none⟩ (.slice A1 n1 c1)) g t anc { st with opn := st.opn ++ [x] } (.slice A1 n1 c1) vi → w2.cell? ⟨g, 2, none⟩ = some vo → w2.frozen? ⟨g, 2, none⟩ = false → K (a.put o.dst (.slice A1 n1 c1)) w2) :
    if Region.wanted o (yielded ops a.tmps) = true then Oper.wp Tryf.prog o a (wr.alloc (.cells #[.int .i64 x] 3)) K Q else K (a.put o.dst undef) (wr.alloc (.cells #[.int .i64 x] 3)) := by
  refine Kd.R_append_step (P := Tryf.prog) (Kd.int .i64) (w0 := W) W.heap.size hw s y 94 3 (.int .i64 0) 8 ho Tryf.underlying94 info3 rfl (by decide) (by decide) vo st.opn x [.int .i64 x] (fun _ => True) (fun _ => False) hs hy
    rfl (fun k hk => hk.elim) (fun k hk => trivial) h.ro h.b h.b.size (by omega) ?_
  intro v' w2 hR hb2 hg _
  obtain ⟨A1, n1, c1, rfl, k1, k2, k3⟩ := h.afterO hR hb2 hg
  exact hK _ _ _ _ k1 k2 k3
end
end Go.Proofs.YtpjfjfloeejgiaaFmt.Rf
/- ptReader.add, capture, closing, isOpen of package spec: the walks. -/
set_option linter.unusedVariables false
set_option linter.unusedSimpArgs false
namespace Go.Proofs.YtpjfjfloeejgiaaFmt.Rf
open Go.RowKit Go.Proofs.YtpjfjfloeejgiaaFmtW.PrintWords Go.Proofs.YtpjfjfloeejgiaaFmt.PFnPatternFirst
theorem cell_alloc {w : World} {ad : Addr} {u : Value} (h : w.cell? ad = some u) (ob : Obj) : (w.alloc ob).cell? ad = some u := pw_cell_below (below_alloc (Below.refl w.heap.size w) ob) h
section
variable {W wr w1 : World} {g : Nat} {t : ByteArray} {anc : Bool} {st : RSt} {vo vi v1 : Value} {x : S147} {far : Nat}
set_option maxHeartbeats 40000000 in
set_option maxRecDepth 100000 in
theorem add_any (h : RdU W wr g t anc st vo vi) (hb : Below wr.heap.size wr w1) (hx : Kd.bool.R 4 w1 wr.heap.size (fun _ => True) v1 x.f1) (ha : st.at_ ≤ 100000) (hf : far ≤ 1000) (hl : st.items.length ≤ 1000) :
    Calls Tryf.prog 47 #[.pointer (some ⟨g, 0, none⟩), .agg #[.int .i64 x.f0, v1, .int .u8 x.f2, .int .i64 x.f3, .int .u8 x.f4, .int .u8 x.f5], .int .i64 (far : Int)] w1 fun e w' => ∃ vi', e = .returned (.bool true) ∧ RdU W w' g t anc (st.add x far) vo vi' := by
  obtain ⟨A1, c1, hv1⟩ := Kd.R_slice hx
  subst hv1
  obtain ⟨A2, c2, A3, c3, hv2, hv3⟩ := h.sl
  have H := Aside0.mk h
  have HB := Aside0.mk hb
  have HX := Aside0.mk hx
  have HV3 := Aside0.mk hv3
  generalize st.items.length = nl at hv3
  subst hv3
  have q1 : IntKind.i64.wrap ((st.at_ : Int) + (far : Int)) = (st.at_ : Int) + (far : Int) := IntWalk.i64_in _ (by omega)
  clear h hb hx hv2
  go_enter Tryf.func47, Tryf.ntmps47
  go_wp2_with fail
  have hbx := blk_new w1 (.cells #[.int .i64 x.f0, .slice A1 x.f1.length c1, .int .u8 x.f2, .int .i64 x.f3, .int .u8 x.f4, .int .u8 x.f5] 147)
  have HB2 := Aside0.mk (below_alloc HB.out (.cells #[.int .i64 x.f0, .slice A1 x.f1.length c1, .int .u8 x.f2, .int .i64 x.f3, .int .u8 x.f4, .int .u8 x.f5] 147))
  have HX2 := Aside0.mk (Kd.R_alloc HX.out (.cells #[.int .i64 x.f0, .slice A1 x.f1.length c1, .int .u8 x.f2, .int .i64 x.f3, .int .u8 x.f4, .int .u8 x.f5] 147))
  generalize w1.alloc (.cells #[.int .i64 x.f0, .slice A1 x.f1.length c1, .int .u8 x.f2, .int .i64 x.f3, .int .u8 x.f4, .int .u8 x.f5] 147) = wb at *
  have b0 := blk_cell hbx 0
  have b1 := blk_cell hbx 1
  have b2 := blk_cell hbx 2
  have b3 := blk_cell hbx 3
  have b4 := blk_cell hbx 4
  have b5 := blk_cell hbx 5
  have h2 := H.out.below HB2.out
  have e4 : wb.cell? ⟨g, 4, none⟩ = some (.slice A3 nl c3) := blk_cell h2.hv 4
  have e4a := fun ob => cell_alloc e4 ob
  clear h2 hbx HB HX
  go_region_law (first | (refine RdU.stepI (H.out) (below_drew HB2.out) rfl (.tmp 12) (.tmp 14) rfl rfl rfl (by omega) x (Kd.R_drew HX2.out) ?_; intro A4 n4 c4 w4 hS4 hc4 hf4; have HS4 := Aside0.mk hS4; clear hS4))
  all_goals
    have e1 : (w4.setCell ⟨g, 4, none⟩ (.slice A4 n4 c4)).cell? ⟨g, 1, none⟩ = some (.int .i64 (st.at_ : Int)) := blk_cell HS4.out.hv 1
    have f1 := blk_frozen HS4.out.hv 1
    have hp := HS4.out.put1 (st.at_ + far)
    have HP := Aside0.mk hp
    clear hp e4a b0 b1 b2 b3 b4 b5 hc4 hf4
    go_wp2
    go_ret
    exact ⟨rfl, _, HP.out⟩
end
end Go.Proofs.YtpjfjfloeejgiaaFmt.Rf
/- ptReader.isOpen, closing, capture of package spec: the walks. -/
set_option linter.unusedVariables false
set_option linter.unusedSimpArgs false
namespace Go.Proofs.YtpjfjfloeejgiaaFmt.Rf
open Go.RowKit Go.Proofs.YtpjfjfloeejgiaaFmtW.PrintWords Go.Proofs.YtpjfjfloeejgiaaFmt.PFnPatternFirst

/-- At the head of isOpen's loop. -/
def AtOp (A : Option Addr) (n c i : Nat) (x : Int) (R : World → Prop) (a : Act) (w : World) : Prop :=
  a.tmps.size = 20 ∧ a.defers = [] ∧ (a.tmps.getD 1 undef = .int .i64 x ∧ a.tmps.getD 10 undef = .slice A n c ∧ a.tmps.getD 11 undef = .int .i64 (n : Int) ∧ a.tmps.getD 12 undef = .int .i64 (i : Int)) ∧ R w
set_option maxRecDepth 100000 in
theorem AtOp.open_ {A : Option Addr} {n c i : Nat} {x : Int} {R : World → Prop} {a : Act} {w : World} (h : AtOp A n c i x R a w) : (∃ u : Nat → Value, a = ⟨#[u 0, .int .i64 x, u 2, u 3, u 4, u 5, u 6, u 7, u 8, u 9, .slice A n c, .int .i64 (n : Int), .int .i64 (i : Int), u 13, u 14, u 15, u 16, u 17, u 18, u 19], []⟩) ∧ R w := by
  obtain ⟨tmps, defers⟩ := a
  obtain ⟨hs, hd, ⟨h1, h10, h11, h12⟩, hR⟩ := h
  refine ⟨⟨fun i => tmps.getD i undef, ?_⟩, hR⟩
  have hd' : defers = [] := hd
  subst hd'
  have k1 : tmps.getD 1 undef = .int .i64 x := h1
  have k10 : tmps.getD 10 undef = .slice A n c := h10
  have k11 : tmps.getD 11 undef = .int .i64 (n : Int) := h11
  have k12 : tmps.getD 12 undef = .int .i64 (i : Int) := h12
  have h := frame_lit 20 tmps hs
  have h2 : ((List.range 20).map (fun i => tmps.getD i undef)).toArray = #[tmps.getD 0 undef, tmps.getD 1 undef, tmps.getD 2 undef, tmps.getD 3 undef, tmps.getD 4 undef, tmps.getD 5 undef, tmps.getD 6 undef, tmps.getD 7 undef, tmps.getD 8 undef, tmps.getD 9 undef, tmps.getD 10 undef, tmps.getD 11 undef, tmps.getD 12 undef, tmps.getD 13 undef, tmps.getD 14 undef, tmps.getD 15 undef, tmps.getD 16 undef, tmps.getD 17 undef, tmps.getD 18 undef, tmps.getD 19 undef] := rfl
  rw [h2] at h
  rw [k1, k10, k11, k12] at h
  exact congrArg (fun t => Act.mk t _) h
theorem cut94 (A : Option Addr) (n c m : Nat) (hm : m ≤ c) (W : World) : (Instr.slice 94 (.slice A n c) none (some (.int .i64 (m : Int))) none).run Tryf.prog W = .ok (.slice A m c) W := by
  have h := info3
  cases hi : Tryf.prog.info? 3 with
  | none => rw [hi] at h; cases h
  | some i =>
    have hu : Tryf.prog.underlying 94 = some (.slice (Tryf.prog.elem 94)) := by simp [Program.elem, Tryf.underlying94]
    have he : Tryf.prog.elem 94 = 3 := by simp [Program.elem, Tryf.underlying94]
    rw [run_slice_h W 94 A n c hu .i64 (m : Int) (by omega) (by omega), he]
    simp [sizeOf, typeInfo, hi, sliced, Result.andThen, Addr.add]
section
variable {W wr w1 : World} {g : Nat} {t : ByteArray} {anc : Bool} {st : RSt} {vo vi v1 : Value} {x : Int}
set_option maxHeartbeats 40000000 in
set_option maxRecDepth 100000 in
theorem isopen_any (h : RdU W wr g t anc st vo vi) (hl : st.opn.length ≤ 1000) :
    Calls Tryf.prog 56 #[.pointer (some ⟨g, 0, none⟩), .int .i64 x] wr fun e w' => e = .returned (.bool (decide (x ∈ st.opn))) ∧ wr = w' := by
  obtain ⟨A1, c1, A2, c2, hv1, hv2⟩ := h.sl
  subst hv1
  have e2 : wr.cell? ⟨g, 2, none⟩ = some (.slice A1 st.opn.length c1) := blk_cell h.hv 2
  have hrd := (Kd.R_reads' h.ro).2.2
  have HRD := Aside0.mk hrd
  obtain ⟨b, hb⟩ : ∃ b, decide (x ∈ st.opn) = b := ⟨_, rfl⟩
  rw [hb]
  have HB := Aside0.mk hb
  generalize st.opn = xs at *
  clear h hrd hb hv2
  go_enter Tryf.func56, Tryf.ntmps56
  go_wp2_with fail
  refine wp_loop_ghost_k (fun k a w2 => ∃ (i : Nat), i + k = xs.length ∧ AtOp A1 xs.length c1 i x (fun w2 => w2 = wr ∧ x ∉ xs.take i) a w2) xs.length ⟨0, by omega, rfl, rfl, ⟨rfl, rfl, rfl, rfl⟩, ⟨rfl, by simp⟩⟩ ?_
  clear e2
  intro gk a w2 hI J K hJ hK
  obtain ⟨i, hik, hI⟩ := hI
  obtain ⟨⟨u, rfl⟩, rfl, hno⟩ := hI.open_
  clear hI
  cases gk with
  | zero =>
    have hltI : ¬ (i : Int) < (xs.length : Int) := by omega
    have hb : b = false := by
      rw [← HB.out, decide_eq_false_iff_not]
      rwa [List.take_of_length_le (by omega)] at hno
    subst hb
    clear hno
    go_wp2
    go_ret
    exact ⟨rfl, rfl⟩
  | succ gk =>
    have hlt : i < xs.length := by omega
    have hltI : (i : Int) < (xs.length : Int) := by omega
    have qi : IntKind.i64.wrap ((i : Int) + 1) = (i : Int) + 1 := IntWalk.i64_in _ (by omega)
    obtain ⟨ad, hA, hx⟩ := Kd.at_int HRD.out (i : Int) (by omega) (by omega)
    subst hA
    have hg : rd xs (i : Int) = xs[i] := by simp [rd, List.getD_eq_getElem?_getD, hlt]
    simp only [Int.toNat_natCast, hg] at hx
    by_cases hxe : xs[i] = x
    · have hb : b = true := by
        rw [← HB.out, decide_eq_true_eq, ← hxe]
        exact List.getElem_mem hlt
      subst hb
      rw [hxe] at hx
      clear hno hxe hg
      go_wp2
      go_ret
      exact ⟨rfl, rfl⟩
    · have hbe : (xs[i] == x) = false := beq_eq_false_iff_ne.mpr hxe
      have hno2 : x ∉ xs.take (i + 1) := by
        rw [List.take_succ_eq_append_getElem hlt, List.mem_append]
        rintro (h | h)
        · exact hno h
        · exact hxe (List.mem_singleton.1 h).symm
      have HN := Aside0.mk hno2
      generalize xs[i] = y at hx hbe
      clear hno hxe hg hno2
      go_wp2
      exact Handed.intro gk (by omega) (hJ _ _ _ ⟨i + 1, by omega, rfl, rfl, ⟨rfl, rfl, rfl, congrArg (Value.int .i64) (Int.natCast_succ i).symm⟩, ⟨rfl, HN.out⟩⟩)
/-- What a part of the reader does: it tells whether it was given; what is read stands in the reader. -/
def RdE (W : World) (g : Nat) (t : ByteArray) (anc : Bool) (o : Option RSt) (e : Ending) (w' : World) : Prop :=
  match o with
  | none => e = .returned (.bool false) ∧ Below W.heap.size W w'
  | some st => ∃ vo vi, e = .returned (.bool true) ∧ RdU W w' g t anc st vo vi
/-- A reader that is not past its text, and small. -/
structure RdOk (t : ByteArray) (st : RSt) : Prop where
  a : st.at_ ≤ t.size
  n : t.size ≤ 1000
  o : st.opn.length ≤ 100
  i : st.items.length ≤ 1000
  c : st.caps ≤ 9
set_option maxHeartbeats 40000000 in
set_option maxRecDepth 100000 in
theorem closing_any (h : RdU W wr g t anc st vo vi) (hok : RdOk t st) :
    Calls Tryf.prog 46 #[.pointer (some ⟨g, 0, none⟩)] wr (RdE W g t anc (pClosing st)) := by
  obtain ⟨ho1, ho2, ho3, ho4, ho5⟩ := hok
  obtain ⟨A1, c1, A2, c2, hv1, hv2⟩ := h.sl
  subst hv1
  have e2 : wr.cell? ⟨g, 2, none⟩ = some (.slice A1 st.opn.length c1) := blk_cell h.hv 2
  have f2 := blk_frozen h.hv 2
  have q1 : IntKind.i64.wrap ((st.opn.length : Int) - 1) = (st.opn.length : Int) - 1 := IntWalk.i64_in _ (by omega)
  unfold pClosing
  rcases Nat.eq_zero_or_pos st.opn.length with h0 | hpos
  · have hnil : st.opn = [] := List.length_eq_zero_iff.1 h0
    rw [hnil] at e2
    simp only [List.length_nil] at e2
    rw [hnil]
    simp only [List.getLast?_nil]
    have HB := Aside0.mk h.b
    clear h h0 hnil q1
    go_enter Tryf.func46, Tryf.ntmps46
    go_wp2
    go_ret
    exact ⟨rfl, HB.out⟩
  · obtain ⟨ys, z, hyz⟩ : ∃ ys z, st.opn = ys ++ [z] := by
      have hne : st.opn ≠ [] := fun h => by rw [h] at hpos; simp at hpos
      exact ⟨st.opn.dropLast, st.opn.getLast hne, (List.dropLast_concat_getLast hne).symm⟩
    have hrd := (Kd.R_reads' h.ro).2.2
    have hnc := (Kd.R_reads' h.ro).2.1
    have htk := Kd.R_take h.ro (m := ys.length) (by rw [hyz]; simp)
    rw [hyz] at e2 q1 ho3 hrd hnc htk
    have hcut : ∀ W : World, (Instr.slice 94 (.slice A1 (ys ++ [z]).length c1) none (some (.int .i64 (ys.length : Int))) none).run Tryf.prog W = .ok (.slice A1 ys.length c1) W := fun W => by
      have h := cut94 A1 (ys ++ [z]).length c1 ys.length (by simp at hnc; omega) W
      exact h
    rw [hyz]
    simp only [List.getLast?_append, List.getLast?_singleton, Option.some_or, List.dropLast_concat, List.length_append, List.length_singleton] at e2 q1 ho3 hrd hnc hcut htk ⊢
    obtain ⟨ad, hA, hx⟩ := Kd.at_int hrd (ys.length : Int) (by omega) (by omega)
    subst hA
    have hg : rd (ys ++ [z]) (ys.length : Int) = z := by simp [rd]
    simp only [Int.toNat_natCast, hg] at hx
    have q2 : (ys.length : Int) + 1 - 1 = (ys.length : Int) := by omega
    rw [Int.natCast_add, Int.natCast_one, q2] at q1
    have hzz : (ys ++ [z]).take ys.length = ys := by simp
    rw [hzz] at htk
    have h3 := rows_set h.hv htk h.ri 2 (.slice (some ad) ys.length c1)
    have hnew : RdU W (wr.setCell ⟨g, 2, none⟩ (.slice (some ad) ys.length c1)) g t anc { st with opn := ys } (.slice (some ad) ys.length c1) vi :=
      ⟨h.b.setCell (p := ⟨g, 2, none⟩) h.lt _, h.lt, blk_set h.hv 2 _, h3.1, h3.2⟩
    have hadd := add_any (x := ⟨3, [], 0, z, 0, 0⟩) (far := 1) (v1 := .slice none 0 0) hnew (Below.refl _ _) (Kd.R_nil _ _ _ _ _) (by show st.at_ ≤ 100000; omega) (by omega) ho4
    rw [Int.natCast_one] at hadd
    have HADD := Aside0.mk hadd
    clear hadd hnew h3 htk hrd hg hzz hyz h hnc q2 hpos
    go_enter Tryf.func46, Tryf.ntmps46
    go_wp2_with fail
    refine HADD.out.mono ?_
    rintro e w5 ⟨vi', he, h5⟩
    subst he
    have H5 := Aside0.mk h5
    clear h5 HADD
    go_wp2_with fail
    go_ret
    exact ⟨_, _, rfl, H5.out⟩
end
end Go.Proofs.YtpjfjfloeejgiaaFmt.Rf
/- ptReader.capture of package spec: the walk. -/
set_option linter.unusedVariables false
set_option linter.unusedSimpArgs false
namespace Go.Proofs.YtpjfjfloeejgiaaFmt.Rf
open Go.RowKit Go.Proofs.YtpjfjfloeejgiaaFmtW.PrintWords Go.Proofs.YtpjfjfloeejgiaaFmt.PFnPatternFirst
section
variable {W wr w1 : World} {g : Nat} {t : ByteArray} {anc : Bool} {st : RSt} {vo vi v1 : Value} {x : Int}
set_option maxHeartbeats 40000000 in
set_option maxRecDepth 100000 in
theorem capture_any (h : RdU W wr g t anc st vo vi) (hok : RdOk t st) :
    Calls Tryf.prog 45 #[.pointer (some ⟨g, 0, none⟩)] wr (RdE W g t anc (pCapture (bytesOf t) st)) := by
  obtain ⟨ho1, ho2, ho3, ho4, ho5⟩ := hok
  have e5 : wr.cell? ⟨g, 5, none⟩ = some (.int .i64 (st.caps : Int)) := blk_cell h.hv 5
  have f5 := blk_frozen h.hv 5
  unfold pCapture
  simp only [bytesOf_length, rd_bytesOf]
  by_cases hc9 : st.caps = 9
  · rw [if_pos hc9]
    rw [hc9] at e5
    have HB := Aside0.mk h.b
    clear h
    go_enter Tryf.func45, Tryf.ntmps45
    go_wp2
    go_ret
    exact ⟨rfl, HB.out⟩
  · rw [if_neg hc9]
    have b9 : ((st.caps : Int) == 9) = false := beq_eq_false_iff_ne.mpr (by omega)
    have q1 : IntKind.i64.wrap ((st.caps : Int) + 1) = (st.caps : Int) + 1 := IntWalk.i64_in _ (by omega)
    have q2 : IntKind.i64.wrap ((st.at_ : Int) + 1) = (st.at_ : Int) + 1 := IntWalk.i64_in _ (by omega)
    have h5 := h.put5 (st.caps + 1)
    rw [Int.natCast_add, Int.natCast_one] at h5
    have H5 := Aside0.mk h5
    obtain ⟨A1, c1, A2, c2, hv1, hv2⟩ := h5.sl
    obtain ⟨res, hres⟩ : ∃ res, (if st.at_ + 1 < t.size ∧ bt t ((st.at_ + 1 : Nat) : Int) = 41 then some (({ st with caps := st.caps + 1 } : RSt).add ⟨4, [], 0, (st.caps : Int) + 1, 0, 0⟩ 2)
      else some (({ st with caps := st.caps + 1, opn := st.opn ++ [(st.caps : Int) + 1] } : RSt).add ⟨2, [], 0, (st.caps : Int) + 1, 0, 0⟩ 1)) = res := ⟨_, rfl⟩
    rw [hres]
    have HRES := Aside0.mk hres
    have HV1 := Aside0.mk hv1
    have hol : ({ st with caps := st.caps + 1 } : RSt).opn.length = st.opn.length := rfl
    rw [hol] at hv1
    generalize st.opn.length = ol at hv1
    subst hv1
    clear h h5 hc9 hres hv2 hol
    go_enter Tryf.func45, Tryf.ntmps45
    go_upto_region 4 with (fail)
    generalize wr.setCell ⟨g, 5, none⟩ (.int .i64 ((st.caps : Int) + 1)) = wd at *
    have hv := H5.out.hv
    have e0 : wd.cell? ⟨g, 0, none⟩ = some (.string t) := blk_cell hv 0
    have e1 : wd.cell? ⟨g, 1, none⟩ = some (.int .i64 (st.at_ : Int)) := blk_cell hv 1
    have e2 : wd.cell? ⟨g, 2, none⟩ = some (.slice A1 ol c1) := blk_cell hv 2
    have e6 : wd.cell? ⟨g, 5, none⟩ = some (.int .i64 ((st.caps : Int) + 1)) := blk_cell hv 5
    clear hv e5 f5
    obtain ⟨b, hb⟩ : ∃ b : Bool, decide (st.at_ + 1 < t.size ∧ bt t ((st.at_ + 1 : Nat) : Int) = 41) = b := ⟨_, rfl⟩
    go_cut [41] from 18 to 42 (fun v wc => v = .bool b ∧ ∃ n, wc = wd.drewN n)
    case first =>
      by_cases hlt : st.at_ + 1 < t.size
      · have hltI : (st.at_ : Int) + 1 < (t.size : Int) := by omega
        have hx := bt_nat t (st.at_ + 1) hlt
        have hbb : (bt t ((st.at_ + 1 : Nat) : Int) == 41) = b := by rw [← hb, Bool.eq_iff_iff]; simp [hlt]
        have HBB := Aside0.mk hbb
        generalize bt t ((st.at_ + 1 : Nat) : Int) = ch at hx HBB
        clear hb hbb HRES
        go_quiet (fail)
        go_wp2
        go_meet
        case rel => exact ⟨by rw [← HBB.out], _, rfl⟩
      · have hltI : ¬ (st.at_ : Int) + 1 < (t.size : Int) := by omega
        have hbb : b = false := by rw [← hb]; simp [hlt]
        subst hbb
        clear hb HRES
        go_quiet (fail)
        go_wp2
        go_meet
        case rel => exact ⟨rfl, _, rfl⟩
    obtain ⟨rfl, n, rfl⟩ := hcut
    have hres := HRES.out
    cases b with
    | true =>
      rw [if_pos (of_decide_eq_true hb)] at hres
      subst hres
      have hadd := add_any (x := ⟨4, [], 0, (st.caps : Int) + 1, 0, 0⟩) (far := 2) (v1 := .slice none 0 0) (H5.out.drewN n) (Below.refl _ _) (Kd.R_nil _ _ _ _ _) (by show st.at_ ≤ 100000; omega) (by omega) ho4
      have HADD := Aside0.mk hadd
      clear hadd hb HRES
      go_wp2_with fail
      refine HADD.out.mono ?_
      rintro e w5 ⟨vi', he, h5⟩
      subst he
      have H6 := Aside0.mk h5
      clear h5 HADD
      go_wp2_with fail
      go_ret
      exact ⟨_, _, rfl, H6.out⟩
    | false =>
      rw [if_neg (of_decide_eq_false hb)] at hres
      subst hres
      have H6 := Aside0.mk (H5.out.drewN n)
      clear hb HRES e0 e1 e2 e6 H5
      generalize wd.drewN n = wn at *
      have e2 : wn.cell? ⟨g, 2, none⟩ = some (.slice A1 ol c1) := blk_cell H6.out.hv 2
      have e6 : wn.cell? ⟨g, 5, none⟩ = some (.int .i64 ((st.caps : Int) + 1)) := blk_cell H6.out.hv 5
      have e2a := fun ob => cell_alloc e2 ob
      go_wp2_with fail
      have hln : ({ st with caps := st.caps + 1 } : RSt).opn.length ≤ 100000 := by show st.opn.length ≤ 100000; omega
      go_region_law (first | (refine RdU.stepO (H6.out.drewN 1) rfl (.tmp 54) (.tmp 60) rfl rfl rfl hln ((st.caps : Int) + 1) ?_; intro A4 n4 c4 w4 hS4 hc4 hf4; have HS4 := Aside0.mk hS4; clear hS4))
      all_goals
        have hadd := add_any (x := ⟨2, [], 0, (st.caps : Int) + 1, 0, 0⟩) (far := 1) (v1 := .slice none 0 0) (HS4.out) (Below.refl _ _) (Kd.R_nil _ _ _ _ _) (by show st.at_ ≤ 100000; omega) (by omega) ho4
        rw [Int.natCast_one] at hadd
        have HADD := Aside0.mk hadd
        have e7 := blk_cell HS4.out.hv 5
        clear hadd e2 e2a e6
        go_wp2_with fail
        refine HADD.out.mono ?_
        rintro e w5 ⟨vi', he, h5⟩
        subst he
        have H7 := Aside0.mk h5
        clear h5 HADD
        go_wp2_with fail
        go_ret
        exact ⟨_, _, rfl, H7.out⟩
end
end Go.Proofs.YtpjfjfloeejgiaaFmt.Rf
/- ptReader.special of package spec: the walk. -/
set_option linter.unusedVariables false
set_option linter.unusedSimpArgs false
namespace Go.Proofs.YtpjfjfloeejgiaaFmt.Rf
open Go.RowKit Go.Proofs.YtpjfjfloeejgiaaFmtW.PrintWords Go.Proofs.YtpjfjfloeejgiaaFmt.PFnPatternFirst
/-- What special does. -/
def SpE (W : World) (g : Nat) (t : ByteArray) (anc : Bool) (st : RSt) (vo vi : Value) (o : Option (Option RSt)) (e : Ending) (w' : World) : Prop :=
  match o with
  | none => e = .returned (.tuple #[.bool false, .bool true]) ∧ RdU W w' g t anc st vo vi
  | some none => e = .returned (.tuple #[.bool true, .bool false]) ∧ Below W.heap.size W w'
  | some (some st') => ∃ vo' vi', e = .returned (.tuple #[.bool true, .bool true]) ∧ RdU W w' g t anc st' vo' vi'
section
variable {W wr w1 : World} {g : Nat} {t : ByteArray} {anc : Bool} {st : RSt} {vo vi v1 : Value} {x : Int}
set_option maxHeartbeats 40000000 in
set_option maxRecDepth 100000 in
theorem special_any (h : RdU W wr g t anc st vo vi) (hok : RdOk t st) (ht : Txt t) (hat : st.at_ < t.size) :
    Calls Tryf.prog 48 #[.pointer (some ⟨g, 0, none⟩)] wr (SpE W g t anc st vo vi (pSpecial (bytesOf t) st)) := by
  obtain ⟨ho1, ho2, ho3, ho4, ho5⟩ := hok
  obtain ⟨res, hres⟩ : ∃ res, pSpecial (bytesOf t) st = res := ⟨_, rfl⟩
  rw [hres]
  have e0 : wr.cell? ⟨g, 0, none⟩ = some (.string t) := blk_cell h.hv 0
  have e1 : wr.cell? ⟨g, 1, none⟩ = some (.int .i64 (st.at_ : Int)) := blk_cell h.hv 1
  have e5 : wr.cell? ⟨g, 5, none⟩ = some (.int .i64 (st.caps : Int)) := blk_cell h.hv 5
  have H := Aside0.mk h
  have q1 : IntKind.i64.wrap ((st.at_ : Int) + 1) = (st.at_ : Int) + 1 := IntWalk.i64_in _ (by omega)
  have q2 : IntKind.i64.wrap ((st.at_ : Int) + 2) = (st.at_ : Int) + 2 := IntWalk.i64_in _ (by omega)
  have q3 : IntKind.i64.wrap ((st.at_ : Int) + 3) = (st.at_ : Int) + 3 := IntWalk.i64_in _ (by omega)
  have hatI : (st.at_ : Int) < (t.size : Int) := by omega
  have hx0 := bt_nat t st.at_ hat
  unfold pSpecial at hres
  simp only [bytesOf_length, rd_bytesOf] at hres
  generalize bt t (st.at_ : Int) = b0 at hx0 hres
  clear h
  by_cases h37 : b0 = 37
  rotate_left
  · rw [if_pos (.inl h37)] at hres
    subst hres
    have hb : (b0 != 37) = true := by simp [bne_iff_ne, h37]
    clear h37
    go_enter Tryf.func48, Tryf.ntmps48
    go_wp2_with fail
    go_quiet (fail)
    go_wp2
    go_ret2
    exact ⟨rfl, H.out.drewN _⟩
  subst h37
  by_cases hn1 : t.size ≤ st.at_ + 1
  · rw [if_pos (.inr hn1)] at hres
    subst hres
    have hnI : (t.size : Int) ≤ (st.at_ : Int) + 1 := by omega
    go_enter Tryf.func48, Tryf.ntmps48
    go_wp2_with fail
    go_quiet (fail)
    go_wp2
    go_ret2
    exact ⟨rfl, H.out.drewN _⟩
  rw [if_neg (fun h => h.elim (fun h => h rfl) hn1)] at hres
  have hnI : ¬ (t.size : Int) ≤ (st.at_ : Int) + 1 := by omega
  have hnJ : (st.at_ : Int) + 1 < (t.size : Int) := by omega
  have hx1 := bt_nat t (st.at_ + 1) (by omega)
  obtain ⟨hc0, hc1⟩ := ht.b (st.at_ + 1) (by omega)
  have HRES := Aside0.mk hres
  have HN := Aside0.mk ht.n
  clear hres ht
  go_enter Tryf.func48, Tryf.ntmps48
  go_wp2_with fail
  go_quiet (fail)
  generalize bt t ((st.at_ + 1 : Nat) : Int) = b1 at *
  go_upto_region 3 with (fail)
  go_cut [4] from 29 to 39 (fun v wc => v = .int .u8 b1 ∧ ∃ n m, wc = (wr.drewN n).drewN m)
  case first =>
    clear HRES
    go_quiet (fail)
    go_wp2
    go_meet
    case rel => exact ⟨rfl, _, _, rfl⟩
  obtain ⟨rfl, n, m, hn⟩ := hcut
  have H2 := Aside0.mk ((H.out.drewN n).drewN m)
  rw [← hn] at H2
  clear hn e0 e1 e5 hx0 hx1 H
  have e0 : wc.cell? ⟨g, 0, none⟩ = some (.string t) := blk_cell H2.out.hv 0
  have e1 : wc.cell? ⟨g, 1, none⟩ = some (.int .i64 (st.at_ : Int)) := blk_cell H2.out.hv 1
  have e5 : wc.cell? ⟨g, 5, none⟩ = some (.int .i64 (st.caps : Int)) := blk_cell H2.out.hv 5
  have hres := HRES.out
  by_cases hbad : b1 = 102 ∨ b1 = 48
  · rw [if_pos hbad] at hres
    subst hres
    rcases hbad with h | h
    all_goals
      subst h
      go_wp2
      go_ret2
      exact ⟨rfl, H2.out.b⟩
  rw [if_neg hbad] at hres
  have c1 : (b1 == 102) = false := beq_eq_false_iff_ne.mpr (fun h => hbad (.inl h))
  have c2 : (b1 == 48) = false := beq_eq_false_iff_ne.mpr (fun h => hbad (.inr h))
  clear hbad HRES
  by_cases h98 : b1 = 98
  · rw [if_pos h98] at hres
    subst h98
    by_cases hn3 : t.size ≤ st.at_ + 3
    · rw [if_pos (.inl hn3)] at hres
      subst hres
      have hnK : (t.size : Int) ≤ (st.at_ : Int) + 3 := by omega
      go_wp2
      go_quiet (fail)
      go_wp2
      go_ret2
      exact ⟨rfl, (H2.out.drewN _).b⟩
    · have hnK : ¬ (t.size : Int) ≤ (st.at_ : Int) + 3 := by omega
      have hnL : (st.at_ : Int) + 3 < (t.size : Int) := by omega
      have hnM : (st.at_ : Int) + 2 < (t.size : Int) := by omega
      have hN2 : st.at_ + 2 < t.size := by omega
      have hN3 : st.at_ + 3 < t.size := by omega
      have hz2 : (0 : Int) ≤ (st.at_ : Int) + 2 := by omega
      have hz3 : (0 : Int) ≤ (st.at_ : Int) + 3 := by omega
      have ht2 : ((st.at_ : Int) + 2).toNat = st.at_ + 2 := by omega
      have ht3 : ((st.at_ : Int) + 3).toNat = st.at_ + 3 := by omega
      have hx2 := bt_nat t (st.at_ + 2) (by omega)
      have hx3 := bt_nat t (st.at_ + 3) (by omega)
      generalize bt t ((st.at_ + 2 : Nat) : Int) = b2 at *
      generalize bt t ((st.at_ + 3 : Nat) : Int) = b3 at *
      by_cases he : b2 = b3
      · rw [if_pos (.inr he)] at hres
        subst hres
        subst he
        go_wp2
        go_quiet (fail)
        go_wp2
        go_ret2
        exact ⟨rfl, (H2.out.drewN _).b⟩
      · rw [if_neg (fun h => h.elim hn3 he)] at hres
        subst hres
        have d1 : (b2 == b3) = false := beq_eq_false_iff_ne.mpr he
        have hq4 : ((4 : Nat) : Int) = 4 := rfl
        clear he
        go_upto_region 7 with (fail)
        go_cut [82] from 49 to 83 (fun v w' => v = .bool false ∧ ∃ n, w' = wc.drewN n)
        case first =>
          go_quiet (fail)
          go_wp2
          go_meet
          case rel => exact ⟨rfl, _, rfl⟩
        obtain ⟨rfl, n3, hn3⟩ := hcut
        have h3 := H2.out.drewN n3
        rw [← hn3] at h3
        clear hn3 e0 e1 e5 H2
        have e0 : wc.cell? ⟨g, 0, none⟩ = some (.string t) := blk_cell h3.hv 0
        have e1 : wc.cell? ⟨g, 1, none⟩ = some (.int .i64 (st.at_ : Int)) := blk_cell h3.hv 1
        have hadd := add_any (x := ⟨6, [], 0, 0, b2, b3⟩) (far := 4) (v1 := .slice none 0 0) (h3.drewN 1) (Below.refl _ _) (Kd.R_nil _ _ _ _ _) (by omega) (by omega) ho4
        rw [hq4] at hadd
        have HADD := Aside0.mk hadd
        clear hadd h3
        go_upto_region 9 with (fail)
        go_still_tail 22, (by kernel_rfl)
        go_wp2_with fail
        refine HADD.out.mono ?_
        rintro e w5 ⟨vi', he, h5⟩
        subst he
        have H6 := Aside0.mk h5
        clear h5 HADD
        go_wp2_with fail
        go_ret2
        exact ⟨_, _, rfl, H6.out⟩
  rw [if_neg h98] at hres
  have c3 : (b1 == 98) = false := beq_eq_false_iff_ne.mpr h98
  clear h98
  have HRES := Aside0.mk hres
  clear hres
  go_wp2_with fail
  refine (digit_calls _).mono ?_
  rintro e w3 ⟨he, n4, hw3⟩
  subst he
  have H3 := Aside0.mk (H2.out.drewN n4)
  rw [← hw3] at H3
  clear hw3 H2 e0 e1 e5
  have e5 : w3.cell? ⟨g, 5, none⟩ = some (.int .i64 (st.caps : Int)) := blk_cell H3.out.hv 5
  have hres := HRES.out
  cases hd : digit b1 with
  | false =>
    rw [hd, if_neg (by decide)] at hres
    subst hres
    clear hd HRES
    go_wp2_with fail
    go_ret2
    exact ⟨rfl, H3.out⟩
  | true =>
    rw [hd, if_pos rfl] at hres
    have hdr : 48 ≤ b1 ∧ b1 ≤ 57 := by unfold digit at hd; simpa using hd
    have qs : IntKind.u8.wrap (b1 - 48) = b1 - 48 := IntWalk.u8_in _ (by omega)
    have qt : IntKind.i64.wrap (b1 - 48) = b1 - 48 := IntWalk.i64_in _ (by omega)
    obtain ⟨x, hx⟩ : ∃ x, x = b1 - 48 := ⟨_, rfl⟩
    rw [← hx] at hres qs qt
    have HX := Aside0.mk hx
    have HDR := Aside0.mk hdr
    clear hd HRES hdr
    by_cases hgt : (st.caps : Int) < x
    · rw [if_pos (.inl hgt)] at hres
      subst hres
      rw [hx] at qs qt hgt
      clear hx
      go_wp2_with fail
      go_ret2
      exact ⟨rfl, H3.out.b⟩
    · have HIO := Aside0.mk (isopen_any (x := x) H3.out (by omega))
      have hadd := add_any (x := ⟨5, [], 0, x, 0, 0⟩) (far := 2) (v1 := .slice none 0 0) H3.out (Below.refl _ _) (Kd.R_nil _ _ _ _ _) (by omega) (by omega) ho4
      rw [show ((2 : Nat) : Int) = 2 from rfl] at hadd
      rw [hx] at hadd hgt qs qt HIO
      have HADD := Aside0.mk hadd
      clear hadd
      by_cases hin : x ∈ st.opn
      · rw [if_pos (.inr hin)] at hres
        subst hres
        have hio : decide (b1 - 48 ∈ st.opn) = true := by rw [← hx]; exact decide_eq_true hin
        rw [hio] at HIO
        clear hx hin hio
        go_wp2_with fail
        refine HIO.out.mono ?_
        rintro e w5 ⟨he, hw5⟩
        subst he hw5
        go_wp2_with fail
        go_ret2
        exact ⟨rfl, H3.out.b⟩
      · rw [if_neg (fun h => h.elim (fun h => by omega) hin)] at hres
        subst hres
        have hio : decide (b1 - 48 ∈ st.opn) = false := by rw [← hx]; exact decide_eq_false hin
        rw [hio] at HIO
        clear hin hio
        rw [hx]
        clear hx
        go_wp2_with fail
        refine HIO.out.mono ?_
        rintro e w5 ⟨he, hw5⟩
        subst he hw5
        go_wp2_with fail
        refine HADD.out.mono ?_
        rintro e w5 ⟨vi', he, h5⟩
        subst he
        have H6 := Aside0.mk h5
        clear h5 HADD
        go_wp2_with fail
        go_ret2
        have h6 := H6.out
        rw [← HX.out] at h6
        exact ⟨_, _, rfl, h6⟩
end
end Go.Proofs.YtpjfjfloeejgiaaFmt.Rf
/- ptReader.item of package spec: the walk. -/
set_option linter.unusedVariables false
set_option linter.unusedSimpArgs false
namespace Go.Proofs.YtpjfjfloeejgiaaFmt.Rf
open Go.RowKit Go.Proofs.YtpjfjfloeejgiaaFmtW.PrintWords Go.Proofs.YtpjfjfloeejgiaaFmt.PFnPatternFirst
theorem pSetL_le {p : List Int} {other : Bool} : ∀ (n : Nat) (first : Bool) (a : Nat) (set : List Bool) (r : List Bool × Nat), pSetL p other n first a set = some r → a < r.2 ∧ r.2 ≤ p.length := by
  intro n
  induction n with
  | zero => intro first a set r h; simp [pSetL] at h
  | succ n ih =>
    intro first a set r h
    simp only [pSetL] at h
    split at h
    · rename_i hlt
      split at h
      · split at h
        · cases h
        · obtain rfl := Option.some.inj h; exact ⟨Nat.lt_succ_self _, hlt⟩
      · split at h
        · split at h
          · cases h
          · split at h
            · cases h
            · split at h
              · cases h
              · have := ih _ _ _ _ h; exact ⟨by omega, this.2⟩
        · split at h
          · cases h
          · split at h
            · split at h
              · cases h
              · split at h
                · cases h
                · have := ih _ _ _ _ h; exact ⟨by omega, this.2⟩
            · have := ih _ _ _ _ h; exact ⟨by omega, this.2⟩
    · cases h
theorem pSingle_le {p : List Int} {a : Nat} {r : List Bool × Nat} (ha : a < p.length) (h : pSingle p a = some r) : a < r.2 ∧ r.2 ≤ p.length := by
  simp only [pSingle] at h
  split at h
  · obtain rfl := Option.some.inj h; exact ⟨Nat.lt_succ_self _, ha⟩
  · split at h
    · split at h
      · cases h
      · rename_i hn
        cases hp : pEsc none128 (rd p ((a + 1 : Nat) : Int)) with
        | none => rw [hp] at h; cases h
        | some s => rw [hp] at h; obtain rfl := Option.some.inj h; exact ⟨by show a < a + 2; omega, by show a + 2 ≤ p.length; omega⟩
    · split at h
      · unfold pSet at h
        split at h
        · have := pSetL_le _ _ _ _ _ h; exact ⟨by omega, this.2⟩
        · have := pSetL_le _ _ _ _ _ h; exact ⟨by omega, this.2⟩
      · split at h
        · cases h
        · obtain rfl := Option.some.inj h; exact ⟨Nat.lt_succ_self _, ha⟩
section
variable {W wr w1 : World} {g : Nat} {t : ByteArray} {anc : Bool} {st : RSt} {vo vi v1 : Value} {x : Int}
set_option maxHeartbeats 40000000 in
set_option maxRecDepth 100000 in
theorem item_any (h : RdU W wr g t anc st vo vi) (hok : RdOk t st) (ht : Txt t) (hat : st.at_ < t.size) :
    Calls Tryf.prog 30 #[.pointer (some ⟨g, 0, none⟩)] wr (RdE W g t anc (pItem (bytesOf t) st)) := by
  obtain ⟨res, hres⟩ : ∃ res, pItem (bytesOf t) st = res := ⟨_, rfl⟩
  rw [hres]
  have HOK := Aside0.mk hok
  obtain ⟨ho1, ho2, ho3, ho4, ho5⟩ := hok
  have e0 : wr.cell? ⟨g, 0, none⟩ = some (.string t) := blk_cell h.hv 0
  have e1 : wr.cell? ⟨g, 1, none⟩ = some (.int .i64 (st.at_ : Int)) := blk_cell h.hv 1
  have H := Aside0.mk h
  have HT := Aside0.mk ht
  have hatI : (st.at_ : Int) < (t.size : Int) := by omega
  have hx0 := bt_nat t st.at_ hat
  have q1 : IntKind.i64.wrap ((t.size : Int) - 1) = (t.size : Int) - 1 := IntWalk.i64_in _ (by omega)
  unfold pItem at hres
  rw [rd_bytesOf, bytesOf_length] at hres
  obtain ⟨b0, hb0⟩ : ∃ b0, bt t (st.at_ : Int) = b0 := ⟨_, rfl⟩
  rw [hb0] at hres hx0
  have HB0 := Aside0.mk hb0
  clear h ht hb0
  by_cases h40 : b0 = 40
  · rw [if_pos h40] at hres
    subst h40
    have HC := Aside0.mk (fun n => capture_any (H.out.drewN n) HOK.out)
    rw [hres] at HC
    clear hres
    go_enter Tryf.func30, Tryf.ntmps30
    go_wp2_with fail
    go_quiet (fail)
    go_wp2_with fail
    refine (HC.out _).mono ?_
    intro e w5 h5
    cases res with
    | none =>
      obtain ⟨he, hb⟩ := h5
      subst he
      go_wp2_with fail
      go_ret
      exact ⟨rfl, hb⟩
    | some st' =>
      obtain ⟨vo', vi', he, h6⟩ := h5
      subst he
      have H6 := Aside0.mk h6
      clear h6 HC
      go_wp2_with fail
      go_ret
      exact ⟨_, _, rfl, H6.out⟩
  rw [if_neg h40] at hres
  have c1 : (b0 == 40) = false := beq_eq_false_iff_ne.mpr h40
  clear h40
  by_cases h41 : b0 = 41
  · rw [if_pos h41] at hres
    subst h41
    have HC := Aside0.mk (fun n => closing_any (H.out.drewN n) HOK.out)
    rw [hres] at HC
    clear hres
    go_enter Tryf.func30, Tryf.ntmps30
    go_wp2_with fail
    go_quiet (fail)
    go_wp2_with fail
    go_quiet (fail)
    go_wp2_with fail
    refine (HC.out _).mono ?_
    intro e w5 h5
    cases res with
    | none =>
      obtain ⟨he, hb⟩ := h5
      subst he
      go_wp2_with fail
      go_ret
      exact ⟨rfl, hb⟩
    | some st' =>
      obtain ⟨vo', vi', he, h6⟩ := h5
      subst he
      have H6 := Aside0.mk h6
      clear h6 HC
      go_wp2_with fail
      go_ret
      exact ⟨_, _, rfl, H6.out⟩
  rw [if_neg h41] at hres
  have c2 : (b0 == 41) = false := beq_eq_false_iff_ne.mpr h41
  clear h41
  by_cases h36 : b0 = 36 ∧ st.at_ + 1 = t.size
  · rw [if_pos h36] at hres
    obtain ⟨h36a, h36b⟩ := h36
    subst h36a
    subst hres
    have hadd := fun n => add_any (x := ⟨7, [], 0, 0, 0, 0⟩) (far := 1) (v1 := .slice none 0 0) (H.out.drewN n) (Below.refl _ _) (Kd.R_nil _ _ _ _ _) (by omega) (by omega) ho4
    simp only [Int.natCast_one] at hadd
    have HADD := Aside0.mk hadd
    have hl1 : ((st.at_ : Int) == (t.size : Int) - 1) = true := beq_iff_eq.mpr (by omega)
    clear hadd
    go_enter Tryf.func30, Tryf.ntmps30
    go_wp2_with fail
    go_quiet (fail)
    go_wp2_with fail
    go_quiet (fail)
    go_wp2_with fail
    go_quiet (fail)
    go_wp2_with fail
    refine (HADD.out _).mono ?_
    rintro e w5 ⟨vi', he, h5⟩
    subst he
    have H6 := Aside0.mk h5
    clear h5 HADD
    go_wp2_with fail
    go_ret
    exact ⟨_, _, rfl, H6.out⟩
  rw [if_neg h36] at hres
  obtain ⟨d36, hd36⟩ : ∃ d : Bool, d = (b0 == 36) := ⟨_, rfl⟩
  have HSP := Aside0.mk (fun n => special_any (H.out.drewN n) HOK.out HT.out hat)
  have HRES := Aside0.mk hres
  have h36' : (b0 == 36) = false ∨ ((b0 == 36) = true ∧ ((st.at_ : Int) == (t.size : Int) - 1) = false) := by
    by_cases h : b0 = 36
    · exact .inr ⟨beq_iff_eq.mpr h, beq_eq_false_iff_ne.mpr (fun h2 => h36 ⟨h, by omega⟩)⟩
    · exact .inl (beq_eq_false_iff_ne.mpr h)
  clear hres h36 hd36 d36
  go_enter Tryf.func30, Tryf.ntmps30
  go_wp2_with fail
  go_quiet (fail)
  go_wp2_with fail
  go_quiet (fail)
  go_upto_region 5 with (fail)
  go_cut [36] from 37 to 60 (fun v wc => v = .bool false ∧ ∃ n, wc = wr.drewN n)
  case first =>
    rcases h36' with h | ⟨h, h2⟩
    · clear HSP HRES HB0
      go_quiet (fail)
      go_wp2
      go_meet
      case rel => exact ⟨rfl, _, by rw [World.drewN_drewN, World.drewN_drewN]⟩
    · have hb36 : b0 = 36 := beq_iff_eq.mp h
      subst hb36
      clear HSP HRES HB0 h
      go_quiet (fail)
      go_wp2
      go_meet
      case rel => exact ⟨rfl, _, by rw [World.drewN_drewN, World.drewN_drewN]⟩
  obtain ⟨rfl, n, hn⟩ := hcut
  have HS := Aside0.mk (HSP.out n)
  rw [← hn] at HS
  clear hn h36' HSP
  go_wp2_with fail
  refine HS.out.mono ?_
  intro e w3 h3
  have hres := HRES.out
  cases hsp : pSpecial (bytesOf t) st with
  | some r =>
    rw [hsp] at h3 hres
    simp only at hres
    subst hres
    cases r with
    | none =>
      obtain ⟨he, hb⟩ := h3
      subst he
      clear hsp HS
      go_wp2_with fail
      go_ret
      exact ⟨rfl, hb⟩
    | some st' =>
      obtain ⟨vo', vi', he, h6⟩ := h3
      subst he
      have H6 := Aside0.mk h6
      clear h6 HS hsp
      go_wp2_with fail
      go_ret
      exact ⟨_, _, rfl, H6.out⟩
  | none =>
    rw [hsp] at h3 hres
    simp only at hres
    obtain ⟨he, h4⟩ := h3
    subst he
    have H4 := Aside0.mk h4
    have HRES := Aside0.mk hres
    clear hsp HS hres h4 H e0 e1
    have e0 : w3.cell? ⟨g, 0, none⟩ = some (.string t) := blk_cell H4.out.hv 0
    have e1 : w3.cell? ⟨g, 1, none⟩ = some (.int .i64 (st.at_ : Int)) := blk_cell H4.out.hv 1
    have HSG := Aside0.mk (single_any (wr := w3.drew) HT.out hat)
    have hres := HRES.out
    clear HRES
    cases hsg : pSingle (bytesOf t) st.at_ with
    | none =>
      rw [hsg] at hres HSG
      simp only at hres
      subst hres
      clear hsg
      go_wp2_with fail
      go_region_law (first | (go_simp; go_at_call 49; refine HSG.out.mono ?_; rintro e w5 ⟨n, he, hb⟩; subst he; have HB := Aside0.mk (H4.out.b.trans ((show Below w3.heap.size w3 w5 from ⟨hb.os, hb.tape, hb.output, hb.size, hb.block⟩).mono H4.out.b.size)); clear hb))
      all_goals
        go_wp2_with fail
        go_ret
        exact ⟨rfl, HB.out⟩
    | some y =>
      obtain ⟨set, n⟩ := y
      rw [hsg] at hres HSG
      simp only at hres
      have hle := pSingle_le (by rw [bytesOf_length]; exact hat) hsg
      rw [bytesOf_length] at hle
      simp only at hle
      clear hsg
      have hq : IntKind.i64.wrap ((n : Int) + 1) = (n : Int) + 1 := IntWalk.i64_in _ (by omega)
      go_wp2_with fail
      go_region_law (first | (go_simp; go_at_call 49; refine HSG.out.mono ?_; rintro e w5 ⟨r, c, he, h5⟩; subst he; have H5 := Aside0.mk (show SetU w3 w5 r c set from ⟨⟨h5.b.os, h5.b.tape, h5.b.output, h5.b.size, h5.b.block⟩, h5.row, h5.len⟩); clear h5))
      all_goals
        have f0 := pw_cell_below H5.out.b e0
        have f1 := pw_cell_below H5.out.b e1
        have g0 := fun ob => cell_alloc f0 ob
        have g1 := fun ob => cell_alloc f1 ob
        obtain ⟨rp, hrp⟩ : ∃ rp : Int, rp = (if n < t.size ∧ isRep (bt t (n : Int)) then bt t (n : Int) else 32) := ⟨_, rfl⟩
        obtain ⟨m, hm⟩ : ∃ m : Nat, m = (if n < t.size ∧ isRep (bt t (n : Int)) then n + 1 else n) := ⟨_, rfl⟩
        have hres2 : some (st.add ⟨1, set, rp, 0, 0, 0⟩ (m - st.at_)) = res := by
          rw [← hres, rd_bytesOf, hrp, hm]
          by_cases hr : n < t.size ∧ isRep (bt t (n : Int))
          · rw [if_pos hr, if_pos hr, if_pos hr]
          · rw [if_neg hr, if_neg hr, if_neg hr]
        subst hres2
        clear hres
        go_upto_if 93 with (fail)
        go_cut [6] from 93 to 110 (fun v wc => v = .int .i64 (m : Int) ∧ Below w5.heap.size w5 wc ∧ wc.heap[w5.heap.size]? = some (.cells #[.int .i64 1, .slice (some ⟨r, 0, none⟩) 128 c, .int .u8 rp, .int .i64 0, .int .u8 0, .int .u8 0] 147 (0, 0)))
        case first =>
          by_cases hnl : n < t.size
          · have hnI : (n : Int) < (t.size : Int) := by omega
            have hxn := bt_nat t n hnl
            by_cases hr : isRep (bt t (n : Int))
            · rw [if_pos ⟨hnl, hr⟩] at hrp hm
              rw [← hrp] at hxn hr
              clear hrp
              subst hm
              rcases hr with h | h | h | h
              all_goals
                subst h
                go_wp2
                go_meet
                case rel => exact ⟨congrArg (Value.int .i64) (Int.natCast_succ n).symm, (below_alloc (Below.refl _ _) _), blk_new _ _⟩
            · rw [if_neg (fun h => hr h.2)] at hrp hm
              subst hrp
              have HM := Aside0.mk hm
              clear hm
              have k1 : (bt t (n : Int) == 42) = false := beq_eq_false_iff_ne.mpr (fun h => hr (.inl h))
              have k2 : (bt t (n : Int) == 43) = false := beq_eq_false_iff_ne.mpr (fun h => hr (.inr (.inl h)))
              have k3 : (bt t (n : Int) == 45) = false := beq_eq_false_iff_ne.mpr (fun h => hr (.inr (.inr (.inl h))))
              have k4 : (bt t (n : Int) == 63) = false := beq_eq_false_iff_ne.mpr (fun h => hr (.inr (.inr (.inr h))))
              generalize bt t (n : Int) = bn at *
              clear hr
              go_wp2
              go_meet
              case rel => exact ⟨by rw [HM.out], below_alloc (Below.refl _ _) _, blk_new _ _⟩
          · have hnI : ¬ (n : Int) < (t.size : Int) := by omega
            rw [if_neg (fun h => hnl h.1)] at hrp hm
            subst hrp
            have HM := Aside0.mk hm
            clear hm
            go_wp2
            go_meet
            case rel => exact ⟨by rw [HM.out], below_alloc (Below.refl _ _) _, blk_new _ _⟩
        obtain ⟨rfl, hbc, hvc⟩ := hcut
        have hmle : st.at_ ≤ m ∧ m ≤ 1000 := by
          rw [hm]
          split
          · rename_i h
            have := h.1
            omega
          · omega
        have hqm : IntKind.i64.wrap ((m : Int) - (st.at_ : Int)) = ((m - st.at_ : Nat) : Int) := by rw [IntWalk.i64_in _ (by omega)]; omega
        have b0 := blk_cell hvc 0
        have b1 := blk_cell hvc 1
        have b2 := blk_cell hvc 2
        have b3 := blk_cell hvc 3
        have b4 := blk_cell hvc 4
        have b5 := blk_cell hvc 5
        have k0 := pw_cell_below hbc f0
        have k1 := pw_cell_below hbc f1
        have hset := H5.out.below hbc
        have hadd := add_any (x := ⟨1, set, rp, 0, 0, 0⟩) (far := m - st.at_) (v1 := .slice (some ⟨r, 0, none⟩) 128 c) H4.out (w1 := wc.drew) (below_drew hset.b) (Kd.R_drew hset.row) (by omega) (by omega) ho4
        have HADD := Aside0.mk hadd
        clear hadd hset hvc f0 f1 g0 g1 hm hrp hbc
        go_wp2_with fail
        go_region_law (first | (go_simp; go_at_call 47; refine HADD.out.mono ?_; rintro e w6 ⟨vi', he, h6⟩; subst he; have H6 := Aside0.mk h6; clear h6))
        all_goals
          go_wp2_with fail
          go_ret
          exact ⟨_, _, rfl, H6.out⟩
end
end Go.Proofs.YtpjfjfloeejgiaaFmt.Rf
/- ptRead of package spec: the walk. -/
set_option linter.unusedVariables false
set_option linter.unusedSimpArgs false
namespace Go.Proofs.YtpjfjfloeejgiaaFmt.Rf
open Go.RowKit Go.Proofs.YtpjfjfloeejgiaaFmtW.PrintWords Go.Proofs.YtpjfjfloeejgiaaFmt.PFnPatternFirst

/-- At the head of ptRead's first loop. -/
def AtZero (s : ByteArray) (o i : Nat) (R : World → Prop) (a : Act) (w : World) : Prop :=
  a.tmps.size = 65 ∧ a.defers = [] ∧ (a.tmps.getD 0 undef = .string s ∧ a.tmps.getD 2 undef = .pointer (some ⟨o, 0, none⟩) ∧ a.tmps.getD 3 undef = .bool false ∧ a.tmps.getD 4 undef = .int .i64 (i : Int)) ∧ R w
set_option maxRecDepth 100000 in
theorem AtZero.open_ {s : ByteArray} {o i : Nat} {R : World → Prop} {a : Act} {w : World} (h : AtZero s o i R a w) : (∃ u : Nat → Value, a = ⟨#[.string s, u 1, .pointer (some ⟨o, 0, none⟩), .bool false, .int .i64 (i : Int), u 5, u 6, u 7, u 8, u 9, u 10, u 11, u 12, u 13, u 14, u 15, u 16, u 17, u 18, u 19, u 20, u 21, u 22, u 23, u 24, u 25, u 26, u 27, u 28, u 29, u 30, u 31, u 32, u 33, u 34, u 35, u 36, u 37, u 38, u 39, u 40, u 41, u 42, u 43, u 44, u 45, u 46, u 47, u 48, u 49, u 50, u 51, u 52, u 53, u 54, u 55, u 56, u 57, u 58, u 59, u 60, u 61, u 62, u 63, u 64], []⟩) ∧ R w := by
  obtain ⟨tmps, defers⟩ := a
  obtain ⟨hs, hd, ⟨h0, h2, h3, h4⟩, hR⟩ := h
  refine ⟨⟨fun i => tmps.getD i undef, ?_⟩, hR⟩
  have hd' : defers = [] := hd
  subst hd'
  have k0 : tmps.getD 0 undef = .string s := h0
  have k2 : tmps.getD 2 undef = .pointer (some ⟨o, 0, none⟩) := h2
  have k3 : tmps.getD 3 undef = .bool false := h3
  have k4 : tmps.getD 4 undef = .int .i64 (i : Int) := h4
  have h := frame_lit 65 tmps hs
  have h2 : ((List.range 65).map (fun i => tmps.getD i undef)).toArray = #[tmps.getD 0 undef, tmps.getD 1 undef, tmps.getD 2 undef, tmps.getD 3 undef, tmps.getD 4 undef, tmps.getD 5 undef, tmps.getD 6 undef, tmps.getD 7 undef, tmps.getD 8 undef, tmps.getD 9 undef, tmps.getD 10 undef, tmps.getD 11 undef, tmps.getD 12 undef, tmps.getD 13 undef, tmps.getD 14 undef, tmps.getD 15 undef, tmps.getD 16 undef, tmps.getD 17 undef, tmps.getD 18 undef, tmps.getD 19 undef, tmps.getD 20 undef, tmps.getD 21 undef, tmps.getD 22 undef, tmps.getD 23 undef, tmps.getD 24 undef, tmps.getD 25 undef, tmps.getD 26 undef, tmps.getD 27 undef, tmps.getD 28 undef, tmps.getD 29 undef, tmps.getD 30 undef, tmps.getD 31 undef, tmps.getD 32 undef, tmps.getD 33 undef, tmps.getD 34 undef, tmps.getD 35 undef, tmps.getD 36 undef, tmps.getD 37 undef, tmps.getD 38 undef, tmps.getD 39 undef, tmps.getD 40 undef, tmps.getD 41 undef, tmps.getD 42 undef, tmps.getD 43 undef, tmps.getD 44 undef, tmps.getD 45 undef, tmps.getD 46 undef, tmps.getD 47 undef, tmps.getD 48 undef, tmps.getD 49 undef, tmps.getD 50 undef, tmps.getD 51 undef, tmps.getD 52 undef, tmps.getD 53 undef, tmps.getD 54 undef, tmps.getD 55 undef, tmps.getD 56 undef, tmps.getD 57 undef, tmps.getD 58 undef, tmps.getD 59 undef, tmps.getD 60 undef, tmps.getD 61 undef, tmps.getD 62 undef, tmps.getD 63 undef, tmps.getD 64 undef] := rfl
  rw [h2] at h
  rw [k0, k2, k3, k4] at h
  exact congrArg (fun t => Act.mk t _) h
/-- At the head of ptRead's second loop. -/
def AtItems (s : ByteArray) (o g : Nat) (R : World → Prop) (a : Act) (w : World) : Prop :=
  a.tmps.size = 65 ∧ a.defers = [] ∧ (a.tmps.getD 0 undef = .string s ∧ a.tmps.getD 2 undef = .pointer (some ⟨o, 0, none⟩) ∧ a.tmps.getD 3 undef = .bool false ∧ a.tmps.getD 5 undef = .pointer (some ⟨g, 0, none⟩)) ∧ R w
set_option maxRecDepth 100000 in
theorem AtItems.open_ {s : ByteArray} {o g : Nat} {R : World → Prop} {a : Act} {w : World} (h : AtItems s o g R a w) : (∃ u : Nat → Value, a = ⟨#[.string s, u 1, .pointer (some ⟨o, 0, none⟩), .bool false, u 4, .pointer (some ⟨g, 0, none⟩), u 6, u 7, u 8, u 9, u 10, u 11, u 12, u 13, u 14, u 15, u 16, u 17, u 18, u 19, u 20, u 21, u 22, u 23, u 24, u 25, u 26, u 27, u 28, u 29, u 30, u 31, u 32, u 33, u 34, u 35, u 36, u 37, u 38, u 39, u 40, u 41, u 42, u 43, u 44, u 45, u 46, u 47, u 48, u 49, u 50, u 51, u 52, u 53, u 54, u 55, u 56, u 57, u 58, u 59, u 60, u 61, u 62, u 63, u 64], []⟩) ∧ R w := by
  obtain ⟨tmps, defers⟩ := a
  obtain ⟨hs, hd, ⟨h0, h2, h3, h5⟩, hR⟩ := h
  refine ⟨⟨fun i => tmps.getD i undef, ?_⟩, hR⟩
  have hd' : defers = [] := hd
  subst hd'
  have k0 : tmps.getD 0 undef = .string s := h0
  have k2 : tmps.getD 2 undef = .pointer (some ⟨o, 0, none⟩) := h2
  have k3 : tmps.getD 3 undef = .bool false := h3
  have k5 : tmps.getD 5 undef = .pointer (some ⟨g, 0, none⟩) := h5
  have h := frame_lit 65 tmps hs
  have h2 : ((List.range 65).map (fun i => tmps.getD i undef)).toArray = #[tmps.getD 0 undef, tmps.getD 1 undef, tmps.getD 2 undef, tmps.getD 3 undef, tmps.getD 4 undef, tmps.getD 5 undef, tmps.getD 6 undef, tmps.getD 7 undef, tmps.getD 8 undef, tmps.getD 9 undef, tmps.getD 10 undef, tmps.getD 11 undef, tmps.getD 12 undef, tmps.getD 13 undef, tmps.getD 14 undef, tmps.getD 15 undef, tmps.getD 16 undef, tmps.getD 17 undef, tmps.getD 18 undef, tmps.getD 19 undef, tmps.getD 20 undef, tmps.getD 21 undef, tmps.getD 22 undef, tmps.getD 23 undef, tmps.getD 24 undef, tmps.getD 25 undef, tmps.getD 26 undef, tmps.getD 27 undef, tmps.getD 28 undef, tmps.getD 29 undef, tmps.getD 30 undef, tmps.getD 31 undef, tmps.getD 32 undef, tmps.getD 33 undef, tmps.getD 34 undef, tmps.getD 35 undef, tmps.getD 36 undef, tmps.getD 37 undef, tmps.getD 38 undef, tmps.getD 39 undef, tmps.getD 40 undef, tmps.getD 41 undef, tmps.getD 42 undef, tmps.getD 43 undef, tmps.getD 44 undef, tmps.getD 45 undef, tmps.getD 46 undef, tmps.getD 47 undef, tmps.getD 48 undef, tmps.getD 49 undef, tmps.getD 50 undef, tmps.getD 51 undef, tmps.getD 52 undef, tmps.getD 53 undef, tmps.getD 54 undef, tmps.getD 55 undef, tmps.getD 56 undef, tmps.getD 57 undef, tmps.getD 58 undef, tmps.getD 59 undef, tmps.getD 60 undef, tmps.getD 61 undef, tmps.getD 62 undef, tmps.getD 63 undef, tmps.getD 64 undef] := rfl
  rw [h2] at h
  rw [k0, k2, k3, k5] at h
  exact congrArg (fun t => Act.mk t _) h
/-- A text has no bytes above 127. -/
def isB (s : ByteArray) : Bool := !((bytesOf s).any (fun x => decide (127 < x)))
theorem isB_at {s : ByteArray} (h : isB s = true) (i : Nat) (hi : i < s.size) : bt s (i : Int) ≤ 127 := by
  unfold isB at h
  simp only [Bool.not_eq_true', List.any_eq_false, decide_eq_true_eq] at h
  have hl : i < (bytesOf s).length := by rw [bytesOf_length]; exact hi
  have := h (bytesOf s)[i] (List.getElem_mem hl)
  rw [← rd_bytesOf]
  simp only [rd, Int.toNat_natCast, List.getD_eq_getElem?_getD, List.getElem?_eq_getElem hl, Option.getD_some]
  omega
theorem isB_not {s : ByteArray} (i : Nat) (hi : i < s.size) (h : 127 < bt s (i : Int)) : isB s = false := by
  have hl : i < (bytesOf s).length := by rw [bytesOf_length]; exact hi
  unfold isB
  simp only [Bool.not_eq_false', List.any_eq_true, decide_eq_true_eq]
  refine ⟨(bytesOf s)[i], List.getElem_mem hl, ?_⟩
  rw [← rd_bytesOf] at h
  simpa only [rd, Int.toNat_natCast, List.getD_eq_getElem?_getD, List.getElem?_eq_getElem hl, Option.getD_some] using h
theorem isB_of {s : ByteArray} (h : ∀ i : Nat, i < s.size → bt s (i : Int) ≤ 127) : isB s = true := by
  unfold isB
  simp only [Bool.not_eq_true', List.any_eq_false, decide_eq_true_eq]
  intro x hx
  obtain ⟨i, hi, rfl⟩ := List.getElem_of_mem hx
  have h2 := h i (by rw [bytesOf_length] at hi; exact hi)
  rw [← rd_bytesOf] at h2
  simp only [rd, Int.toNat_natCast, List.getD_eq_getElem?_getD, List.getElem?_eq_getElem hi, Option.getD_some] at h2
  omega
theorem isB_l0 {s : ByteArray} (hs : s.size ≤ 2147483647) : ∀ (k i : Nat), s.size < i + k → i ≤ s.size → (∀ j : Nat, j < i → bt s (j : Int) ≤ 127) → spec_stIsBytes.l0 k s (i : Int) = some (isB s) := by
  intro k
  induction k with
  | zero => intro i h1 h2 _; omega
  | succ k ih =>
    intro i h1 h2 h3
    simp only [spec_stIsBytes.l0]
    by_cases hi : i < s.size
    · rw [if_pos (by omega), if_pos (by omega)]
      by_cases hb : bt s (i : Int) > 127
      · rw [if_pos hb, isB_not i hi hb]
      · rw [if_neg hb, IntWalk.wrap64_in _ (by omega)]
        have := ih (i + 1) (by omega) (by omega) (fun j hj => by
          rcases Nat.lt_succ_iff_lt_or_eq.1 hj with h | h
          · exact h3 j h
          · subst h; omega)
        rw [Int.natCast_add, Int.natCast_one] at this
        exact this
    · rw [if_neg (by omega), isB_of (fun j hj => h3 j (by omega))]
theorem bytes_calls {s : ByteArray} (w : World) (hs : s.size ≤ 2147483647) : Calls Tryf.prog 23 #[.string s] w fun e w' => e = .returned (.bool (isB s)) ∧ Drawn0 w w' :=
  spec_stIsBytes.calls (s.size + 1) s _ w (by unfold spec_stIsBytes.f; exact isB_l0 hs (s.size + 1) 0 (by omega) (by omega) (fun j hj => by omega))
/-- What an item leaves of the reader's bounds. -/
theorem pItem_ok {t : List Int} {s s' : RSt} (h : pItem t s = some s') (ha : s.at_ < t.length) (hc : s.caps ≤ 9) : s.at_ < s'.at_ ∧ s'.at_ ≤ t.length ∧ s'.items.length = s.items.length + 1 ∧ s'.opn.length ≤ s.opn.length + 1 ∧ s'.caps ≤ 9 := by
  unfold pItem at h
  split at h
  · unfold pCapture at h
    split at h
    · cases h
    · rename_i h9
      split at h
      · rename_i h1
        obtain rfl := Option.some.inj h
        simp [RSt.add]; omega
      · obtain rfl := Option.some.inj h
        simp [RSt.add]; omega
  · split at h
    · unfold pClosing at h
      split at h
      · cases h
      · obtain rfl := Option.some.inj h
        simp [RSt.add]; omega
    · split at h
      · rename_i h36
        obtain rfl := Option.some.inj h
        simp [RSt.add]; omega
      · split at h
        · rename_i r hsp
          subst h
          unfold pSpecial at hsp
          split at hsp
          · cases hsp
          · simp only at hsp
            split at hsp
            · cases hsp
            · split at hsp
              · split at hsp
                · cases hsp
                · obtain rfl := Option.some.inj (Option.some.inj hsp)
                  simp [RSt.add]; omega
              · split at hsp
                · split at hsp
                  · cases hsp
                  · obtain rfl := Option.some.inj (Option.some.inj hsp)
                    simp [RSt.add]; omega
                · cases hsp
        · split at h
          · cases h
          · rename_i set n hsg
            have hle := pSingle_le ha hsg
            simp only at hle
            split at h
            · rename_i hr
              obtain rfl := Option.some.inj h
              simp [RSt.add]; omega
            · obtain rfl := Option.some.inj h
              simp [RSt.add]; omega
/-- What ptRead hands back. -/
def ReadE (W : World) (o : Option (Bool × List S147 × Nat)) (e : Ending) (w' : World) : Prop :=
  Below W.heap.size W w' ∧ match o with
  | none => ∃ (b : Bool) (A : Option Addr) (n c : Nat) (k : Int), e = .returned (.tuple #[.agg #[.bool b, .slice A n c, .int .i64 k], .bool false])
  | some (anc, items, caps) => ∃ A c, e = .returned (.tuple #[.agg #[.bool anc, .slice A items.length c, .int .i64 (caps : Int)], .bool true]) ∧ items.length ≤ c ∧ k147.C w' A items.length items
theorem info96 : (Tryf.prog.info? 96).map (fun i => (i.zero, i.size, i.bytes)) = some (some (.agg #[.string ⟨#[]⟩, .int .i64 0, .slice none 0 0, .bool false, .slice none 0 0, .int .i64 0]), 6, 88) := by kernel_rfl
theorem RdU.new (wr : World) (s : ByteArray) : RdU wr (wr.alloc (.cells #[.string s, .int .i64 0, .slice none 0 0, .bool false, .slice none 0 0, .int .i64 0] 96)) wr.heap.size s false ⟨0, [], [], 0⟩ (.slice none 0 0) (.slice none 0 0) :=
  ⟨below_alloc (Below.refl _ _) _, Nat.le_refl _, blk_new _ _, Kd.R_nil _ _ _ _ _, Kd.R_nil _ _ _ _ _⟩
section
variable {w : World} {s : ByteArray}
set_option maxHeartbeats 40000000 in
set_option maxRecDepth 100000 in
theorem read_any (hs : s.size ≤ 2147483647) :
    Calls Tryf.prog 22 #[.string s] w (ReadE w (pRead (bytesOf s))) := by
  obtain ⟨res, hres⟩ : ∃ res, pRead (bytesOf s) = res := ⟨_, rfl⟩
  rw [hres]
  unfold pRead at hres
  rw [bytesOf_length] at hres
  have HB := Aside0.mk (below_alloc (Below.refl w.heap.size w) (.cells #[.bool false, .slice none 0 0, .int .i64 0] 68))
  have HV := Aside0.mk (blk_new w (.cells #[.bool false, .slice none 0 0, .int .i64 0] 68))
  have HBY := Aside0.mk (fun W => bytes_calls W hs)
  have HRES := Aside0.mk hres
  clear hres
  by_cases h40 : 40 < s.size
  · have h40I : (40 : Int) < (s.size : Int) := by omega
    have hres := HRES.out
    rw [if_pos (.inl h40)] at hres
    subst hres
    clear HRES
    go_enter Tryf.func22, Tryf.ntmps22
    go_wp2_with fail
    refine bodyPost_ret (v := .tuple #[.agg #[.bool false, .slice none 0 0, .int .i64 0], .bool false]) ?_ rfl ⟨HB.out, _, _, _, _, _, rfl⟩
    simp [results, Tryf.results22, go_sem]
  have h40I : ¬ (40 : Int) < (s.size : Int) := by omega
  go_enter Tryf.func22, Tryf.ntmps22
  go_wp2_with fail
  refine (HBY.out _).mono ?_
  rintro e w2 ⟨he, n2, hw2⟩
  subst he
  have HB2 := Aside0.mk (pw_below_drewN HB.out n2)
  have hv2 := HV.out
  change ((w.alloc (.cells #[.bool false, .slice none 0 0, .int .i64 0] 68)).drewN n2).heap[w.heap.size]? = _ at hv2
  have HV2 := Aside0.mk hv2
  rw [← hw2] at HB2 HV2
  clear hw2 hv2 HB HV
  have zero : ∀ wr : World, Below w.heap.size w wr → wr.heap[w.heap.size]? = some (.cells #[.bool false, .slice none 0 0, .int .i64 0] 68 (0, 0)) → wr.cell? ⟨w.heap.size, 0, none⟩ = some (.bool false) ∧ wr.cell? ⟨w.heap.size, 1, none⟩ = some (.slice none 0 0) ∧ wr.cell? ⟨w.heap.size, 2, none⟩ = some (.int .i64 0) ∧ wr.frozen? ⟨w.heap.size, 0, none⟩ = false ∧ wr.frozen? ⟨w.heap.size, 1, none⟩ = false ∧ wr.frozen? ⟨w.heap.size, 2, none⟩ = false := fun wr hb hv =>
    ⟨blk_cell hv 0, blk_cell hv 1, blk_cell hv 2, blk_frozen hv 0, blk_frozen hv 1, blk_frozen hv 2⟩
  have ZERO := Aside0.mk zero
  clear zero
  cases hB : isB s with
  | false =>
    have hres := HRES.out
    rw [if_pos (.inr (.inl (by simpa [isB] using hB)))] at hres
    subst hres
    obtain ⟨z0, z1, z2, z3, z4, z5⟩ := ZERO.out w2 HB2.out HV2.out
    clear HRES hB
    go_wp2_with fail
    refine bodyPost_ret (v := .tuple #[.agg #[.bool false, .slice none 0 0, .int .i64 0], .bool false]) ?_ rfl ⟨?_, _, _, _, _, _, rfl⟩
    · simp [results, Tryf.results22, go_sem, z0, z1, z2]
    · exact ((HB2.out.setCell (p := ⟨w.heap.size, 0, none⟩) (Nat.le_refl _) _).setCell (p := ⟨w.heap.size, 1, none⟩) (Nat.le_refl _) _).setCell (p := ⟨w.heap.size, 2, none⟩) (Nat.le_refl _) _
  | true =>
    have HBB := Aside0.mk hB
    clear hB
    go_wp2_with fail
    refine wp_loop_ghost_k (fun k a wr => ∃ (i : Nat), i + k = s.size ∧ (∀ j : Nat, j < i → bt s (j : Int) ≠ 0) ∧ AtZero s w.heap.size i (fun wr => wr = w2) a wr) s.size ⟨0, by omega, fun j hj => absurd hj (Nat.not_lt_zero j), rfl, rfl, ⟨rfl, rfl, rfl, rfl⟩, rfl⟩ ?_
    intro gk a wr hI J K hJ hK
    obtain ⟨i, hik, hno, hI⟩ := hI
    obtain ⟨⟨u, rfl⟩, rfl⟩ := hI.open_
    clear hI
    cases gk with
    | succ gk =>
      have hlt : i < s.size := by omega
      have hltI : (i : Int) < (s.size : Int) := by omega
      have hx := bt_nat s i hlt
      have qi : IntKind.i64.wrap ((i : Int) + 1) = (i : Int) + 1 := IntWalk.i64_in _ (by omega)
      by_cases hz : bt s (i : Int) = 0
      · have hres := HRES.out
        have hl : i < (bytesOf s).length := by rw [bytesOf_length]; exact hlt
        have hz2 : (bytesOf s).any (fun x => x == 0) = true := by
          rw [List.any_eq_true]
          refine ⟨(bytesOf s)[i], List.getElem_mem hl, ?_⟩
          rw [← rd_bytesOf] at hz
          simpa only [rd, Int.toNat_natCast, List.getD_eq_getElem?_getD, List.getElem?_eq_getElem hl, Option.getD_some, beq_iff_eq] using hz
        rw [if_pos (.inr (.inr hz2))] at hres
        subst hres
        rw [hz] at hx
        obtain ⟨z0, z1, z2, z3, z4, z5⟩ := ZERO.out wr HB2.out HV2.out
        clear HRES hz hz2 hno
        go_wp2_with fail
        refine bodyPost_ret (v := .tuple #[.agg #[.bool false, .slice none 0 0, .int .i64 0], .bool false]) ?_ rfl ⟨?_, _, _, _, _, _, rfl⟩
        · simp [results, Tryf.results22, go_sem, z0, z1, z2]
        · exact ((HB2.out.setCell (p := ⟨w.heap.size, 0, none⟩) (Nat.le_refl _) _).setCell (p := ⟨w.heap.size, 1, none⟩) (Nat.le_refl _) _).setCell (p := ⟨w.heap.size, 2, none⟩) (Nat.le_refl _) _
      · have hno2 : ∀ j : Nat, j < i + 1 → bt s (j : Int) ≠ 0 := fun j hj => by
          rcases Nat.lt_succ_iff_lt_or_eq.1 hj with h | h
          · exact hno j h
          · rw [h]; exact hz
        have HNO := Aside0.mk hno2
        have hzb : (bt s (i : Int) == 0) = false := beq_eq_false_iff_ne.mpr hz
        generalize bt s (i : Int) = ch at hx hzb
        clear hno hno2 hz
        go_wp2_with fail
        exact Handed.intro gk (by omega) (hJ _ _ _ ⟨i + 1, by omega, HNO.out, rfl, rfl, ⟨rfl, rfl, rfl, congrArg (Value.int .i64) (Int.natCast_succ i).symm⟩, rfl⟩)
    | zero =>
      have hi : i = s.size := by omega
      subst hi
      have hltI : ¬ ((s.size : Int) < (s.size : Int)) := by omega
      have hT : Txt s := ⟨by omega, fun i hi => ⟨(bt_range s i).1, isB_at HBB.out i hi⟩⟩
      have HT := Aside0.mk hT
      have hres := HRES.out
      have hz2 : (bytesOf s).any (fun x => x == 0) = false := by
        rw [List.any_eq_false]
        intro x hx
        obtain ⟨i, hi, rfl⟩ := List.getElem_of_mem hx
        have h2 := hno i (by rw [bytesOf_length] at hi; exact hi)
        rw [← rd_bytesOf] at h2
        simpa only [rd, Int.toNat_natCast, List.getD_eq_getElem?_getD, List.getElem?_eq_getElem hi, Option.getD_some, beq_iff_eq] using h2
      have hB := HBB.out
      unfold isB at hB
      rw [if_neg (by rw [hz2]; simp; exact ⟨by omega, by simpa using hB⟩)] at hres
      have HRES2 := Aside0.mk hres
      clear hres HRES hT hno hz2 hB
      obtain ⟨anc, hanc⟩ : ∃ anc : Bool, anc = decide (0 < s.size ∧ rd (bytesOf s) 0 = 94) := ⟨_, rfl⟩
      have hres := HRES2.out
      rw [← hanc] at hres
      have HRES3 := Aside0.mk hres
      clear hres HRES2
      go_upto_region 9 with (fail)
      have hnew := RdU.new wr s
      have HNEW := Aside0.mk hnew
      clear hnew
      generalize wr.alloc (.cells #[.string s, .int .i64 0, .slice none 0 0, .bool false, .slice none 0 0, .int .i64 0] 96) = wa at *
      go_cut [36] from 29 to 37 (fun v wc => v = .bool anc ∧ wc = wa)
      case first =>
        by_cases h0 : 0 < s.size
        · have h0I : (0 : Int) < (s.size : Int) := by omega
          have hx := bt_nat s 0 h0
          have hab : (bt s ((0 : Nat) : Int) == 94) = anc := by
            rw [hanc, ← rd_bytesOf, Bool.eq_iff_iff]; simp [h0]
          have HAB := Aside0.mk hab
          generalize bt s ((0 : Nat) : Int) = ch at hx HAB
          clear hanc hab HRES3
          go_wp2
          go_meet
          case rel => exact ⟨by rw [← HAB.out], rfl⟩
        · have h0I : ¬ (0 : Int) < (s.size : Int) := by omega
          have hab : anc = false := by rw [hanc]; simp [h0]
          subst hab
          clear hanc HRES3
          go_wp2
          go_meet
          case rel => exact ⟨rfl, rfl⟩
      obtain ⟨rfl, rfl⟩ := hcut
      have hal : (if anc then 1 else 0) ≤ s.size := by
        cases anc with
        | true => have := of_decide_eq_true hanc.symm; simp; omega
        | false => simp
      clear hanc
      go_upto_if 36 with (fail)
      go_cut [5] from 37 to 44 (fun v w3 => v = .pointer (some ⟨wr.heap.size, 0, none⟩) ∧ RdU wr w3 wr.heap.size s anc ⟨if anc then 1 else 0, [], [], 0⟩ (.slice none 0 0) (.slice none 0 0))
      case first =>
        have e1 := blk_cell HNEW.out.hv 1
        have e3 := blk_cell HNEW.out.hv 3
        have f1 := blk_frozen HNEW.out.hv 1
        have f3 := blk_frozen HNEW.out.hv 3
        cases anc with
        | true =>
          have hp := (HNEW.out.put3 true).put1 1
          have HP := Aside0.mk hp
          clear hp HRES3
          go_wp2
          go_meet
          case rel => exact ⟨rfl, HP.out⟩
        | false =>
          clear HRES3
          go_wp2
          go_meet
          case rel => exact ⟨rfl, HNEW.out⟩
      obtain ⟨rfl, hrd⟩ := hcut
      rename_i w3
      have HRD := Aside0.mk hrd
      clear hrd HNEW
      go_wp2_with fail
      refine wp_loop_ghost_k (fun k a wr2 => ∃ (st : RSt) (vo vi : Value), st.at_ ≤ s.size ∧ s.size + 1 ≤ st.at_ + k ∧ st.items.length ≤ st.at_ ∧ st.opn.length ≤ st.at_ ∧ st.caps ≤ 9 ∧ (match pItems (bytesOf s) k st with | none => none | some s => if s.opn = [] then some (anc, s.items, s.caps) else none) = res ∧ AtItems s w.heap.size wr.heap.size (fun wr2 => RdU wr wr2 wr.heap.size s anc st vo vi) a wr2) (s.size + 1) ⟨_, _, _, hal, (by omega), (Nat.zero_le _), (Nat.zero_le _), (by show 0 ≤ 9; omega), HRES3.out, rfl, rfl, ⟨rfl, rfl, rfl, rfl⟩, HRD.out⟩ ?_
      clear HRES3 HRD hal
      intro gk a wr2 hI J2 K2 hJ2 hK2
      obtain ⟨st, vo, vi, ha, hak, hil, hol, hcp, hres, hI⟩ := hI
      obtain ⟨⟨u, rfl⟩, hrd⟩ := hI.open_
      clear hI
      cases gk with
      | zero => omega
      | succ gk =>
        simp only [pItems, bytesOf_length] at hres
        have e0 : wr2.cell? ⟨wr.heap.size, 0, none⟩ = some (.string s) := blk_cell hrd.hv 0
        have e1 : wr2.cell? ⟨wr.heap.size, 1, none⟩ = some (.int .i64 (st.at_ : Int)) := blk_cell hrd.hv 1
        by_cases hlt : st.at_ < s.size
        · rw [if_pos hlt] at hres
          have hltI2 : (st.at_ : Int) < (s.size : Int) := by omega
          have HITEM := Aside0.mk (item_any hrd ⟨ha, HT.out.n, by omega, by omega, hcp⟩ HT.out hlt)
          have HRES := Aside0.mk hres
          clear hrd hres
          go_wp2_with fail
          refine HITEM.out.mono ?_
          intro e w6 h6
          have hres := HRES.out
          cases hit : pItem (bytesOf s) st with
          | none =>
            rw [hit] at h6 hres
            simp only at hres
            subst hres
            obtain ⟨he, hb⟩ := h6
            subst he
            have HBX := Aside0.mk (HB2.out.trans (hb.mono HB2.out.size))
            obtain ⟨z0, z1, z2, z3, z4, z5⟩ := ZERO.out w6 HBX.out ((hb.block _ (blk_lt HV2.out)).trans HV2.out)
            clear HRES HITEM hb e0 e1 hit
            go_wp2_with fail
            refine bodyPost_ret (v := .tuple #[.agg #[.bool false, .slice none 0 0, .int .i64 0], .bool false]) ?_ rfl ⟨?_, _, _, _, _, _, rfl⟩
            · simp [results, Tryf.results22, go_sem, z0, z1, z2]
            · exact ((HBX.out.setCell (p := ⟨w.heap.size, 0, none⟩) (Nat.le_refl _) _).setCell (p := ⟨w.heap.size, 1, none⟩) (Nat.le_refl _) _).setCell (p := ⟨w.heap.size, 2, none⟩) (Nat.le_refl _) _
          | some st' =>
            rw [hit] at h6 hres
            simp only at hres
            obtain ⟨k1, k2, k3, k4, k5⟩ := pItem_ok hit (by rw [bytesOf_length]; exact hlt) hcp
            rw [bytesOf_length] at k2
            obtain ⟨vo', vi', he, h7⟩ := h6
            subst he
            have H7 := Aside0.mk h7
            have HRES5 := Aside0.mk hres
            clear h7 HITEM hres hit HRES e0 e1
            go_wp2_with fail
            exact Handed.intro gk (by omega) (hJ2 _ _ _ ⟨st', vo', vi', k2, by omega, by omega, by omega, k5, HRES5.out, rfl, rfl, ⟨rfl, rfl, rfl, rfl⟩, H7.out⟩)
        · rw [if_neg hlt] at hres
          have hltI2 : ¬ (st.at_ : Int) < (s.size : Int) := by omega
          obtain ⟨A1, d1, A2, d2, hv1, hv2⟩ := hrd.sl
          subst hv1 hv2
          have e2 : wr2.cell? ⟨wr.heap.size, 2, none⟩ = some (.slice A1 st.opn.length d1) := blk_cell hrd.hv 2
          have e3 : wr2.cell? ⟨wr.heap.size, 3, none⟩ = some (.bool anc) := blk_cell hrd.hv 3
          have e4 : wr2.cell? ⟨wr.heap.size, 4, none⟩ = some (.slice A2 st.items.length d2) := blk_cell hrd.hv 4
          have e5 : wr2.cell? ⟨wr.heap.size, 5, none⟩ = some (.int .i64 (st.caps : Int)) := blk_cell hrd.hv 5
          have HBX := Aside0.mk (HB2.out.trans (hrd.b.mono HB2.out.size))
          obtain ⟨z0, z1, z2, z3, z4, z5⟩ := ZERO.out wr2 HBX.out ((hrd.b.block _ (blk_lt HV2.out)).trans HV2.out)
          have hne : w.heap.size ≠ wr.heap.size := by have := blk_lt HV2.out; omega
          have hwl := blk_lt HV2.out
          have hcap := (Kd.R_reads' hrd.ri).2.1
          have G1 := Aside0.mk (fun W (hk : Kept wr2 W (fun k => k = w.heap.size)) => (Kd.R_reads' (Kd.R_kept (Kd.R_bound hrd.ri) hk (fun k hk he => by have := hk.2.1; omega))).2.2)
          have HN2 := Aside0.mk hne
          obtain ⟨b, hb⟩ : ∃ b : Bool, b = ((st.opn.length : Int) == 0) := ⟨_, rfl⟩
          have hres2 : res = if b then some (anc, st.items, st.caps) else none := by
            rw [← hres, hb]
            by_cases ho : st.opn = []
            · simp [ho]
            · have : ¬ ((st.opn.length : Int) == 0) = true := by
                rw [beq_iff_eq]
                intro h
                exact ho (List.length_eq_zero_iff.1 (by omega))
              simp only [ho, if_false, this]
              rfl
          have HB9 := Aside0.mk hb
          have HR9 := Aside0.mk hres2
          clear hrd hres hres2 hb hak ha hil hol
          go_wp2_with fail
          go_region_law (fail)
          all_goals
            go_wp2_with fail
            refine bodyPost_ret (v := .tuple #[.agg #[.bool anc, .slice A2 st.items.length d2, .int .i64 (st.caps : Int)], .bool b]) ?_ rfl ⟨?_, ?_⟩
            · rw [HB9.out]
              simp [results, Tryf.results22, go_sem, z0, z1, z2]
            · exact (((below_drew HBX.out).setCell (p := ⟨w.heap.size, 0, none⟩) (Nat.le_refl _) _).setCell (p := ⟨w.heap.size, 1, none⟩) (Nat.le_refl _) _).setCell (p := ⟨w.heap.size, 2, none⟩) (Nat.le_refl _) _
            · rw [HR9.out]
              cases b with
              | false => exact ⟨_, _, _, _, _, rfl⟩
              | true => exact ⟨A2, d2, rfl, hcap, G1.out _ ((((Kept.refl wr2 (fun k => k = w.heap.size)).setCell (p := ⟨w.heap.size, 0, none⟩) (.inl rfl) _).setCell (p := ⟨w.heap.size, 1, none⟩) (.inl rfl) _).setCell (p := ⟨w.heap.size, 2, none⟩) (.inl rfl) _)⟩
end
end Go.Proofs.YtpjfjfloeejgiaaFmt.Rf
