/- Joined texts of this seat: Vmr, Vmd, Sts, Par, Cor, Res, Nin. -/
import Derived.Test.YtpjfjfloeejgiaaFmtGh
import Derived.Test.YtpjfjfloeejgiaaFmtGl
import Derived.Test.YtpjfjfloeejgiaaFmtGd
import Derived.Test.YtpjfjfloeejgiaaFmtGk
import Derived.Test.YtpjfjfloeejgiaaFmtGe
import Derived.Test.YtpjfjfloeejgiaaFmtGj
import Derived.Test.YtpjfjfloeejgiaaFmtGm
/- The plain matcher of package pm by big steps: rules that speak of no fuel. -/
set_option linter.unusedVariables false
set_option linter.unusedSimpArgs false
namespace Go.Proofs.YtpjfjfloeejgiaaFmt.Vm
open Go.RowKit Go.Proofs.YtpjfjfloeejgiaaFmtW.PrintWords Go.Proofs.YtpjfjfloeejgiaaFmt.Cls Go.Proofs.YtpjfjfloeejgiaaFmt.Ins Go.Proofs.YtpjfjfloeejgiaaFmt.Mst Go.Proofs.YtpjfjfloeejgiaaFmt.Mat

/-- With fuel enough the matcher answers so. -/
def BigR (src : List Int) (P : List Ins) (rl pc sp : Nat) (cs : List Int) (res : Option Nat × List Int) : Prop := ∃ K, ∀ k, K ≤ k → vm src P k rl pc sp cs = some res
section
variable {src : List Int} {P : List Ins} {rl pc sp : Nat} {cs cs1 : List Int} {res : Option Nat × List Int} {c : Cls} {a b : Int} {n : Nat}
theorem BigR.of {F : Nat → Option (Option Nat × List Int)} (hF : ∀ k, vm src P (k + 1) rl pc sp cs = F k) (h : ∃ K, ∀ k, K ≤ k → F k = some res) : BigR src P rl pc sp cs res := by
  obtain ⟨K, h⟩ := h
  refine ⟨K + 1, fun k hk => ?_⟩
  obtain ⟨k, rfl⟩ : ∃ k', k = k' + 1 := ⟨k - 1, by omega⟩
  rw [hF]
  exact h k (by omega)
theorem BigR.chr_ok (hP : P[pc]? = some (.chr c)) (hs : sp < src.length) (hc : clsm c (rd src sp) = true) (h : BigR src P rl (pc + 1) (sp + 1) cs res) : BigR src P rl pc sp cs res := by
  refine BigR.of (F := fun k => vm src P k rl (pc + 1) (sp + 1) cs) (fun k => ?_) h
  rw [vm, hP]
  simp only
  rw [if_pos hs, if_pos hc]
theorem BigR.chr_no (hP : P[pc]? = some (.chr c)) (hs : ¬ (sp < src.length ∧ clsm c (rd src sp) = true)) : BigR src P rl pc sp cs (none, cs) := by
  refine BigR.of (F := fun k => some (none, cs)) (fun k => ?_) ⟨0, fun _ _ => rfl⟩
  rw [vm, hP]
  simp only
  by_cases h : sp < src.length
  · rw [if_pos h, if_neg (fun hc => hs ⟨h, hc⟩)]
  · rw [if_neg h]
theorem BigR.fit (hP : P[pc]? = some (.op 1 a b)) : BigR src P rl pc sp cs (some sp, cs) := by
  refine BigR.of (F := fun k => some (some sp, cs)) (fun k => ?_) ⟨0, fun _ _ => rfl⟩
  rw [vm, hP]
  simp
theorem BigR.tail (hP : P[pc]? = some (.op 2 a b)) : BigR src P rl pc sp cs (if src.length ≤ sp then some sp else none, cs) := by
  refine BigR.of (F := fun k => some (if src.length ≤ sp then some sp else none, cs)) (fun k => ?_) ⟨0, fun _ _ => rfl⟩
  rw [vm, hP]
  simp
theorem BigR.jmp (hP : P[pc]? = some (.op 3 a b)) (h : BigR src P rl a.toNat sp cs res) : BigR src P rl pc sp cs res := by
  refine BigR.of (F := fun k => vm src P k rl a.toNat sp cs) (fun k => ?_) h
  rw [vm, hP]
  simp
theorem BigR.split_yes (hP : P[pc]? = some (.op 4 a b)) (hr : rl < 1000000) (h : BigR src P (rl + 1) a.toNat sp cs (some n, cs1)) : BigR src P rl pc sp cs (some n, cs1) := by
  obtain ⟨K, h⟩ := h
  refine BigR.of (F := fun k => vm src P (k + 1) rl pc sp cs) (fun k => rfl) ⟨K, fun k hk => ?_⟩
  rw [vm, hP]
  simp only
  rw [if_neg (by omega), if_neg (by omega), if_neg (by omega), if_pos trivial, if_neg (by omega), h k hk]
theorem BigR.split_no (hP : P[pc]? = some (.op 4 a b)) (hr : rl < 1000000) (h : BigR src P (rl + 1) a.toNat sp cs (none, cs1)) (h2 : BigR src P rl b.toNat sp cs1 res) : BigR src P rl pc sp cs res := by
  obtain ⟨K, h⟩ := h
  obtain ⟨K2, h2⟩ := h2
  refine BigR.of (F := fun k => vm src P (k + 1) rl pc sp cs) (fun k => rfl) ⟨K + K2, fun k hk => ?_⟩
  rw [vm, hP]
  simp only
  rw [if_neg (by omega), if_neg (by omega), if_neg (by omega), if_pos trivial, if_neg (by omega), h k (by omega)]
  exact h2 k (by omega)
theorem BigR.save_yes (hP : P[pc]? = some (.op 5 a b)) (hr : rl < 1000000) (h : BigR src P (rl + 1) (pc + 1) sp (setc cs a.toNat (2 * sp)) (some n, cs1)) : BigR src P rl pc sp cs (some n, cs1) := by
  obtain ⟨K, h⟩ := h
  refine BigR.of (F := fun k => vm src P (k + 1) rl pc sp cs) (fun k => rfl) ⟨K, fun k hk => ?_⟩
  rw [vm, hP]
  simp only
  rw [if_neg (by omega), if_neg (by omega), if_neg (by omega), if_neg (by omega), if_pos trivial, if_neg (by omega), h k hk]
theorem BigR.save_no (hP : P[pc]? = some (.op 5 a b)) (hr : rl < 1000000) (h : BigR src P (rl + 1) (pc + 1) sp (setc cs a.toNat (2 * sp)) (none, cs1)) :
    BigR src P rl pc sp cs (none, cs1.set a.toNat ((ext cs a.toNat).getD a.toNat 0)) := by
  obtain ⟨K, h⟩ := h
  refine BigR.of (F := fun k => vm src P (k + 1) rl pc sp cs) (fun k => rfl) ⟨K, fun k hk => ?_⟩
  rw [vm, hP]
  simp only
  rw [if_neg (by omega), if_neg (by omega), if_neg (by omega), if_neg (by omega), if_pos trivial, if_neg (by omega), h k hk]
/-- Captures with a place. -/
def setp (cs : List Int) (s sp : Nat) : List Int := ((ext cs (s + 1)).set s (2 * ((sp + 1 : Nat) : Int) + 1)).set (s + 1) (2 * ((sp + 1 : Nat) : Int) + 1)
theorem BigR.place (hP : P[pc]? = some (.op 6 a b)) (h : BigR src P rl (pc + 1) sp (setp cs a.toNat sp) res) : BigR src P rl pc sp cs res := by
  refine BigR.of (F := fun k => vm src P k rl (pc + 1) sp (setp cs a.toNat sp)) (fun k => ?_) h
  rw [vm, hP]
  simp [setp]
theorem BigR.brace_yes {e : Nat} (hP : P[pc]? = some (.op 7 a b)) (hs : sp < src.length ∧ rd src sp = a) (hb : bal src a b (src.length - (sp + 1)) (sp + 1) 1 = some e) (h : BigR src P rl (pc + 1) e cs res) : BigR src P rl pc sp cs res := by
  refine BigR.of (F := fun k => vm src P k rl (pc + 1) e cs) (fun k => ?_) h
  rw [vm, hP]
  simp only
  rw [if_neg (by omega), if_neg (by omega), if_neg (by omega), if_neg (by omega), if_neg (by omega), if_neg (by omega), if_pos trivial, if_pos hs, hb]
theorem BigR.brace_no (hP : P[pc]? = some (.op 7 a b)) (hs : sp < src.length ∧ rd src sp = a → bal src a b (src.length - (sp + 1)) (sp + 1) 1 = none) : BigR src P rl pc sp cs (none, cs) := by
  refine BigR.of (F := fun k => some (none, cs)) (fun k => ?_) ⟨0, fun _ _ => rfl⟩
  rw [vm, hP]
  simp only
  rw [if_neg (by omega), if_neg (by omega), if_neg (by omega), if_neg (by omega), if_neg (by omega), if_neg (by omega), if_pos trivial]
  by_cases h : sp < src.length ∧ rd src sp = a
  · rw [if_pos h, hs h]
  · rw [if_neg h]
theorem BigR.back {s e : Nat} (hP : P[pc]? = some (.op 8 a b)) (h0 : cs[a.toNat * 2]? = some (2 * (s : Int))) (h1 : cs[a.toNat * 2 + 1]? = some (2 * (e : Int))) (hse : s ≤ e) (he : e ≤ src.length) :
    ((src.drop s).take (e - s) = (src.drop sp).take (e - s) → BigR src P rl (pc + 1) (sp + (e - s)) cs res → BigR src P rl pc sp cs res) ∧
    ((src.drop s).take (e - s) ≠ (src.drop sp).take (e - s) → BigR src P rl pc sp cs (none, cs)) := by
  have hlt : a.toNat * 2 + 1 < cs.length := (List.getElem?_eq_some_iff.1 h1).1
  have e0 : (cs.getD (a.toNat * 2) 0 / 2).toNat = s := by rw [List.getD_eq_getElem?_getD, h0, Option.getD_some]; omega
  have e1 : (cs.getD (a.toNat * 2 + 1) 0 / 2).toNat = e := by rw [List.getD_eq_getElem?_getD, h1, Option.getD_some]; omega
  constructor
  · intro hq h
    refine BigR.of (F := fun k => vm src P k rl (pc + 1) (sp + (e - s)) cs) (fun k => ?_) h
    rw [vm, hP]
    simp only
    rw [if_neg (by omega), if_neg (by omega), if_neg (by omega), if_neg (by omega), if_neg (by omega), if_neg (by omega), if_neg (by omega), if_pos trivial, if_pos hlt, e0, e1, if_pos ⟨hse, he⟩, if_pos hq]
  · intro hq
    refine BigR.of (F := fun k => some (none, cs)) (fun k => ?_) ⟨0, fun _ _ => rfl⟩
    rw [vm, hP]
    simp only
    rw [if_neg (by omega), if_neg (by omega), if_neg (by omega), if_neg (by omega), if_neg (by omega), if_neg (by omega), if_neg (by omega), if_pos trivial, if_pos hlt, e0, e1, if_pos ⟨hse, he⟩, if_neg hq]
end
section
variable {cs : List Int} {s j sp : Nat} {x v : Int}
theorem ext_size : (ext cs s).length = max cs.length (s + 1) := by simp [ext]; omega
theorem ext_get (h : cs[j]? = some v) : (ext cs s)[j]? = some v := by
  have := (List.getElem?_eq_some_iff.1 h).1
  unfold ext
  rw [List.getElem?_append_left this, h]
theorem setc_len : (setc cs s x).length = max cs.length (s + 1) := by unfold setc; rw [List.length_set, ext_size]
theorem setc_eq : (setc cs s x)[s]? = some x := by
  unfold setc
  rw [List.getElem?_set_self (by rw [ext_size]; omega)]
theorem setc_ne (hj : j ≠ s) (h : cs[j]? = some v) : (setc cs s x)[j]? = some v := by
  unfold setc
  rw [List.getElem?_set_ne (Ne.symm hj), ext_get h]
theorem setp_len : (setp cs s sp).length = max cs.length (s + 2) := by unfold setp; rw [List.length_set, List.length_set, ext_size]
theorem setp_eq : (setp cs s sp)[s]? = some (2 * ((sp : Int) + 1) + 1) := by
  unfold setp
  rw [List.getElem?_set_ne (by omega), List.getElem?_set_self (by rw [ext_size]; omega)]
  simp
theorem setp_eq2 : (setp cs s sp)[s + 1]? = some (2 * ((sp : Int) + 1) + 1) := by
  unfold setp
  rw [List.getElem?_set_self (by rw [List.length_set, ext_size]; omega)]
  simp
theorem setp_ne (h1 : j ≠ s) (h2 : j ≠ s + 1) (h : cs[j]? = some v) : (setp cs s sp)[j]? = some v := by
  unfold setp
  rw [List.getElem?_set_ne (Ne.symm h2), List.getElem?_set_ne (Ne.symm h1), ext_get h]
end
end Go.Proofs.YtpjfjfloeejgiaaFmt.Vm
/- The plain matcher of package pm answers as the reference's items tell. -/
set_option linter.unusedVariables false
set_option linter.unusedSimpArgs false
namespace Go.Proofs.YtpjfjfloeejgiaaFmt.Vm
open Go.RowKit Go.Proofs.YtpjfjfloeejgiaaFmtW.PrintWords Go.Proofs.YtpjfjfloeejgiaaFmt.Cls Go.Proofs.YtpjfjfloeejgiaaFmt.Ins Go.Proofs.YtpjfjfloeejgiaaFmt.Mst Go.Proofs.YtpjfjfloeejgiaaFmt.Mat Go.Proofs.YtpjfjfloeejgiaaFmt.Rf Go.Proofs.YtpjfjfloeejgiaaFmt.PFnPatternFirst

/-- A set of the reference holds what a class of the package holds. -/
structure SetIs (set : List Bool) (c : Cls) : Prop where
  len : set.length = 128
  get : ∀ b : Nat, b < 128 → set.getD b false = clsm c (b : Int)
  few : ∀ neg al, c = .set neg al → al.length ≤ 1000000
/-- The instructions of an item at a place. -/
inductive Blk1 : Nat → S147 → List Ins → Prop
  | opn {i x} (h : x.f0 = 2) : Blk1 i x [.op 5 (2 * x.f3) (-1)]
  | cls {i x} (h : x.f0 = 3) : Blk1 i x [.op 5 (2 * x.f3 + 1) (-1)]
  | plc {i x} (h : x.f0 = 4) : Blk1 i x [.op 6 (2 * x.f3) (-1)]
  | bck {i x} (h : x.f0 = 5) : Blk1 i x [.op 8 x.f3 (-1)]
  | pair {i x} (h : x.f0 = 6) : Blk1 i x [.op 7 x.f4 x.f5]
  | one {i x c} (h : x.f0 = 1) (hs : SetIs x.f1 c) (hr : x.f2 = 32) : Blk1 i x [.chr c]
  | star {i x c} (h : x.f0 = 1) (hs : SetIs x.f1 c) (hr : x.f2 = 42) : Blk1 i x [.op 4 ((i : Int) + 1) ((i : Int) + 3), .chr c, .op 3 i (-1)]
  | plus {i x c} (h : x.f0 = 1) (hs : SetIs x.f1 c) (hr : x.f2 = 43) : Blk1 i x [.chr c, .op 4 i ((i : Int) + 2)]
  | lazy {i x c} (h : x.f0 = 1) (hs : SetIs x.f1 c) (hr : x.f2 = 45) : Blk1 i x [.op 4 ((i : Int) + 3) ((i : Int) + 1), .chr c, .op 3 i (-1)]
  | opt {i x c} (h : x.f0 = 1) (hs : SetIs x.f1 c) (hr : x.f2 = 63) : Blk1 i x [.op 4 ((i : Int) + 1) ((i : Int) + 2), .chr c]
/-- The instructions of items. -/
inductive Seg : Nat → List S147 → List Ins → Prop
  | nil (i) : Seg i [] []
  | cons {i x L its L'} : Blk1 i x L → Seg (i + L.length) its L' → Seg i (x :: its) (L ++ L')
theorem Seg.append {i : Nat} {a b : List S147} {L M : List Ins} (h : Seg i a L) (k : Seg (i + L.length) b M) : Seg i (a ++ b) (L ++ M) := by
  induction h with
  | nil i => exact k
  | cons h1 h2 ih =>
    rw [List.cons_append, List.append_assoc]
    refine Seg.cons h1 (ih ?_)
    rw [List.length_append, ← Nat.add_assoc] at k
    exact k
theorem Seg.one {i : Nat} {x : S147} {L : List Ins} (h : Blk1 i x L) : Seg i [x] L := by
  have := Seg.cons h (Seg.nil _)
  rwa [List.append_nil] at this
/-- How many captures there are behind items. -/
def capsEnd : List S147 → Nat → Nat
  | [], c => c
  | x :: r, c => capsEnd r (if x.f0 = 2 ∨ x.f0 = 4 then c + 1 else c)
theorem capsEnd_le : ∀ (its : List S147) (c : Nat), c ≤ capsEnd its c := by
  intro its
  induction its with
  | nil => intro c; exact Nat.le_refl _
  | cons x r ih => 
    intro c
    unfold capsEnd
    by_cases hq : x.f0 = 2 ∨ x.f0 = 4
    · rw [if_pos hq]; have := ih (c + 1); omega
    · rw [if_neg hq]; exact ih c
/-- The captures as the package keeps them. -/
def RelC (caps : List S74) (cs : List Int) : Prop := ∀ (j : Nat) (c : S74), caps[j]? = some c →
  (c.f1 = -2 → cs[2 * (j + 1)]? = some (2 * (c.f0 + 1) + 1) ∧ cs[2 * (j + 1) + 1]? = some (2 * (c.f0 + 1) + 1)) ∧
  (c.f1 ≠ -2 → cs[2 * (j + 1)]? = some (2 * c.f0)) ∧ (0 ≤ c.f1 → cs[2 * (j + 1) + 1]? = some (2 * (c.f0 + c.f1)))
/-- What the matcher leaves behind. -/
def Post (s : List Int) (n at_ : Nat) (caps : List S74) (cs cs' : List Int) : Option (Nat × List S74) → Prop
  | none => RelC caps cs' ∧ cs'[0]? = cs[0]? ∧ cs'.length ≤ 2 * n + 2
  | some (e, caps') => RelC caps' cs' ∧ cs'[0]? = cs[0]? ∧ cs'.length ≤ 2 * n + 2 ∧ cs'[1]? = some (2 * (e : Int)) ∧ caps'.length = n ∧ CapsOk e caps' [] ∧ at_ ≤ e ∧ e ≤ s.length
def Goal (s : List Int) (P : List Ins) (n rl pc at_ : Nat) (caps : List S74) (cs : List Int) (r : Option (Nat × List S74)) : Prop :=
  ∃ cs', BigR s P rl pc at_ cs (r.map (·.1), cs') ∧ Post s n at_ caps cs cs' r

section
variable {s : List Int} {P : List Ins} {n rl pc at_ : Nat} {caps caps2 : List S74} {cs : List Int} {r : Option (Nat × List S74)} {a b : Int}
theorem get0 {cs : List Int} (h0 : 0 < cs.length) : cs[0]? = some (cs[0]) := List.getElem?_eq_getElem h0
theorem Post.back {at2 : Nat} {cs0 cs' : List Int} (hle : at_ ≤ at2) (hrel : ∀ cs1, RelC caps2 cs1 → RelC caps cs1) (h0 : cs0[0]? = cs[0]?) (h : Post s n at2 caps2 cs0 cs' r) : Post s n at_ caps cs cs' r := by
  cases r with
  | none => exact ⟨hrel _ h.1, h.2.1.trans h0, h.2.2⟩
  | some y =>
    obtain ⟨e, caps'⟩ := y
    obtain ⟨k1, k2, k3, k4, k5, k6, k7, k8⟩ := h
    exact ⟨k1, k2.trans h0, k3, k4, k5, k6, by omega, k8⟩
theorem goal_save (hP : P[pc]? = some (.op 5 a b)) (hr : rl < 1000000) (ha : 1 ≤ a.toNat) (h0 : 0 < cs.length) (hrel : ∀ cs1, RelC caps2 cs1 → RelC caps cs1)
    (hset : ∀ cs1 y, RelC caps cs1 → RelC caps (cs1.set a.toNat y)) (h : Goal s P n (rl + 1) (pc + 1) at_ caps2 (setc cs a.toNat (2 * at_)) r) : Goal s P n rl pc at_ caps cs r := by
  obtain ⟨cs', hv, hp⟩ := h
  have e0 : (setc cs a.toNat (2 * (at_ : Int)))[0]? = cs[0]? := by rw [get0 h0]; exact setc_ne (by omega) (get0 h0)
  cases r with
  | none => exact ⟨_, BigR.save_no hP hr hv, hset _ _ (hrel _ hp.1), (List.getElem?_set_ne (by omega)).trans (hp.2.1.trans e0), by rw [List.length_set]; exact hp.2.2⟩
  | some y =>
    exact ⟨cs', BigR.save_yes hP hr hv, hp.back (Nat.le_refl _) hrel e0⟩
theorem RelC.new {c : S74} {cs1 : List Int} (h : RelC (caps ++ [c]) cs1) : RelC caps cs1 := by
  intro j d hd
  exact h j d (by rw [List.getElem?_append_left (List.getElem?_eq_some_iff.1 hd).1]; exact hd)
theorem RelC.set_far {i : Nat} {y : Int} {cs1 : List Int} (h : RelC caps cs1) (hi : 2 * (caps.length + 1) ≤ i) : RelC caps (cs1.set i y) := by
  intro j d hd
  have hj := (List.getElem?_eq_some_iff.1 hd).1
  obtain ⟨k1, k2, k3⟩ := h j d hd
  rw [List.getElem?_set_ne (by omega), List.getElem?_set_ne (by omega)]
  exact ⟨k1, k2, k3⟩
theorem RelC.setc_far {i : Nat} {y : Int} {cs1 : List Int} (h : RelC caps cs1) (hi : 2 * (caps.length + 1) ≤ i) : RelC caps (setc cs1 i y) := by
  intro j d hd
  have hj := (List.getElem?_eq_some_iff.1 hd).1
  obtain ⟨k1, k2, k3⟩ := h j d hd
  exact ⟨fun e => ⟨setc_ne (by omega) (k1 e).1, setc_ne (by omega) (k1 e).2⟩, fun e => setc_ne (by omega) (k2 e), fun e => setc_ne (by omega) (k3 e)⟩
theorem RelC.begin (h : RelC caps cs) : RelC (caps ++ [⟨at_, -1⟩]) (setc cs (2 * (caps.length + 1)) (2 * at_)) := by
  intro j d hd
  rw [List.getElem?_append] at hd
  split at hd
  · exact h.setc_far (Nat.le_refl _) j d hd
  · rename_i hj
    rw [List.getElem?_singleton] at hd
    split at hd
    · cases hd
      have : j = caps.length := by omega
      subst this
      exact ⟨fun e => by simp at e, fun _ => setc_eq, fun e => by simp at e⟩
    · cases hd
theorem RelC.place (h : RelC caps cs) : RelC (caps ++ [⟨at_, -2⟩]) (setp cs (2 * (caps.length + 1)) at_) := by
  intro j d hd
  rw [List.getElem?_append] at hd
  split at hd
  · have hj := (List.getElem?_eq_some_iff.1 hd).1
    obtain ⟨k1, k2, k3⟩ := h j d hd
    exact ⟨fun e => ⟨setp_ne (by omega) (by omega) (k1 e).1, setp_ne (by omega) (by omega) (k1 e).2⟩, fun e => setp_ne (by omega) (by omega) (k2 e), fun e => setp_ne (by omega) (by omega) (k3 e)⟩
  · rename_i hj
    rw [List.getElem?_singleton] at hd
    split at hd
    · cases hd
      have : j = caps.length := by omega
      subst this
      exact ⟨fun _ => ⟨setp_eq, setp_eq2⟩, fun e => by simp at e, fun e => by simp at e⟩
    · cases hd
theorem RelC.close {i : Nat} {c : S74} (h : RelC caps cs) (hc : caps[i]? = some c) (h1 : c.f1 = -1) (hle : c.f0 ≤ at_) : RelC (caps.set i ⟨c.f0, at_ - c.f0⟩) (setc cs (2 * (i + 1) + 1) (2 * at_)) := by
  intro j d hd
  rw [List.getElem?_set] at hd
  split at hd
  · rename_i hj
    subst hj
    split at hd
    · cases hd
      simp only
      have k := (h _ _ hc).2.1 (by omega)
      refine ⟨fun e => by omega, fun e => setc_ne (by omega) k, fun e => ?_⟩
      · rw [setc_eq]; congr 1; omega
    · cases hd
  · rename_i hj
    obtain ⟨k1, k2, k3⟩ := h j d hd
    exact ⟨fun e => ⟨setc_ne (by omega) (k1 e).1, setc_ne (by omega) (k1 e).2⟩, fun e => setc_ne (by omega) (k2 e), fun e => setc_ne (by omega) (k3 e)⟩
/-- Counts from the greatest down. -/
def desc (m : Nat) : List Nat := (List.range (m + 1)).map (fun j => m - j)
theorem desc_succ (m : Nat) : desc (m + 1) = (desc m).map (· + 1) ++ [0] := by
  unfold desc
  rw [List.range_succ (n := m + 1), List.map_append, List.map_map]
  congr 1
  · refine List.map_congr_left fun j hj => ?_
    have := List.mem_range.1 hj
    simp only [Function.comp]
    omega
  · simp
theorem firsts_append (f : Nat → DenR) (xs ys : List Nat) : firsts f (xs ++ ys) = (match firsts f xs with | none => none | some (some r) => some (some r) | some none => firsts f ys) := by
  induction xs with
  | nil => rfl
  | cons x xs ih =>
    rw [List.cons_append]
    simp only [firsts]
    cases f x with
    | none => rfl
    | some y =>
      cases y with
      | none => exact ih
      | some z => rfl
theorem firsts_map (f : Nat → DenR) (g : Nat → Nat) (xs : List Nat) : firsts f (xs.map g) = firsts (fun k => f (g k)) xs := by
  induction xs with
  | nil => rfl
  | cons x xs ih =>
    rw [List.map_cons]
    simp only [firsts]
    rw [ih]
theorem firsts_one (f : Nat → DenR) (x : Nat) : firsts f [x] = f x := by
  simp only [firsts]
  rcases f x with _ | _ | _ <;> rfl
theorem run_zero {set : List Bool} {a : Nat} (ha : a ≤ s.length) (h : run s set (s.length + 1 - a) a = 0) : ¬ (a < s.length ∧ set.getD (rd s a).toNat false = true) := by
  intro hc
  rw [show s.length + 1 - a = (s.length - a) + 1 by omega] at h
  unfold run at h
  rw [if_pos hc] at h
  omega
theorem run_succ {set : List Bool} {a m : Nat} (ha : a ≤ s.length) (h : run s set (s.length + 1 - a) a = m + 1) : (a < s.length ∧ set.getD (rd s a).toNat false = true) ∧ run s set (s.length + 1 - (a + 1)) (a + 1) = m := by
  rw [show s.length + 1 - a = (s.length - a) + 1 by omega] at h
  unfold run at h
  by_cases hc : a < s.length ∧ set.getD (rd s a).toNat false = true
  · rw [if_pos hc] at h
    refine ⟨hc, ?_⟩
    rw [show s.length + 1 - (a + 1) = s.length - a by omega]
    omega
  · rw [if_neg hc] at h; omega
theorem set_cls {set : List Bool} {c : Cls} (hset : SetIs set c) (hby : ∀ x ∈ s, 0 ≤ x ∧ x ≤ 127) {a : Nat} (ha : a < s.length) : set.getD (rd s a).toNat false = clsm c (rd s a) := by
  have hm : rd s a ∈ s := by
    have : rd s (a : Int) = s[a] := by simp [rd, List.getD_eq_getElem?_getD, List.getElem?_eq_getElem ha]
    rw [this]
    exact List.getElem_mem ha
  have := hby _ hm
  rw [hset.get _ (by omega), Int.toNat_of_nonneg this.1]
/-- What comes behind, from any place on. -/
def Cont (s : List Int) (P : List Ins) (n pcR : Nat) (caps : List S74) (lo bound : Nat) (R : Nat → DenR) : Prop :=
  ∀ (at2 : Nat) (cs : List Int) (rl : Nat) (r : Option (Nat × List S74)), lo ≤ at2 → at2 ≤ s.length → RelC caps cs → 0 < cs.length → cs.length ≤ 2 * n + 2 → rl + bound + (s.length - at2) ≤ 1000000 → R at2 = some r → Goal s P n rl pcR at2 caps cs r
theorem len0 {cs cs1 : List Int} (h0 : 0 < cs.length) (h : cs1[0]? = cs[0]?) : 0 < cs1.length := by
  rw [get0 h0] at h
  exact (List.getElem?_eq_some_iff.1 h).1
theorem greedy {q a0 pcR lo bound : Nat} {A B : Int} {c : Cls} {set : List Bool} {R : Nat → DenR} (hq : P[q]? = some (.op 4 A B)) (hA : A.toNat = a0) (hB : B.toNat = pcR) (ha : P[a0]? = some (.chr c))
    (hj : ∀ at2 cs rl res, BigR s P rl q at2 cs res → BigR s P rl (a0 + 1) at2 cs res) (hset : SetIs set c) (hby : ∀ x ∈ s, 0 ≤ x ∧ x ≤ 127) (hC : Cont s P n pcR caps lo bound R) :
    ∀ (m at_ : Nat) (cs : List Int) (rl : Nat) (r : Option (Nat × List S74)), lo ≤ at_ → at_ ≤ s.length → run s set (s.length + 1 - at_) at_ = m → RelC caps cs → 0 < cs.length → cs.length ≤ 2 * n + 2 →
      rl + bound + 1 + (s.length - at_) ≤ 1000000 → firsts (fun k => R (at_ + k)) (desc m) = some r → Goal s P n rl q at_ caps cs r := by
  intro m
  induction m with
  | zero =>
    intro at_ cs rl r hlo hat hrun hrel h0 hlen hb hd
    have hno := run_zero hat hrun
    rw [show desc 0 = [0] from rfl, firsts_one] at hd
    obtain ⟨cs', hv, hp⟩ := hC at_ cs rl r hlo hat hrel h0 hlen (by omega) hd
    refine ⟨cs', BigR.split_no hq (by omega) (cs1 := cs) ?_ (hB ▸ hv), hp⟩
    rw [hA]
    exact BigR.chr_no ha (fun hc => hno ⟨hc.1, (set_cls hset hby hc.1).trans hc.2⟩)
  | succ m ih =>
    intro at_ cs rl r hlo hat hrun hrel h0 hlen hb hd
    obtain ⟨hc, hrun2⟩ := run_succ hat hrun
    have hcc := (set_cls hset hby hc.1).symm.trans hc.2
    rw [desc_succ, firsts_append, firsts_map, firsts_one] at hd
    have hfun : (fun k => R (at_ + (k + 1))) = (fun k => R (at_ + 1 + k)) := by funext k; congr 1; omega
    rw [hfun] at hd
    cases hD : firsts (fun k => R (at_ + 1 + k)) (desc m) with
    | none => rw [hD] at hd; cases hd
    | some y =>
      rw [hD] at hd
      have hI := ih (at_ + 1) cs (rl + 1) y (by omega) (by omega) hrun2 hrel h0 hlen (by omega) hD
      obtain ⟨cs1, hv, hp⟩ := hI
      cases y with
      | some z =>
        simp only [Option.some.injEq] at hd
        subst hd
        refine ⟨cs1, BigR.split_yes hq (by omega) ?_, hp.back (by omega) (fun _ h => h) rfl⟩
        rw [hA]
        exact BigR.chr_ok ha hc.1 hcc (hj _ _ _ _ hv)
      | none =>
        simp only at hd
        obtain ⟨p1, p2, p3⟩ := hp
        obtain ⟨cs', hv2, hp2⟩ := hC at_ cs1 rl r hlo hat p1 (len0 h0 p2) p3 (by omega) hd
        refine ⟨cs', BigR.split_no hq (by omega) (cs1 := cs1) ?_ (hB ▸ hv2), hp2.back (Nat.le_refl _) (fun _ h => h) p2⟩
        rw [hA]
        exact BigR.chr_ok ha hc.1 hcc (hj _ _ _ _ hv)
theorem lazy_ {q a0 pcR lo bound : Nat} {A B : Int} {c : Cls} {set : List Bool} {R : Nat → DenR} (hq : P[q]? = some (.op 4 A B)) (hA : A.toNat = pcR) (hB : B.toNat = a0) (ha : P[a0]? = some (.chr c))
    (hj : ∀ at2 cs rl res, BigR s P rl q at2 cs res → BigR s P rl (a0 + 1) at2 cs res) (hset : SetIs set c) (hby : ∀ x ∈ s, 0 ≤ x ∧ x ≤ 127) (hC : Cont s P n pcR caps lo bound R) :
    ∀ (m at_ : Nat) (cs : List Int) (rl : Nat) (r : Option (Nat × List S74)), lo ≤ at_ → at_ ≤ s.length → run s set (s.length + 1 - at_) at_ = m → RelC caps cs → 0 < cs.length → cs.length ≤ 2 * n + 2 →
      rl + bound + 1 + (s.length - at_) ≤ 1000000 → firsts (fun k => R (at_ + k)) (List.range (m + 1)) = some r → Goal s P n rl q at_ caps cs r := by
  intro m
  induction m with
  | zero =>
    intro at_ cs rl r hlo hat hrun hrel h0 hlen hb hd
    have hno := run_zero hat hrun
    rw [show List.range (0 + 1) = [0] from rfl, firsts_one] at hd
    obtain ⟨cs', hv, hp⟩ := hC at_ cs (rl + 1) r hlo hat hrel h0 hlen (by omega) hd
    cases r with
    | some z => exact ⟨cs', BigR.split_yes hq (by omega) (hA ▸ hv), hp⟩
    | none =>
      refine ⟨cs', BigR.split_no hq (by omega) (hA ▸ hv) ?_, hp⟩
      rw [hB]
      exact BigR.chr_no ha (fun hc => hno ⟨hc.1, (set_cls hset hby hc.1).trans hc.2⟩)
  | succ m ih =>
    intro at_ cs rl r hlo hat hrun hrel h0 hlen hb hd
    obtain ⟨hc, hrun2⟩ := run_succ hat hrun
    have hcc := (set_cls hset hby hc.1).symm.trans hc.2
    rw [List.range_succ_eq_map] at hd
    simp only [firsts] at hd
    cases hD : R (at_ + 0) with
    | none => rw [hD] at hd; cases hd
    | some y =>
      rw [hD] at hd
      obtain ⟨cs1, hv, hp⟩ := hC at_ cs (rl + 1) y hlo hat hrel h0 hlen (by omega) hD
      cases y with
      | some z =>
        simp only [Option.some.injEq] at hd
        subst hd
        exact ⟨cs1, BigR.split_yes hq (by omega) (hA ▸ hv), hp⟩
      | none =>
        simp only at hd
        rw [firsts_map] at hd
        have hfun : (fun k => R (at_ + Nat.succ k)) = (fun k => R (at_ + 1 + k)) := by funext k; congr 1; omega
        rw [hfun] at hd
        obtain ⟨p1, p2, p3⟩ := hp
        obtain ⟨cs', hv2, hp2⟩ := ih (at_ + 1) cs1 rl r (by omega) (by omega) hrun2 p1 (len0 h0 p2) p3 (by omega) hd
        refine ⟨cs', BigR.split_no hq (by omega) (hA ▸ hv) ?_, hp2.back (by omega) (fun _ h => h) p2⟩
        rw [hB]
        exact BigR.chr_ok ha hc.1 hcc (hj _ _ _ _ hv2)
theorem bal_balS {a b : Int} (hab : a ≠ b) : ∀ (k i : Nat) (d : Int), 1 ≤ d → balS s a b k i d = bal s a b k i d := by
  intro k
  induction k with
  | zero => intro i d hd; rfl
  | succ k ih =>
    intro i d hd
    unfold balS bal
    by_cases h1 : rd s i = a
    · have h2 : ¬ rd s i = b := fun e => hab (h1.symm.trans e)
      rw [if_pos h1, if_neg h2, if_neg (by omega), if_neg (by omega), if_pos h1]
      exact ih _ _ (by omega)
    · rw [if_neg h1]
      by_cases h2 : rd s i = b
      · rw [if_pos h2]
        by_cases h3 : d - 1 = 0
        · rw [if_pos h3, if_pos h3]
        · rw [if_neg h3, if_neg h3, if_neg h1]
          exact ih _ _ (by omega)
      · rw [if_neg h2, if_neg (by omega), if_neg (by omega), if_neg h1]
        exact ih _ _ hd
theorem pBal_bal {a b : Int} (hab : a ≠ b) (at_ : Nat) : pBal s a b at_ = if at_ < s.length ∧ rd s at_ = a then bal s a b (s.length - (at_ + 1)) (at_ + 1) 1 else none := by
  unfold pBal
  by_cases h : at_ < s.length ∧ rd s at_ = a
  · rw [if_pos h, if_pos h, show s.length - at_ = (s.length - (at_ + 1)) + 1 by omega]
    unfold balS
    rw [if_pos h.2, if_neg (by omega)]
    exact bal_balS hab _ _ _ (by omega)
  · rw [if_neg h, if_neg h]
theorem get_drop {pc : Nat} {X : List Ins} (h : P.drop pc = X) (j : Nat) : P[pc + j]? = X[j]? := by rw [← h, List.getElem?_drop]
theorem RelC.setc1 (h : RelC caps cs) (y : Int) : RelC caps (setc cs 1 y) := by
  intro j d hd
  obtain ⟨k1, k2, k3⟩ := h j d hd
  exact ⟨fun e => ⟨setc_ne (by omega) (k1 e).1, setc_ne (by omega) (k1 e).2⟩, fun e => setc_ne (by omega) (k2 e), fun e => setc_ne (by omega) (k3 e)⟩
theorem RelC.set1 {cs1 : List Int} (h : RelC caps cs1) (y : Int) : RelC caps (cs1.set 1 y) := by
  intro j d hd
  obtain ⟨k1, k2, k3⟩ := h j d hd
  rw [List.getElem?_set_ne (by omega), List.getElem?_set_ne (by omega)]
  exact ⟨k1, k2, k3⟩
/-- The code of a whole pattern behind its items. -/
def fine (e : Bool) : List Ins := if e = true then [.op 5 1 (-1), .op 2 (-1) (-1), .op 5 1 (-1), .op 1 (-1) (-1)] else [.op 5 1 (-1), .op 1 (-1) (-1)]
def endI (e : Bool) : List S147 := if e = true then [⟨7, [], 0, 0, 0, 0⟩] else []
theorem vm_end {e : Bool} {opn : List Int} (hdrop : P.drop pc = fine e) (hw : Wf (endI e) caps.length opn) (hn : caps.length = n) (hc : CapsOk at_ caps opn) (hat : at_ ≤ s.length) (hrel : RelC caps cs)
    (h0 : 0 < cs.length) (hlen : cs.length ≤ 2 * n + 2) (hb : rl + 5 + (s.length - at_) ≤ 1000000) (hd : den s (endI e) at_ caps = some r) : Goal s P n rl pc at_ caps cs r := by
  have g0 := get_drop hdrop 0
  have g1 := get_drop hdrop 1
  have hl2 : (setc cs 1 (2 * (at_ : Int))).length ≤ 2 * n + 2 := by rw [setc_len]; omega
  have e0 : (setc cs 1 (2 * (at_ : Int)))[0]? = cs[0]? := by rw [get0 h0]; exact setc_ne (by omega) (get0 h0)
  have yes : ∀ {opn : List Int}, opn = [] → CapsOk at_ caps opn → Post s n at_ caps cs (setc cs 1 (2 * (at_ : Int))) (some (at_, caps)) := by
    rintro opn rfl hc
    exact ⟨hrel.setc1 _, e0, hl2, setc_eq, hn, hc, Nat.le_refl _, hat⟩
  cases e with
  | false =>
    unfold fine at g0 g1
    simp at g0 g1
    unfold endI at hd hw
    simp [den] at hd
    simp [Wf] at hw
    subst hd
    exact ⟨_, BigR.save_yes g0 (by omega) (BigR.fit g1), yes hw hc⟩
  | true =>
    unfold fine at g0 g1
    simp at g0 g1
    unfold endI at hd hw
    simp [den] at hd
    simp [Wf] at hw
    by_cases hlt : at_ < s.length
    · rw [if_pos hlt] at hd
      obtain rfl := Option.some.inj hd
      refine ⟨_, BigR.save_no g0 (by omega) (cs1 := setc cs 1 (2 * (at_ : Int))) ?_, (hrel.setc1 _).set1 _, (List.getElem?_set_ne (by decide)).trans e0, by rw [List.length_set]; exact hl2⟩
      have := BigR.tail (src := s) (P := P) (rl := rl + 1) (sp := at_) (cs := setc cs 1 (2 * (at_ : Int))) g1
      rw [if_neg (by omega)] at this
      exact this
    · rw [if_neg hlt] at hd
      obtain rfl := Option.some.inj hd
      refine ⟨_, BigR.save_yes g0 (by omega) (cs1 := setc cs 1 (2 * (at_ : Int))) ?_, yes hw hc⟩
      have := BigR.tail (src := s) (P := P) (rl := rl + 1) (sp := at_) (cs := setc cs 1 (2 * (at_ : Int))) g1
      rw [if_pos (by omega)] at this
      exact this
/-- The matcher answers as the items tell. -/
theorem vm_den {e : Bool} (hby : ∀ x ∈ s, 0 ≤ x ∧ x ≤ 127) : ∀ (its : List S147) (pc : Nat) (L : List Ins) (caps : List S74) (opn : List Int) (at_ : Nat) (cs : List Int) (rl : Nat) (r : Option (Nat × List S74)),
    Seg pc its L → P.drop pc = L ++ fine e → Wf (its ++ endI e) caps.length opn → capsEnd its caps.length = n → CapsOk at_ caps opn → at_ ≤ s.length → RelC caps cs → 0 < cs.length → cs.length ≤ 2 * n + 2 →
    rl + 2 * its.length + 5 + (s.length - at_) ≤ 1000000 → den s (its ++ endI e) at_ caps = some r → Goal s P n rl pc at_ caps cs r := by
  intro its
  induction its with
  | nil =>
    intro pc L caps opn at_ cs rl r hseg hdrop hw hn hc hat hrel h0 hlen hb hd
    cases hseg
    exact vm_end hdrop hw hn hc hat hrel h0 hlen (by simpa using hb) hd
  | cons x its ih =>
    intro pc L caps opn at_ cs rl r hseg hdrop hw hn hc hat hrel h0 hlen hb hd
    cases hseg with
    | cons h1 h2 =>
    rename_i L1 L2
    rw [List.append_assoc] at hdrop
    have hrest : P.drop (pc + L1.length) = L2 ++ fine e := by
      rw [← List.drop_drop, hdrop, List.drop_left]
    rw [List.length_cons] at hb
    rw [List.cons_append] at hw hd
    unfold Wf at hw
    unfold den at hd
    unfold capsEnd at hn
    have cont : ∀ {opn : List Int} (hw : Wf (its ++ endI e) caps.length opn) (hn : capsEnd its caps.length = n) (hc : CapsOk at_ caps opn), Cont s P n (pc + L1.length) caps at_ (2 * its.length + 5) (fun a => den s (its ++ endI e) a caps) :=
      fun hw hn hc at2 cs2 rl2 r2 k1 k2 k3 k4 k5 k6 k7 => ih _ _ _ _ _ _ _ _ h2 hrest hw hn (hc.mono k1) k2 k3 k4 k5 (by omega) k7
    cases h1 with
    | opn h =>
      rw [if_pos h] at hw hd
      rw [if_pos (.inl h)] at hn
      have hcl := capsEnd_le its (caps.length + 1)
      rw [hw.1, show ((caps.length : Int) + 1).toNat = caps.length + 1 by omega, withC_new] at hd
      have hP : P[pc]? = some (.op 5 (2 * x.f3) (-1)) := get_drop hdrop 0
      have e2 : (2 * x.f3).toNat = 2 * (caps.length + 1) := by rw [hw.1]; omega
      refine goal_save (caps2 := caps ++ [⟨at_, -1⟩]) hP (by omega) (by omega) h0 (fun _ h => h.new) (fun cs1 y h => by rw [e2]; exact h.set_far (Nat.le_refl _)) ?_
      rw [e2]
      refine ih _ _ _ _ _ _ _ _ h2 hrest (by rw [List.length_append, List.length_singleton]; exact hw.2) (by rw [List.length_append, List.length_singleton]; exact hn) hc.begin hat hrel.begin ?_ ?_ (by omega) hd
      · rw [setc_len]; omega
      · rw [setc_len]; omega
    | cls h =>
      rw [if_neg (by omega), if_pos h] at hw hd
      rw [if_neg (by omega)] at hn
      obtain ⟨k1, k2, c, k3, k4⟩ := hc.lastCap hw.1
      have kok := hc.ok _ _ k3
      rw [k3] at hd
      simp only at hd
      rw [withC_old (by omega)] at hd
      have hP : P[pc]? = some (.op 5 (2 * x.f3 + 1) (-1)) := get_drop hdrop 0
      have e2 : (2 * x.f3 + 1).toNat = 2 * ((x.f3.toNat - 1) + 1) + 1 := by omega
      have hcl := capsEnd_le its caps.length
      refine goal_save (caps2 := caps.set (x.f3.toNat - 1) ⟨c.f0, at_ - c.f0⟩) hP (by omega) (by omega) h0 (fun cs1 hr => ?_) (fun cs1 y hr => ?_) ?_
      · intro j d hd
        by_cases hj : x.f3.toNat - 1 = j
        · subst hj
          rw [k3] at hd
          cases hd
          have := hr (x.f3.toNat - 1) ⟨c.f0, at_ - c.f0⟩ (by rw [List.getElem?_set_self (by omega)])
          exact ⟨fun e => by omega, fun _ => this.2.1 (by simp only; omega), fun e => by omega⟩
        · exact hr j d (by rw [List.getElem?_set_ne hj]; exact hd)
      · rw [e2]
        intro j d hd
        obtain ⟨m1, m2, m3⟩ := hr j d hd
        by_cases hj : x.f3.toNat - 1 = j
        · subst hj
          rw [k3] at hd
          cases hd
          refine ⟨fun e => by omega, fun e => ?_, fun e => by omega⟩
          rw [List.getElem?_set_ne (by omega)]
          exact m2 e
        · rw [List.getElem?_set_ne (by omega), List.getElem?_set_ne (by omega)]
          exact ⟨m1, m2, m3⟩
      · rw [e2]
        refine ih _ _ _ _ _ _ _ _ h2 hrest (by rw [List.length_set]; exact hw.2) (by rw [List.length_set]; exact hn) (hc.close hw.1 k3) hat (hrel.close k3 k4 (by omega)) ?_ ?_ (by omega) hd
        · rw [setc_len]; omega
        · rw [setc_len]; omega
    | plc h =>
      rw [if_neg (by omega), if_neg (by omega), if_pos h] at hw hd
      rw [if_pos (.inr h)] at hn
      have hcl := capsEnd_le its (caps.length + 1)
      rw [hw.1, show ((caps.length : Int) + 1).toNat = caps.length + 1 by omega, withC_new] at hd
      have hP : P[pc]? = some (.op 6 (2 * x.f3) (-1)) := get_drop hdrop 0
      have e2 : (2 * x.f3).toNat = 2 * (caps.length + 1) := by rw [hw.1]; omega
      have hI := ih (pc + 1) L2 (caps ++ [⟨at_, -2⟩]) opn at_ (setp cs (2 * (caps.length + 1)) at_) rl r h2 hrest (by rw [List.length_append, List.length_singleton]; exact hw.2) (by rw [List.length_append, List.length_singleton]; exact hn) hc.place hat hrel.place (by rw [setp_len]; omega) (by rw [setp_len]; omega) (by omega) hd
      obtain ⟨cs', hv, hp⟩ := hI
      refine ⟨cs', BigR.place hP (by rw [e2]; exact hv), hp.back (Nat.le_refl _) (fun _ h => h.new) ?_⟩
      rw [get0 h0]
      exact setp_ne (by omega) (by omega) (get0 h0)
    | bck h =>
      rw [if_neg (by omega), if_neg (by omega), if_neg (by omega), if_pos h] at hw hd
      rw [if_neg (by omega)] at hn
      obtain ⟨w1, w2, w3, w4⟩ := hw
      have hlt : x.f3.toNat - 1 < caps.length := by omega
      have hg := List.getElem?_eq_getElem hlt
      generalize caps[x.f3.toNat - 1] = c at hg
      have hk := hc.ok _ _ hg
      rw [hg] at hd
      simp only at hd
      have hP : P[pc]? = some (.op 8 x.f3 (-1)) := get_drop hdrop 0
      by_cases k1 : c.f1 < 0
      · rw [if_pos k1] at hd; cases hd
      rw [if_neg k1] at hd
      obtain ⟨m1, m2, m3⟩ := hrel _ _ hg
      have hB := BigR.back (src := s) (rl := rl) (sp := at_) (cs := cs) (res := (none, cs)) (s := c.f0.toNat) (e := (c.f0 + c.f1).toNat) hP (by
        rw [show x.f3.toNat * 2 = 2 * (x.f3.toNat - 1 + 1) by omega, m2 (by omega), Int.toNat_of_nonneg hk.1]) (by
        rw [show x.f3.toNat * 2 + 1 = 2 * (x.f3.toNat - 1 + 1) + 1 by omega, m3 (by omega), Int.toNat_of_nonneg (by omega)]) (by omega) (by omega)
      have e3 : (c.f0 + c.f1).toNat - c.f0.toNat = c.f1.toNat := by omega
      rw [e3] at hB
      by_cases k2 : (s.length : Int) < at_ + c.f1
      · rw [if_pos k2] at hd
        obtain rfl := Option.some.inj hd
        refine ⟨cs, hB.2 (fun he => ?_), hrel, rfl, hlen⟩
        have := congrArg List.length he
        simp only [List.length_take, List.length_drop] at this
        omega
      rw [if_neg k2] at hd
      rw [if_pos (by omega)] at hd
      by_cases k4 : (s.drop at_).take c.f1.toNat = (s.drop c.f0.toNat).take c.f1.toNat
      · rw [if_pos k4] at hd
        obtain ⟨cs', hv, hp⟩ := ih _ _ _ _ _ _ rl _ h2 hrest w4 hn (hc.mono (by omega : at_ ≤ at_ + c.f1.toNat)) (by omega) hrel h0 hlen (by omega) hd
        have hB2 := BigR.back (src := s) (rl := rl) (sp := at_) (cs := cs) (res := (r.map (·.1), cs')) (s := c.f0.toNat) (e := (c.f0 + c.f1).toNat) hP (by
          rw [show x.f3.toNat * 2 = 2 * (x.f3.toNat - 1 + 1) by omega, m2 (by omega), Int.toNat_of_nonneg hk.1]) (by
          rw [show x.f3.toNat * 2 + 1 = 2 * (x.f3.toNat - 1 + 1) + 1 by omega, m3 (by omega), Int.toNat_of_nonneg (by omega)]) (by omega) (by omega)
        rw [e3] at hB2
        exact ⟨cs', hB2.1 k4.symm hv, hp.back (by omega) (fun _ h => h) rfl⟩
      · rw [if_neg k4] at hd
        obtain rfl := Option.some.inj hd
        exact ⟨cs, hB.2 (fun he => k4 he.symm), hrel, rfl, hlen⟩
    | pair h =>
      rw [if_neg (by omega), if_neg (by omega), if_neg (by omega), if_neg (by omega), if_pos h] at hw hd
      rw [if_neg (by omega)] at hn
      have hP : P[pc]? = some (.op 7 x.f4 x.f5) := get_drop hdrop 0
      have hbb := pBal_bal (s := s) hw.1 at_
      cases hq : pBal s x.f4 x.f5 at_ with
      | none =>
        rw [hq] at hd
        obtain rfl := Option.some.inj hd
        refine ⟨cs, BigR.brace_no hP (fun hk => ?_), hrel, rfl, hlen⟩
        rw [if_pos hk, hq] at hbb
        exact hbb.symm
      | some e2 =>
        rw [hq] at hd
        simp only at hd
        have hle := pBal_le hq
        rw [hq] at hbb
        by_cases hk : at_ < s.length ∧ rd s at_ = x.f4
        · rw [if_pos hk] at hbb
          obtain ⟨cs', hv, hp⟩ := ih _ _ _ _ _ _ rl _ h2 hrest hw.2 hn (hc.mono (by omega : at_ ≤ e2)) (by omega) hrel h0 hlen (by omega) hd
          exact ⟨cs', BigR.brace_yes hP hk hbb.symm hv, hp.back (by omega) (fun _ h => h) rfl⟩
        · rw [if_neg hk] at hbb; cases hbb
    | one h hs hr =>
      rename_i c
      rw [if_neg (by omega), if_neg (by omega), if_neg (by omega), if_neg (by omega), if_neg (by omega), if_neg (by omega)] at hw hd
      rw [if_neg (by omega)] at hn
      have hC := cont hw.2.2 hn hc
      have hP : P[pc]? = some (.chr c) := get_drop hdrop 0
      rw [hr] at hd
      generalize hrun : run s x.f1 (s.length + 1 - at_) at_ = m at hd
      cases m with
      | zero =>
        have hno := run_zero hat hrun
        simp [Rf.counts, Rf.most, Rf.least, firsts] at hd
        subst hd
        exact ⟨cs, BigR.chr_no hP (fun hk => hno ⟨hk.1, (set_cls hs hby hk.1).trans hk.2⟩), hrel, rfl, hlen⟩
      | succ m =>
        obtain ⟨hk, hrun2⟩ := run_succ hat hrun
        have e4 : counts 32 (m + 1) = [1] := by
          simp only [Rf.counts, Rf.most, Rf.least]
          rw [if_pos (.inl trivial), if_pos (.inl trivial), Nat.min_eq_right (by omega)]
          rfl
        rw [e4, firsts_one] at hd
        obtain ⟨cs', hv, hp⟩ := hC (at_ + 1) cs rl r (by omega) (by omega) hrel h0 hlen (by omega) hd
        exact ⟨cs', BigR.chr_ok hP hk.1 ((set_cls hs hby hk.1).symm.trans hk.2) hv, hp.back (by omega) (fun _ h => h) rfl⟩
    | star h hs hr =>
      rename_i c
      rw [if_neg (by omega), if_neg (by omega), if_neg (by omega), if_neg (by omega), if_neg (by omega), if_neg (by omega)] at hw hd
      rw [if_neg (by omega)] at hn
      have hC := cont hw.2.2 hn hc
      have g0 : P[pc]? = some (.op 4 ((pc : Int) + 1) ((pc : Int) + 3)) := get_drop hdrop 0
      have g1 : P[pc + 1]? = some (.chr c) := get_drop hdrop 1
      have g2 : P[pc + 2]? = some (.op 3 pc (-1)) := get_drop hdrop 2
      have e4 : ∀ m, counts 42 m = desc m := fun m => by simp [Rf.counts, Rf.most, Rf.least, desc]
      rw [hr, e4] at hd
      exact greedy g0 (by omega) (by simp only [List.length_cons, List.length_nil]; omega) g1 (fun at2 cs2 rl2 res hv => BigR.jmp g2 (by rw [Int.toNat_natCast]; exact hv)) hs hby hC _ _ _ _ _ (Nat.le_refl _) hat rfl hrel h0 hlen (by omega) hd
    | plus h hs hr =>
      rename_i c
      rw [if_neg (by omega), if_neg (by omega), if_neg (by omega), if_neg (by omega), if_neg (by omega), if_neg (by omega)] at hw hd
      rw [if_neg (by omega)] at hn
      have hC := cont hw.2.2 hn hc
      have g0 : P[pc]? = some (.chr c) := get_drop hdrop 0
      have g1 : P[pc + 1]? = some (.op 4 pc ((pc : Int) + 2)) := get_drop hdrop 1
      rw [hr] at hd
      generalize hrun : run s x.f1 (s.length + 1 - at_) at_ = m at hd
      cases m with
      | zero =>
        have hno := run_zero hat hrun
        simp [Rf.counts, Rf.most, Rf.least, firsts] at hd
        subst hd
        exact ⟨cs, BigR.chr_no g0 (fun hk => hno ⟨hk.1, (set_cls hs hby hk.1).trans hk.2⟩), hrel, rfl, hlen⟩
      | succ m =>
        obtain ⟨hk, hrun2⟩ := run_succ hat hrun
        have e4 : counts 43 (m + 1) = (desc m).map (· + 1) := by
          simp only [Rf.counts, Rf.most, Rf.least, desc]
          rw [if_pos (.inr trivial), if_neg (by decide), List.map_map, show m + 1 + 1 - 1 = m + 1 by omega]
          refine List.map_congr_left fun j hj => ?_
          have := List.mem_range.1 hj
          simp only [Function.comp]
          rw [if_neg (by decide)]
          omega
        rw [e4, firsts_map] at hd
        have hfun : (fun k => den s (its ++ endI e) (at_ + (k + 1)) caps) = (fun k => den s (its ++ endI e) (at_ + 1 + k) caps) := by funext k; congr 1; omega
        rw [hfun] at hd
        obtain ⟨cs', hv, hp⟩ := greedy (R := fun a => den s (its ++ endI e) a caps) g1 (by omega) (by simp only [List.length_cons, List.length_nil]; omega) g0 (fun at2 cs2 rl2 res hv => hv) hs hby hC m (at_ + 1) cs rl r (by omega) (by omega) hrun2 hrel h0 hlen (by omega) hd
        exact ⟨cs', BigR.chr_ok g0 hk.1 ((set_cls hs hby hk.1).symm.trans hk.2) hv, hp.back (by omega) (fun _ h => h) rfl⟩
    | lazy h hs hr =>
      rename_i c
      rw [if_neg (by omega), if_neg (by omega), if_neg (by omega), if_neg (by omega), if_neg (by omega), if_neg (by omega)] at hw hd
      rw [if_neg (by omega)] at hn
      have hC := cont hw.2.2 hn hc
      have g0 : P[pc]? = some (.op 4 ((pc : Int) + 3) ((pc : Int) + 1)) := get_drop hdrop 0
      have g1 : P[pc + 1]? = some (.chr c) := get_drop hdrop 1
      have g2 : P[pc + 2]? = some (.op 3 pc (-1)) := get_drop hdrop 2
      have e4 : ∀ m, counts 45 m = List.range (m + 1) := fun m => by simp [Rf.counts, Rf.most, Rf.least]
      rw [hr, e4] at hd
      exact lazy_ g0 (by simp only [List.length_cons, List.length_nil]; omega) (by omega) g1 (fun at2 cs2 rl2 res hv => BigR.jmp g2 (by rw [Int.toNat_natCast]; exact hv)) hs hby hC _ _ _ _ _ (Nat.le_refl _) hat rfl hrel h0 hlen (by omega) hd
    | opt h hs hr =>
      rename_i c
      rw [if_neg (by omega), if_neg (by omega), if_neg (by omega), if_neg (by omega), if_neg (by omega), if_neg (by omega)] at hw hd
      rw [if_neg (by omega)] at hn
      have hC := cont hw.2.2 hn hc
      have g0 : P[pc]? = some (.op 4 ((pc : Int) + 1) ((pc : Int) + 2)) := get_drop hdrop 0
      have g1 : P[pc + 1]? = some (.chr c) := get_drop hdrop 1
      rw [hr] at hd
      generalize hrun : run s x.f1 (s.length + 1 - at_) at_ = m at hd
      have hA : ((pc : Int) + 1).toNat = pc + 1 := by omega
      have hB : ((pc : Int) + 2).toNat = pc + 2 := by omega
      cases m with
      | zero =>
        have hno := run_zero hat hrun
        have e4 : counts 63 0 = [0] := by decide
        rw [e4, firsts_one] at hd
        obtain ⟨cs', hv, hp⟩ := hC at_ cs rl r (Nat.le_refl _) hat hrel h0 hlen (by omega) hd
        refine ⟨cs', BigR.split_no g0 (by omega) (cs1 := cs) ?_ (by rw [hB]; exact hv), hp⟩
        rw [hA]
        exact BigR.chr_no g1 (fun hk => hno ⟨hk.1, (set_cls hs hby hk.1).trans hk.2⟩)
      | succ m =>
        obtain ⟨hk, hrun2⟩ := run_succ hat hrun
        have hcc := (set_cls hs hby hk.1).symm.trans hk.2
        have e4 : counts 63 (m + 1) = [1, 0] := by
          simp only [Rf.counts, Rf.most, Rf.least]
          rw [if_neg (by decide), if_pos (.inr trivial), Nat.min_eq_right (by omega)]
          rfl
        rw [e4] at hd
        simp only [firsts] at hd
        cases hD : den s (its ++ endI e) (at_ + 1) caps with
        | none => rw [hD] at hd; cases hd
        | some y =>
          rw [hD] at hd
          obtain ⟨cs1, hv, hp⟩ := hC (at_ + 1) cs (rl + 1) y (by omega) (by omega) hrel h0 hlen (by omega) hD
          cases y with
          | some z =>
            simp only [Option.some.injEq] at hd
            subst hd
            refine ⟨cs1, BigR.split_yes g0 (by omega) ?_, hp.back (by omega) (fun _ h => h) rfl⟩
            rw [hA]
            exact BigR.chr_ok g1 hk.1 hcc hv
          | none =>
            simp only at hd
            obtain ⟨p1, p2, p3⟩ := hp
            cases hD2 : den s (its ++ endI e) (at_ + 0) caps with
            | none => rw [hD2] at hd; cases hd
            | some y2 =>
              rw [hD2] at hd
              have hr2 : r = y2 := by
                cases y2 with
                | none => simp only [Option.some.injEq] at hd; exact hd.symm
                | some z => simp only [Option.some.injEq] at hd; exact hd.symm
              subst hr2
              obtain ⟨cs', hv2, hp2⟩ := hC at_ cs1 rl r (Nat.le_refl _) hat p1 (len0 h0 p2) p3 (by omega) hD2
              refine ⟨cs', BigR.split_no g0 (by omega) (cs1 := cs1) ?_ (by rw [hB]; exact hv2), hp2.back (Nat.le_refl _) (fun _ h => h) p2⟩
              rw [hA]
              exact BigR.chr_ok g1 hk.1 hcc hv
end
end Go.Proofs.YtpjfjfloeejgiaaFmt.Vm
/- The classes of a pattern: the package's hold what the reference's hold. -/
set_option linter.unusedVariables false
set_option linter.unusedSimpArgs false
namespace Go.Proofs.YtpjfjfloeejgiaaFmt.Vm
open Go.RowKit Go.Proofs.YtpjfjfloeejgiaaFmtW.PrintWords Go.Proofs.YtpjfjfloeejgiaaFmt.Scan Go.Proofs.YtpjfjfloeejgiaaFmt.Cls Go.Proofs.YtpjfjfloeejgiaaFmt.Ins Go.Proofs.YtpjfjfloeejgiaaFmt.Mst Go.Proofs.YtpjfjfloeejgiaaFmt.Mat Go.Proofs.YtpjfjfloeejgiaaFmt.Rf Go.Proofs.YtpjfjfloeejgiaaFmt.Pat Go.Proofs.YtpjfjfloeejgiaaFmt.PFnPatternFirst

/-- A pattern's text: small bytes, none of them zero. -/
def Low (t : List Int) : Prop := ∀ x ∈ t, 1 ≤ x ∧ x ≤ 127
section
variable {t : List Int}
theorem Low.at_ (h : Low t) {i : Nat} (hi : i < t.length) : rd t i = chr t i ∧ 1 ≤ chr t i ∧ chr t i ≤ 127 := by
  refine ⟨chr_rd hi, ?_⟩
  rw [← chr_rd hi]
  have : rd t (i : Int) = t[i] := by simp [rd, List.getD_eq_getElem?_getD, List.getElem?_eq_getElem hi]
  rw [this]
  exact h _ (List.getElem_mem hi)
theorem orC_len (set : List Bool) (f : Nat → Bool) (n : Nat) : (orC set f n).length = 128 := by simp [orC]
theorem orC_get {set : List Bool} {f : Nat → Bool} {k : Nat} (hk : k < 128) : (orC set f 128).getD k false = (set.getD k false || f k) := by
  unfold orC
  rw [List.getD_eq_getElem?_getD, List.getElem?_map, List.getElem?_range hk]
  simp only [Option.map_some, Option.getD_some]
  rw [decide_eq_true hk]
  cases f k <;> simp
theorem set_get {set : List Bool} {b k : Nat} (hl : set.length = 128) (hk : k < 128) (hb : b < 128) : (set.set b true).getD k false = (set.getD k false || ((b : Int) == (k : Int))) := by
  rw [List.getD_eq_getElem?_getD, List.getD_eq_getElem?_getD, List.getElem?_set]
  by_cases h : b = k
  · subst h
    rw [if_pos rfl, if_pos (by omega)]
    simp
  · rw [if_neg h]
    have : ((b : Int) == (k : Int)) = false := beq_eq_false_iff_ne.mpr (by omega)
    rw [this, Bool.or_false]
theorem inC_singl {c k : Int} (hk : 0 ≤ k) (hk2 : k ≤ 127) : inC c k = singl c k := by
  unfold inC singl btw
  simp only
  have e1 : ∀ x y : Int, (x == y) = decide (x = y) := fun x y => by by_cases h : x = y <;> simp [h]
  simp only [e1]
  have leaf : ∀ {x y : Bool}, (x = true ↔ y = true) → (some x : Option Bool) = some y := fun h => congrArg some (Bool.eq_iff_iff.2 h)
  repeat' (split; (refine leaf ?_; simp only [Bool.or_eq_true, Bool.and_eq_true, Bool.not_eq_true', decide_eq_true_eq, Bool.or_eq_false_iff, Bool.and_eq_false_iff, decide_eq_false_iff_not] <;> omega))
  rfl
theorem singl_dom {c k : Int} : (singl c k).isSome = decide (c = 97 ∨ c = 99 ∨ c = 100 ∨ c = 108 ∨ c = 112 ∨ c = 115 ∨ c = 117 ∨ c = 119 ∨ c = 120 ∨ c = 122) := by
  unfold singl
  repeat' (split; (simp_all))
  simp_all
theorem esc_ok {set set' : List Bool} {b : Int} (h : pEsc set b = some set') (hl : set.length = 128) (hb : 1 ≤ b ∧ b ≤ 127) :
    set'.length = 128 ∧ ∀ k : Nat, k < 128 → set'.getD k false = (set.getD k false || sing b (k : Int)) := by
  unfold pEsc at h
  by_cases hd : digit b = true
  · rw [if_pos hd] at h; cases h
  rw [if_neg hd] at h
  by_cases hL : letter b = false
  · rw [if_pos hL, if_pos (by omega)] at h
    obtain rfl := Option.some.inj h
    refine ⟨by rw [List.length_set]; exact hl, fun k hk => ?_⟩
    rw [set_get hl hk (by omega)]
    congr 1
    simp only [letter, Bool.or_eq_false_iff, Bool.and_eq_false_iff, decide_eq_false_iff_not] at hL
    have hs : sing b (k : Int) = ((k : Int) == b) := by
      unfold sing
      rw [if_neg (by omega)]
      have := @singl_dom b (k : Int)
      rw [decide_eq_false (by omega)] at this
      cases hq : singl b (k : Int) with
      | none => rfl
      | some y => rw [hq] at this; cases this
    rw [hs, Int.toNat_of_nonneg (by omega)]
    exact BEq.comm
  · rw [if_neg hL] at h
    simp only at h
    generalize hsm : (if b ≤ 90 then b + 32 else b) = small at h
    by_cases hn : (inC small 0).isNone = true
    · rw [if_pos hn] at h; cases h
    rw [if_neg hn] at h
    obtain rfl := Option.some.inj h
    refine ⟨orC_len _ _ _, fun k hk => ?_⟩
    rw [orC_get hk]
    congr 1
    rw [inC_singl (by omega) (by omega)]
    rw [inC_singl (by omega) (by omega)] at hn
    have h0 := @singl_dom small 0
    have h1 := @singl_dom small (k : Int)
    rw [← h0] at h1
    simp only [letter, Bool.not_eq_false, Bool.or_eq_true, Bool.and_eq_true, decide_eq_true_eq] at hL
    unfold sing
    by_cases hu : b ≤ 90
    · rw [if_pos hu] at hsm
      rw [if_pos (by omega), hsm]
      have hne : (small == b) = false := beq_eq_false_iff_ne.mpr (by omega)
      rw [hne]
      cases hq : singl small (k : Int) with
      | none => rw [hq] at h1; cases h3 : singl small 0 with
        | none => rw [h3] at hn; simp at hn
        | some y => rw [h3] at h1; cases h1
      | some y => cases y <;> rfl
    · rw [if_neg hu] at hsm
      subst hsm
      rw [if_neg (by omega)]
      rw [show (b == b) = true by simp]
      cases hq : singl b (k : Int) with
      | none => rw [hq] at h1; cases h3 : singl b 0 with
        | none => rw [h3] at hn; simp at hn
        | some y => rw [h3] at h1; cases h1
      | some y => cases y <;> rfl
theorem n128_len : none128.length = 128 := by simp [none128]
theorem n128_get {k : Nat} : none128.getD k false = false := by
  unfold none128
  rw [List.getD_eq_getElem?_getD, List.getElem?_replicate]
  split <;> rfl
/-- A set is read alike. -/
theorem set_par (hlow : Low t) {other : Bool} : ∀ (n n2 at_ : Nat) (first : Bool) (set : List Bool) (al : List Atom) (r : List Bool) (e : Nat), pSetL t other n first at_ set = some (r, e) → set.length = 128 →
    (∀ k : Nat, k < 128 → set.getD k false = al.any (fun a => atomm a (k : Int))) → (first = true ↔ al = []) → t.length + 1 ≤ n2 + at_ →
    ∃ al', pset t n2 at_ al false = some (al', e) ∧ r.length = 128 ∧ ∀ k : Nat, k < 128 → r.getD k false = if other = true then !(al'.any (fun a => atomm a (k : Int))) else al'.any (fun a => atomm a (k : Int)) := by
  intro n
  induction n with
  | zero => intro n2 at_ first set al r e h; simp [pSetL] at h
  | succ n ih =>
    intro n2 at_ first set al r e h hl hset hfirst hfuel
    simp only [pSetL] at h
    by_cases hlt : at_ < t.length
    · rw [if_pos hlt] at h
      obtain ⟨r0, l0, l1⟩ := hlow.at_ hlt
      rw [r0] at h
      obtain ⟨m, rfl⟩ : ∃ m, n2 = m + 1 := ⟨n2 - 1, by omega⟩
      have any1 : ∀ (a : Atom) (k : Int), (al ++ [a]).any (fun a => atomm a k) = (al.any (fun a => atomm a k) || atomm a k) := fun a k => by simp
      by_cases h93 : chr t at_ = 93
      · rw [if_pos h93] at h
        cases first with
        | true => simp at h
        | false =>
          simp only [Bool.false_eq_true, if_false, Option.some.injEq, Prod.mk.injEq] at h
          obtain ⟨rfl, rfl⟩ := h
          have hne : al ≠ [] := fun hq => by have := hfirst.2 hq; cases this
          refine ⟨al, ?_, ?_, fun k hk => ?_⟩
          · unfold pset
            rw [if_pos h93, if_neg (by simp [hne])]
          · cases other <;> simp [hl]
          · cases other with
            | true =>
              simp only [if_true]
              rw [← hset k hk, List.getD_eq_getElem?_getD, List.getD_eq_getElem?_getD, List.getElem?_map, List.getElem?_eq_getElem (by omega : k < set.length)]
              rfl
            | false => simp only [Bool.false_eq_true, if_false]; exact hset k hk
      rw [if_neg h93] at h
      by_cases h37 : chr t at_ = 37
      · rw [if_pos h37] at h
        by_cases hl1 : t.length ≤ at_ + 1
        · rw [if_pos hl1] at h; cases h
        rw [if_neg hl1] at h
        obtain ⟨r1, l2, l3⟩ := hlow.at_ (show at_ + 1 < t.length by omega)
        rw [r1] at h
        cases hE : pEsc set (chr t (at_ + 1)) with
        | none => rw [hE] at h; cases h
        | some set' =>
          rw [hE] at h
          simp only at h
          split at h
          · cases h
          obtain ⟨k1, k2⟩ := esc_ok hE hl ⟨l2, l3⟩
          obtain ⟨al', g1, g2⟩ := ih m (at_ + 2) false set' (al ++ [.sing (chr t (at_ + 1))]) r e h k1 (fun k hk => by rw [any1, k2 k hk, hset k hk]; rfl) (by simp) (by omega)
          refine ⟨al', ?_, g2⟩
          unfold pset
          rw [if_neg h93, if_neg (by omega)]
          have hp : patom t at_ = some (.sing (chr t (at_ + 1)), at_ + 2) := by unfold patom; rw [if_pos h37, if_pos (by omega)]
          rw [hp]
          simpa using g1
      rw [if_neg h37] at h
      by_cases h45 : chr t at_ = 45 ∨ chr t at_ = 91 ∨ chr t at_ = 94
      · rw [if_pos h45] at h; cases h
      rw [if_neg h45] at h
      have hp : patom t at_ = some (.chr (chr t at_), at_ + 1) := by unfold patom; rw [if_neg h37, if_pos hlt]
      by_cases hr : at_ + 2 < t.length ∧ rd t ((at_ + 1 : Nat) : Int) = 45
      · rw [if_pos hr] at h
        obtain ⟨r1, l2, l3⟩ := hlow.at_ (show at_ + 1 < t.length by omega)
        obtain ⟨r2, l4, l5⟩ := hlow.at_ hr.1
        have h1 : chr t (at_ + 1) = 45 := r1.symm.trans hr.2
        rw [r2] at h
        split at h
        · cases h
        rename_i hq
        split at h
        · cases h
        obtain ⟨al', g1, g2⟩ := ih (m - 2) (at_ + 3) false _ (al ++ [.rng (chr t at_) (chr t (at_ + 2))]) r e h (orC_len _ _ _) (fun k hk => by rw [any1, orC_get hk, hset k hk]; rfl) (by simp) (by omega)
        refine ⟨al', ?_, g2⟩
        obtain ⟨m2, rfl⟩ : ∃ m2, m = m2 + 1 + 1 := ⟨m - 2, by omega⟩
        unfold pset
        rw [if_neg h93, if_neg (by omega), hp]
        simp only [Bool.false_eq_true, if_false]
        unfold pset
        rw [if_neg (by omega), if_pos h1, if_neg (by simp)]
        unfold pset
        rw [show at_ + 1 + 1 = at_ + 2 from rfl]
        rw [if_neg (by omega), if_neg (by omega)]
        have hp2 : patom t (at_ + 2) = some (.chr (chr t (at_ + 2)), at_ + 3) := by unfold patom; rw [if_neg (by omega), if_pos (by omega)]
        rw [hp2]
        simpa using g1
      · rw [if_neg hr] at h
        have hb : chr t at_ = (((chr t at_).toNat : Nat) : Int) := by omega
        obtain ⟨al', g1, g2⟩ := ih m (at_ + 1) false _ (al ++ [.chr (chr t at_)]) r e h (by rw [List.length_set]; exact hl) (fun k hk => by
          rw [any1, set_get hl hk (by omega), hset k hk, ← hb]; rfl) (by simp) (by omega)
        refine ⟨al', ?_, g2⟩
        unfold pset
        rw [if_neg h93, if_neg (by omega), hp]
        simpa using g1
    · rw [if_neg hlt] at h; cases h
theorem pset_few : ∀ (n c : Nat) (al : List Atom) (ir : Bool) (r : List Atom × Nat), pset t n c al ir = some r → r.1.length ≤ al.length + n := by
  intro n
  induction n with
  | zero => intro c al ir r h; simp [pset] at h
  | succ n ih =>
    intro c al ir r h
    unfold pset at h
    split at h
    · split at h
      · cases h
      · obtain rfl := Option.some.inj h; simp only; omega
    · split at h
      · split at h
        · cases h
        · have := ih _ _ _ _ h; omega
      · split at h
        · cases h
        · split at h
          · split at h
            · have := ih _ _ _ _ h
              simp only [List.length_append, List.length_dropLast, List.length_singleton] at this
              omega
            · cases h
          · have := ih _ _ _ _ h
            simp only [List.length_append, List.length_singleton] at this
            omega
/-- A class is read alike. -/
theorem single_par (hlow : Low t) (ht : t.length ≤ 1000) {at_ e : Nat} {r : List Bool} (hlt : at_ < t.length) (h : pSingle t at_ = some (r, e)) : ∃ c, pcls t at_ = some (c, e) ∧ SetIs r c := by
  unfold pSingle at h
  obtain ⟨r0, l0, l1⟩ := hlow.at_ hlt
  rw [r0] at h
  simp only at h
  unfold pcls
  by_cases h46 : chr t at_ = 46
  · rw [if_pos h46] at h ⊢
    simp only [Option.some.injEq, Prod.mk.injEq] at h
    obtain ⟨rfl, rfl⟩ := h
    refine ⟨_, rfl, by simp [all128], fun k hk => ?_, by intro _ _ hq; cases hq⟩
    show all128.getD k false = true
    unfold all128
    rw [List.getD_eq_getElem?_getD, List.getElem?_replicate, if_pos hk]
    rfl
  rw [if_neg h46] at h ⊢
  by_cases h37 : chr t at_ = 37
  · rw [if_pos h37] at h
    rw [if_neg (by omega)]
    by_cases hl1 : t.length ≤ at_ + 1
    · rw [if_pos hl1] at h; cases h
    rw [if_neg hl1] at h
    obtain ⟨r1, l2, l3⟩ := hlow.at_ (show at_ + 1 < t.length by omega)
    rw [r1] at h
    obtain ⟨set', hE, hq⟩ := Option.map_eq_some_iff.1 h
    simp only [Prod.mk.injEq] at hq
    obtain ⟨rfl, rfl⟩ := hq
    obtain ⟨k1, k2⟩ := esc_ok hE n128_len ⟨l2, l3⟩
    refine ⟨.atom (.sing (chr t (at_ + 1))), ?_, k1, fun k hk => ?_, by intro _ _ hq; cases hq⟩
    · unfold patom
      rw [if_pos h37, if_pos (by omega)]
      rfl
    · rw [k2 k hk, n128_get]
      rfl
  rw [if_neg h37] at h
  by_cases h91 : chr t at_ = 91
  · rw [if_pos h91] at h ⊢
    unfold pSet at h
    by_cases h94 : at_ + 1 < t.length ∧ rd t ((at_ + 1 : Nat) : Int) = 94
    · rw [if_pos h94] at h
      obtain ⟨r1, l2, l3⟩ := hlow.at_ h94.1
      rw [if_pos (r1.symm.trans h94.2)]
      obtain ⟨al', g1, g0, g2⟩ := set_par hlow _ (t.length + 1) _ _ _ [] r e h n128_len (fun k hk => by rw [n128_get]; rfl) (by simp) (by omega)
      have hfew := pset_few _ _ _ _ _ g1
      refine ⟨.set true al', by rw [g1]; rfl, g0, fun k hk => ?_, by intro _ _ hq; cases hq; simp only [List.length_nil] at hfew; omega⟩
      rw [g2 k hk]
      show _ = if al'.any (fun a => atomm a (k : Int)) = true then !true else true
      cases al'.any (fun a => atomm a (k : Int)) <;> rfl
    · rw [if_neg h94] at h
      have hne : ¬ chr t (at_ + 1) = 94 := by
        intro hq
        by_cases hl1 : at_ + 1 < t.length
        · exact h94 ⟨hl1, (hlow.at_ hl1).1.trans hq⟩
        · rw [chr_end (by omega)] at hq; cases hq
      rw [if_neg hne]
      obtain ⟨al', g1, g0, g2⟩ := set_par hlow _ (t.length + 1) _ _ _ [] r e h n128_len (fun k hk => by rw [n128_get]; rfl) (by simp) (by omega)
      have hfew := pset_few _ _ _ _ _ g1
      refine ⟨.set false al', by rw [g1]; rfl, g0, fun k hk => ?_, by intro _ _ hq; cases hq; simp only [List.length_nil] at hfew; omega⟩
      rw [g2 k hk]
      show _ = if al'.any (fun a => atomm a (k : Int)) = true then !false else false
      cases al'.any (fun a => atomm a (k : Int)) <;> rfl
  rw [if_neg h91] at h ⊢
  split at h
  · cases h
  simp only [Option.some.injEq, Prod.mk.injEq] at h
  obtain ⟨rfl, rfl⟩ := h
  refine ⟨.atom (.chr (chr t at_)), ?_, by rw [List.length_set]; exact n128_len, fun k hk => ?_, by intro _ _ hq; cases hq⟩
  · unfold patom
    rw [if_neg h37, if_pos hlt]
    rfl
  · rw [set_get n128_len hk (by omega), n128_get, Int.toNat_of_nonneg (by omega)]
    rfl
end
end Go.Proofs.YtpjfjfloeejgiaaFmt.Vm
/- A pattern that the reference reads is read by the package alike. -/
set_option linter.unusedVariables false
set_option linter.unusedSimpArgs false
namespace Go.Proofs.YtpjfjfloeejgiaaFmt.Vm
open Go.RowKit Go.Proofs.YtpjfjfloeejgiaaFmtW.PrintWords Go.Proofs.YtpjfjfloeejgiaaFmt.Scan Go.Proofs.YtpjfjfloeejgiaaFmt.Cls Go.Proofs.YtpjfjfloeejgiaaFmt.Ins Go.Proofs.YtpjfjfloeejgiaaFmt.Mst Go.Proofs.YtpjfjfloeejgiaaFmt.Mat Go.Proofs.YtpjfjfloeejgiaaFmt.Rf Go.Proofs.YtpjfjfloeejgiaaFmt.Pat Go.Proofs.YtpjfjfloeejgiaaFmt.PFnPatternFirst

theorem capsEnd_append (a b : List S147) : ∀ c, capsEnd (a ++ b) c = capsEnd b (capsEnd a c) := by
  induction a with
  | nil => intro c; rfl
  | cons x a ih => intro c; exact ih _
/-- The rest of a level: what the package makes of it. -/
def Lvl (t : List Int) (top : Bool) (D k n : Nat) (s sf : RSt) (ps : List Pat) : Prop :=
  ∃ (qs : List Pat) (its : List S147) (e : Bool) (c' : Nat), ploop t top (pseq t D) k s.at_ ps false = some (ps ++ qs, e, c') ∧
    (∀ i, Seg i its (codes qs i (2 * s.caps + 2)).1 ∧ (codes qs i (2 * s.caps + 2)).2 = 2 * capsEnd its s.caps + 2) ∧
    (top = true → sf.items = s.items ++ (its ++ endI e) ∧ sf.caps = capsEnd its s.caps ∧ Wf (its ++ endI e) s.caps s.opn) ∧
    (top = false → e = false ∧ chr t c' = 41 ∧ ∃ (s1 : RSt) (n1 : Nat), s1.at_ = c' ∧ s1.opn = s.opn ∧ s1.caps = capsEnd its s.caps ∧ s1.items = s.items ++ its ∧ n1 ≤ n ∧ s.at_ ≤ s1.at_ ∧ s1.at_ < t.length ∧ pItems t n1 s1 = some sf ∧
      ∀ rest, Wf rest s1.caps s.opn → Wf (its ++ rest) s.caps s.opn)
section
variable {t : List Int} {top : Bool} {D k k' n n' : Nat} {s s' sf : RSt} {ps : List Pat} {p : Pat} {xs : List S147}
theorem Lvl.step (h : Lvl t top D k' n' s' sf (ps ++ [p])) (hpl : ploop t top (pseq t D) k s.at_ ps false = ploop t top (pseq t D) k' s'.at_ (ps ++ [p]) false) (hn : n' ≤ n)
    (ho : s'.opn = s.opn) (hi : s'.items = s.items ++ xs) (hc : s'.caps = capsEnd xs s.caps) (hat : s.at_ ≤ s'.at_)
    (hS : ∀ i, Seg i xs (code p i (2 * s.caps + 2)).1 ∧ (code p i (2 * s.caps + 2)).2 = 2 * s'.caps + 2)
    (hw : ∀ rest, Wf rest s'.caps s.opn → Wf (xs ++ rest) s.caps s.opn) : Lvl t top D k n s sf ps := by
  obtain ⟨qs, its, e, c', h1, h2, h3, h4⟩ := h
  refine ⟨p :: qs, xs ++ its, e, c', ?_, fun i => ?_, fun ht => ?_, fun ht => ?_⟩
  · rw [hpl, h1]; simp
  · obtain ⟨g1, g2⟩ := hS i
    obtain ⟨g3, g4⟩ := h2 (i + (code p i (2 * s.caps + 2)).1.length)
    simp only [codes]
    rw [g2]
    refine ⟨g1.append g3, ?_⟩
    rw [g4, capsEnd_append, hc]
  · obtain ⟨k1, k2, k3⟩ := h3 ht
    refine ⟨by rw [k1, hi]; simp, by rw [k2, capsEnd_append, hc], ?_⟩
    rw [List.append_assoc]
    rw [ho] at k3
    exact hw _ k3
  · obtain ⟨k1, k2, s1, n1, m1, m2, m3, m4, m5, m6, m7, m8, m9⟩ := h4 ht
    refine ⟨k1, k2, s1, n1, m1, m2.trans ho, by rw [m3, capsEnd_append, hc], by rw [m4, hi]; simp, by omega, by omega, m7, m8, fun rest hr => ?_⟩
    rw [List.append_assoc]
    rw [ho] at m9
    exact hw _ (m9 _ hr)
theorem digit_iff {b : Int} : digit b = true ↔ 48 ≤ b ∧ b ≤ 57 := by simp [digit]
theorem isRep_iff {b : Int} : isRep b ↔ b = 42 ∨ b = 43 ∨ b = 45 ∨ b = 63 := Iff.rfl
/-- The class of an item: one step or two of the package's reader. -/
theorem ploop_one (hlow : Low t) (ht : t.length ≤ 1000) {set : List Bool} {e : Nat} (hlt : s.at_ < t.length) (hsp : pSpecial t s = none) (h40 : chr t s.at_ ≠ 40) (h41 : chr t s.at_ ≠ 41) (h36 : ¬ (top = true ∧ chr t s.at_ = 36 ∧ s.at_ + 1 = t.length)) (h : pSingle t s.at_ = some (set, e)) :
    ∃ c, SetIs set c ∧ ploop t top (pseq t D) (k + 1) s.at_ ps false = ploop t top (pseq t D) k e (ps ++ [.one c]) false := by
  obtain ⟨c, hc, hs⟩ := single_par hlow ht hlt h
  refine ⟨c, hs, ?_⟩
  obtain ⟨r0, l0, l1⟩ := hlow.at_ hlt
  rw [ploop]
  by_cases h37 : chr t s.at_ = 37
  · rw [if_pos h37]
    unfold pSpecial at hsp
    rw [r0] at hsp
    by_cases hl : t.length ≤ s.at_ + 1
    · exfalso
      unfold pSingle at h
      rw [r0] at h
      simp only at h
      rw [if_neg (by omega), if_pos h37, if_pos hl] at h
      cases h
    rw [if_neg (by simp only [not_or]; exact ⟨by simpa using h37, hl⟩)] at hsp
    obtain ⟨r1, l2, l3⟩ := hlow.at_ (show s.at_ + 1 < t.length by omega)
    rw [r1] at hsp
    simp only at hsp
    split at hsp
    · cases hsp
    rename_i k1
    split at hsp
    · split at hsp <;> cases hsp
    rename_i k2
    split at hsp
    · split at hsp <;> cases hsp
    rename_i k3
    rw [digit_iff] at k3
    rw [if_neg (by omega), if_neg (by omega), if_neg (by omega), hc]
    rfl
  rw [if_neg h37]
  by_cases h2 : chr t s.at_ = 46 ∨ chr t s.at_ = 91 ∨ chr t s.at_ = 93
  · rw [if_pos h2, hc]
    rfl
  rw [if_neg h2, if_neg h41, if_neg h40]
  have hp : pcls t s.at_ = some (.atom (.chr (chr t s.at_)), s.at_ + 1) := by
    unfold pcls patom
    rw [if_neg (by omega), if_neg (by omega), if_neg h37, if_pos hlt]
    rfl
  rw [hp] at hc
  simp only [Option.some.injEq, Prod.mk.injEq] at hc
  obtain ⟨rfl, rfl⟩ := hc
  have hnr : ¬ (chr t s.at_ = 42 ∨ chr t s.at_ = 43 ∨ chr t s.at_ = 45 ∨ chr t s.at_ = 63) := by
    intro hq
    unfold pSingle at h
    rw [r0] at h
    simp only at h
    rw [if_neg (by omega), if_neg (by omega), if_neg (by omega), if_pos (by omega)] at h
    cases h
  rw [if_neg hnr]
  by_cases k36 : chr t s.at_ = 36
  · rw [if_pos k36, if_neg (fun hq => h36 ⟨hq.1, k36, hq.2⟩), k36]
  · rw [if_neg k36, if_neg (by omega)]
/-- The package reads a level as the reference does. -/
theorem lvl_all (hlow : Low t) (htl : t.length ≤ 1000) : ∀ (n : Nat) (s sf : RSt) (top : Bool) (D k : Nat) (ps : List Pat), pItems t n s = some sf → sf.opn = [] → (top = true ↔ s.opn = []) → s.at_ ≤ t.length →
    t.length + 2 ≤ D + s.at_ → t.length + 2 ≤ k + s.at_ → Lvl t top D k n s sf ps := by
  intro n
  induction n using Nat.strongRecOn with
  | ind n ih =>
  intro s sf top D k ps h hsf htop hat hD hk
  obtain ⟨n, rfl⟩ : ∃ m, n = m + 1 := by
    cases n with
    | zero => simp [pItems] at h
    | succ m => exact ⟨m, rfl⟩
  obtain ⟨k, rfl⟩ : ∃ m, k = m + 1 := ⟨k - 1, by omega⟩
  have h' := h
  simp only [pItems] at h
  by_cases hlt : s.at_ < t.length
  · rw [if_pos hlt] at h
    cases hI : pItem t s with
    | none => rw [hI] at h; cases h
    | some s' =>
    rw [hI] at h
    simp only at h
    obtain ⟨r0, l0, l1⟩ := hlow.at_ hlt
    unfold pItem at hI
    rw [r0] at hI
    by_cases h40 : chr t s.at_ = 40
    · rw [if_pos h40] at hI
      unfold pCapture at hI
      split at hI
      · cases hI
      rename_i hc9
      by_cases h41 : s.at_ + 1 < t.length ∧ rd t ((s.at_ + 1 : Nat) : Int) = 41
      · rw [if_pos h41] at hI
        obtain rfl := Option.some.inj hI
        have e41 : chr t (s.at_ + 1) = 41 := (hlow.at_ h41.1).1.symm.trans h41.2
        refine Lvl.step (p := .pos) (xs := [⟨4, [], 0, (s.caps : Int) + 1, 0, 0⟩]) (k' := k) (n' := n) (ih n (Nat.lt_succ_self _) _ _ top D k _ h hsf htop (by simp only [RSt.add]; omega) (by simp only [RSt.add]; omega) (by simp only [RSt.add]; omega)) ?_ (Nat.le_succ _) rfl rfl ?_ (by simp only [RSt.add]; omega) (fun i => ⟨?_, ?_⟩) (fun rest hr => ?_)
        · rw [ploop]
          rw [if_neg (by omega), if_neg (by omega), if_neg (by omega), if_pos h40, if_pos e41]
          rfl
        · simp [RSt.add, capsEnd]
        · refine Seg.one ?_
          have := Blk1.plc (i := i) (x := ⟨4, [], 0, (s.caps : Int) + 1, 0, 0⟩) rfl
          simp only [code]
          rw [show ((2 * s.caps + 2 : Nat) : Int) = 2 * ((s.caps : Int) + 1) by omega]
          exact this
        · simp only [code, RSt.add]; omega
        · rw [List.singleton_append]
          unfold Wf
          rw [if_neg (by simp), if_neg (by simp), if_pos rfl]
          exact ⟨rfl, hr⟩
      · rw [if_neg h41] at hI
        obtain rfl := Option.some.inj hI
        obtain ⟨D, rfl⟩ : ∃ m, D = m + 1 := ⟨D - 1, by omega⟩
        have hN := ih n (Nat.lt_succ_self _) _ _ false D (t.length + 2) [] h hsf (by simp [RSt.add]) (by simp only [RSt.add]; omega) (by simp only [RSt.add]; omega) (by simp only [RSt.add]; omega)
        obtain ⟨qs2, its2, e2, c2, g1, g2, _, g4⟩ := hN
        obtain ⟨rfl, g5, s3, n3, m1, m2, m3, m4, m5, m6, m7, m8, m9⟩ := g4 rfl
        simp only [RSt.add] at g1 g2 m2 m3 m4 m6 m9
        rw [List.nil_append] at g1
        obtain ⟨n3, rfl⟩ : ∃ m, n3 = m + 1 := by
          cases n3 with
          | zero => simp [pItems] at m8
          | succ m => exact ⟨m, rfl⟩
        simp only [pItems] at m8
        rw [if_pos m7] at m8
        have r3 := (hlow.at_ m7).1
        have e3 : chr t s3.at_ = 41 := by rw [m1]; exact g5
        have hI3 : pItem t s3 = some (({ s3 with opn := s3.opn.dropLast } : RSt).add ⟨3, [], 0, (s.caps : Int) + 1, 0, 0⟩ 1) := by
          unfold pItem
          rw [r3, if_neg (by omega), if_pos e3]
          unfold pClosing
          rw [m2]
          simp
        rw [hI3] at m8
        simp only at m8
        have hn41 : ¬ chr t (s.at_ + 1) = 41 := by
          intro hq
          by_cases hl1 : s.at_ + 1 < t.length
          · exact h41 ⟨hl1, (hlow.at_ hl1).1.trans hq⟩
          · rw [chr_end (by omega)] at hq; cases hq
        refine Lvl.step (s' := ({ s3 with opn := s3.opn.dropLast } : RSt).add ⟨3, [], 0, (s.caps : Int) + 1, 0, 0⟩ 1) (p := .cap qs2) (xs := ⟨2, [], 0, (s.caps : Int) + 1, 0, 0⟩ :: its2 ++ [⟨3, [], 0, (s.caps : Int) + 1, 0, 0⟩]) (k' := k) (n' := n3)
          (ih n3 (by omega) _ _ top (D + 1) k _ m8 hsf (by simp only [RSt.add, m2, List.dropLast_concat]; exact htop) (by simp only [RSt.add]; omega) (by simp only [RSt.add]; omega) (by simp only [RSt.add]; omega)) ?_ (by omega) (by simp only [RSt.add, m2, List.dropLast_concat]) (by simp only [RSt.add, m4]; simp) ?_ (by simp only [RSt.add]; omega) (fun i => ⟨?_, ?_⟩) (fun rest hr => ?_)
        · rw [ploop]
          rw [if_neg (by omega), if_neg (by omega), if_neg (by omega), if_pos h40, if_neg hn41]
          have hps : pseq t (D + 1) (s.at_ + 1) = some (qs2, c2) := by rw [pseq, g1]; rfl
          rw [hps]
          simp only [Option.bind_some]
          rw [if_pos g5]
          simp only [RSt.add]
          rw [m1]
        · simp only [RSt.add]
          rw [m3]
          simp [capsEnd, capsEnd_append]
        · obtain ⟨b1, b2⟩ := g2 (i + 1)
          have hb1 := Blk1.opn (i := i) (x := ⟨2, [], 0, (s.caps : Int) + 1, 0, 0⟩) rfl
          have hb2 := Blk1.cls (i := i + (1 + (codes qs2 (i + 1) (2 * s.caps + 2 + 2)).1.length)) (x := ⟨3, [], 0, (s.caps : Int) + 1, 0, 0⟩) rfl
          simp only [code]
          rw [show ((2 * s.caps + 2 : Nat) : Int) = 2 * ((s.caps : Int) + 1) by omega]
          refine Seg.append (Seg.cons hb1 b1) ?_
          refine Seg.one ?_
          have : i + ((.op 5 (2 * ((s.caps : Int) + 1)) (-1) : Ins) :: (codes qs2 (i + 1) (2 * s.caps + 2 + 2)).1).length = i + (1 + (codes qs2 (i + 1) (2 * s.caps + 2 + 2)).1.length) := by rw [List.length_cons]; omega
          exact this ▸ hb2
        · obtain ⟨b1, b2⟩ := g2 (i + 1)
          simp only [code, RSt.add]
          rw [m3]
          exact b2
        · rw [List.append_assoc, List.cons_append]
          unfold Wf
          rw [if_pos rfl]
          refine ⟨rfl, m9 _ ?_⟩
          rw [List.singleton_append]
          unfold Wf
          rw [if_neg (by simp), if_pos rfl]
          refine ⟨by simp, ?_⟩
          rw [List.dropLast_concat]
          exact hr
    rw [if_neg h40] at hI
    by_cases h41 : chr t s.at_ = 41
    · rw [if_pos h41] at hI
      have hne : s.opn ≠ [] := by
        intro hq
        unfold pClosing at hI
        rw [hq] at hI
        cases hI
      have htf : top = false := by
        cases top with
        | false => rfl
        | true => exact absurd (htop.1 rfl) hne
      subst htf
      refine ⟨[], [], false, s.at_, ?_, fun i => ⟨Seg.nil i, rfl⟩, fun hq => (by cases hq), fun _ => ⟨rfl, h41, s, n + 1, rfl, rfl, rfl, by simp, Nat.le_refl _, Nat.le_refl _, hlt, h', fun rest hr => hr⟩⟩
      rw [ploop]
      rw [if_neg (by omega), if_neg (by omega), if_pos h41]
      simp
    rw [if_neg h41] at hI
    by_cases h36 : chr t s.at_ = 36 ∧ s.at_ + 1 = t.length
    · rw [if_pos h36] at hI
      obtain rfl := Option.some.inj hI
      have hsf2 : sf = s.add ⟨7, [], 0, 0, 0, 0⟩ 1 := by
        cases n with
        | zero => simp [pItems] at h
        | succ n =>
          simp only [pItems] at h
          rw [if_neg (by simp only [RSt.add]; omega)] at h
          exact (Option.some.inj h).symm
      subst hsf2
      have hopn : s.opn = [] := hsf
      have ht : top = true := htop.2 hopn
      subst ht
      refine ⟨[], [], true, s.at_ + 1, ?_, fun i => ⟨Seg.nil i, rfl⟩, fun _ => ⟨rfl, rfl, ?_⟩, fun hq => (by cases hq)⟩
      · obtain ⟨k, rfl⟩ : ∃ m, k = m + 1 := ⟨k - 1, by omega⟩
        rw [ploop]
        rw [if_neg (by omega), if_neg (by omega), if_neg h41, if_neg h40, if_neg (by omega), if_pos h36.1, if_pos ⟨rfl, h36.2⟩]
        rw [ploop]
        have he : chr t (s.at_ + 1) = -1 := chr_end (by omega)
        rw [he]
        simp
      · rw [hopn]
        show Wf (endI true) s.caps []
        unfold endI
        rw [if_pos rfl]
        unfold Wf
        simp
    rw [if_neg h36] at hI
    cases hsp : pSpecial t s with
    | some r =>
      rw [hsp] at hI
      simp only at hI
      subst hI
      unfold pSpecial at hsp
      rw [r0] at hsp
      split at hsp
      · cases hsp
      rename_i hq
      simp only [not_or, Decidable.not_not, Nat.not_le] at hq
      obtain ⟨h37, hl1⟩ := hq
      obtain ⟨r1, l2, l3⟩ := hlow.at_ hl1
      rw [r1] at hsp
      simp only at hsp
      split at hsp
      · cases hsp
      rename_i k1
      split at hsp
      · rename_i k2
        split at hsp
        · cases hsp
        rename_i k3
        simp only [not_or, Nat.not_le] at k3
        obtain ⟨k3, k4⟩ := k3
        obtain ⟨r2, _, _⟩ := hlow.at_ (show s.at_ + 2 < t.length by omega)
        obtain ⟨r3, _, _⟩ := hlow.at_ k3
        rw [r2, r3] at k4 hsp
        obtain rfl := Option.some.inj (Option.some.inj hsp)
        refine Lvl.step (p := .brace (chr t (s.at_ + 2)) (chr t (s.at_ + 3))) (xs := [⟨6, [], 0, 0, chr t (s.at_ + 2), chr t (s.at_ + 3)⟩]) (k' := k) (n' := n) (ih n (Nat.lt_succ_self _) _ _ top D k _ h hsf htop (by simp only [RSt.add]; omega) (by simp only [RSt.add]; omega) (by simp only [RSt.add]; omega)) ?_ (Nat.le_succ _) rfl rfl ?_ (by simp only [RSt.add]; omega) (fun i => ⟨Seg.one (Blk1.pair rfl), rfl⟩) (fun rest hr => ?_)
        · rw [ploop]
          rw [if_pos h37, if_neg (by omega), if_neg (by omega), if_pos k2, if_pos k3]
          rfl
        · simp [RSt.add, capsEnd]
        · rw [List.singleton_append]
          unfold Wf
          rw [if_neg (by simp), if_neg (by simp), if_neg (by simp), if_neg (by simp), if_pos rfl]
          exact ⟨k4, hr⟩
      · rename_i k2
        split at hsp
        · rename_i k3
          rw [digit_iff] at k3
          split at hsp
          · cases hsp
          rename_i k4
          simp only [not_or] at k4
          obtain ⟨k4, k5⟩ := k4
          obtain rfl := Option.some.inj (Option.some.inj hsp)
          refine Lvl.step (p := .num (chr t (s.at_ + 1) - 48)) (xs := [⟨5, [], 0, chr t (s.at_ + 1) - 48, 0, 0⟩]) (k' := k) (n' := n) (ih n (Nat.lt_succ_self _) _ _ top D k _ h hsf htop (by simp only [RSt.add]; omega) (by simp only [RSt.add]; omega) (by simp only [RSt.add]; omega)) ?_ (Nat.le_succ _) rfl rfl ?_ (by simp only [RSt.add]; omega) (fun i => ⟨Seg.one (Blk1.bck rfl), rfl⟩) (fun rest hr => ?_)
          · rw [ploop]
            rw [if_pos h37, if_neg (by omega), if_pos (by omega)]
            rfl
          · simp [RSt.add, capsEnd]
          · rw [List.singleton_append]
            unfold Wf
            rw [if_neg (by simp), if_neg (by simp), if_neg (by simp), if_pos rfl]
            exact ⟨by simp only; omega, by simp only; omega, k5, hr⟩
        · cases hsp
    | none =>
      rw [hsp] at hI
      simp only at hI
      cases hS : pSingle t s.at_ with
      | none => rw [hS] at hI; cases hI
      | some y =>
      obtain ⟨set, e⟩ := y
      rw [hS] at hI
      simp only at hI
      have hle := pSingle_le hlt hS
      obtain ⟨c, hset, hpl⟩ := ploop_one (D := D) (k := k) (ps := ps) (top := top) hlow htl hlt hsp h40 h41 (fun hq => h36 ⟨hq.2.1, hq.2.2⟩) hS
      by_cases hr : e < t.length ∧ isRep (rd t e)
      · rw [if_pos hr] at hI
        obtain rfl := Option.some.inj hI
        obtain ⟨re, _, _⟩ := hlow.at_ hr.1
        have hrep := hr.2
        rw [re, isRep_iff] at hrep
        obtain ⟨k, rfl⟩ : ∃ m, k = m + 1 := ⟨k - 1, by omega⟩
        have e1 : s.at_ + (e + 1 - s.at_) = e + 1 := by omega
        refine Lvl.step (p := .rep (chr t e) c) (xs := [⟨1, set, rd t e, 0, 0, 0⟩]) (k' := k) (n' := n) (ih n (Nat.lt_succ_self _) _ _ top D k _ h hsf htop (by simp only [RSt.add]; omega) (by simp only [RSt.add]; omega) (by simp only [RSt.add]; omega)) ?_ (Nat.le_succ _) rfl rfl ?_ (by simp only [RSt.add]; omega) (fun i => ⟨Seg.one ?_, rfl⟩) (fun rest hr => ?_)
        · rw [hpl, ploop]
          rw [if_neg (by omega), if_neg (by omega), if_neg (by omega), if_neg (by omega), if_pos hrep]
          rw [List.getLast?_concat]
          simp only [List.dropLast_concat, RSt.add]
          rw [e1]
        · simp [RSt.add, capsEnd]
        · simp only [code]
          rw [re]
          rcases hrep with h1 | h1 | h1 | h1
          · rw [h1, if_pos rfl]; exact Blk1.star rfl hset rfl
          · rw [h1, if_neg (by decide), if_pos rfl]; exact Blk1.plus rfl hset rfl
          · rw [h1, if_neg (by decide), if_neg (by decide), if_pos rfl]; exact Blk1.lazy rfl hset rfl
          · rw [h1, if_neg (by decide), if_neg (by decide), if_neg (by decide)]; exact Blk1.opt rfl hset rfl
        · rw [List.singleton_append]
          unfold Wf
          rw [if_neg (by simp), if_neg (by simp), if_neg (by simp), if_neg (by simp), if_neg (by simp), if_neg (by simp)]
          refine ⟨rfl, ?_, hr⟩
          simp only [re]
          omega
      · rw [if_neg hr] at hI
        obtain rfl := Option.some.inj hI
        have e1 : s.at_ + (e - s.at_) = e := by omega
        refine Lvl.step (p := .one c) (xs := [⟨1, set, 32, 0, 0, 0⟩]) (k' := k) (n' := n) (ih n (Nat.lt_succ_self _) _ _ top D k _ h hsf htop (by simp only [RSt.add]; omega) (by simp only [RSt.add]; omega) (by simp only [RSt.add]; omega)) ?_ (Nat.le_succ _) rfl rfl ?_ (by simp only [RSt.add]; omega) (fun i => ⟨Seg.one (Blk1.one rfl hset rfl), rfl⟩) (fun rest hr => ?_)
        · rw [hpl]
          simp only [RSt.add]
          rw [e1]
        · simp [RSt.add, capsEnd]
        · rw [List.singleton_append]
          unfold Wf
          rw [if_neg (by simp), if_neg (by simp), if_neg (by simp), if_neg (by simp), if_neg (by simp), if_neg (by simp)]
          exact ⟨rfl, by simp, hr⟩
  · rw [if_neg hlt] at h
    obtain rfl := Option.some.inj h
    have ht : top = true := htop.2 hsf
    subst ht
    refine ⟨[], [], false, s.at_, ?_, fun i => ⟨Seg.nil i, rfl⟩, fun _ => ⟨by simp [endI], rfl, ?_⟩, fun hq => (by cases hq)⟩
    · rw [ploop]
      rw [chr_end (by omega)]
      simp
    · rw [hsf]
      show Wf (endI false) s.caps []
      unfold endI
      simp [Wf]
end
end Go.Proofs.YtpjfjfloeejgiaaFmt.Vm
/- A pattern that the reference reads: what the package makes of it, in one. -/
set_option linter.unusedVariables false
set_option linter.unusedSimpArgs false
namespace Go.Proofs.YtpjfjfloeejgiaaFmt.Vm
open Go.RowKit Go.Proofs.YtpjfjfloeejgiaaFmtW.PrintWords Go.Proofs.YtpjfjfloeejgiaaFmt.Scan Go.Proofs.YtpjfjfloeejgiaaFmt.Cls Go.Proofs.YtpjfjfloeejgiaaFmt.Ins Go.Proofs.YtpjfjfloeejgiaaFmt.Mst Go.Proofs.YtpjfjfloeejgiaaFmt.Mat Go.Proofs.YtpjfjfloeejgiaaFmt.Rf Go.Proofs.YtpjfjfloeejgiaaFmt.Pat Go.Proofs.YtpjfjfloeejgiaaFmt.Fnd Go.Proofs.YtpjfjfloeejgiaaFmt.PFnPatternFirst

theorem pItems_ok {t : List Int} : ∀ (n : Nat) (s sf : RSt), pItems t n s = some sf → s.at_ ≤ t.length → s.caps ≤ 9 → sf.at_ ≤ t.length ∧ sf.items.length + s.at_ ≤ s.items.length + sf.at_ ∧ sf.caps ≤ 9 := by
  intro n
  induction n with
  | zero => intro s sf h; simp [pItems] at h
  | succ n ih =>
    intro s sf h ha hc
    simp only [pItems] at h
    by_cases hlt : s.at_ < t.length
    · rw [if_pos hlt] at h
      cases hI : pItem t s with
      | none => rw [hI] at h; cases h
      | some s' =>
        rw [hI] at h
        simp only at h
        obtain ⟨k1, k2, k3, k4, k5⟩ := pItem_ok hI hlt hc
        have := ih _ _ h k2 k5
        omega
    · rw [if_neg hlt] at h
      obtain rfl := Option.some.inj h
      exact ⟨ha, Nat.le_refl _, hc⟩
theorem Wf.caps {E : List S147} : ∀ (its : List S147) (c : Nat) (opn : List Int), Wf (its ++ E) c opn → (∀ x ∈ opn, 1 ≤ x ∧ x ≤ c) → (∀ x ∈ its, x.f0 ≠ 7) → ∀ x ∈ its, (1 ≤ x.f0 ∧ x.f0 ≤ 6) ∧ (x.f0 = 2 ∨ x.f0 = 3 ∨ x.f0 = 4 ∨ x.f0 = 5 → 1 ≤ x.f3 ∧ x.f3 ≤ capsEnd its c) := by
  intro its
  induction its with
  | nil => intro c opn _ _ _ x hx; cases hx
  | cons y its ih =>
    intro c opn hw hop h7 x hx
    have hy7 := h7 y (List.mem_cons_self ..)
    have h7' : ∀ x ∈ its, x.f0 ≠ 7 := fun x hx => h7 x (List.mem_cons_of_mem _ hx)
    rw [List.cons_append] at hw
    unfold Wf at hw
    unfold capsEnd
    have low : ∀ z ∈ opn, 1 ≤ z ∧ z ≤ ((c + 1 : Nat) : Int) := fun z hz => by have := hop z hz; omega
    by_cases h2 : y.f0 = 2
    · rw [if_pos h2] at hw
      rw [if_pos (.inl h2)]
      have hle := capsEnd_le its (c + 1)
      rcases List.mem_cons.1 hx with rfl | hx
      · exact ⟨by omega, fun _ => by omega⟩
      · refine ih _ _ hw.2 (fun z hz => ?_) h7' x hx
        rcases List.mem_append.1 hz with hz | hz
        · exact low z hz
        · rw [List.mem_singleton.1 hz]; omega
    rw [if_neg h2] at hw
    by_cases h3 : y.f0 = 3
    · rw [if_pos h3] at hw
      rw [if_neg (by omega)]
      have hle := capsEnd_le its c
      have hsp := last_split hw.1
      rcases List.mem_cons.1 hx with rfl | hx
      · have := hop x.f3 (by rw [hsp]; simp)
        exact ⟨by omega, fun _ => by omega⟩
      · exact ih _ _ hw.2 (fun z hz => hop z (by rw [hsp]; simp [hz])) h7' x hx
    rw [if_neg h3] at hw
    by_cases h4 : y.f0 = 4
    · rw [if_pos h4] at hw
      rw [if_pos (.inr h4)]
      have hle := capsEnd_le its (c + 1)
      rcases List.mem_cons.1 hx with rfl | hx
      · exact ⟨by omega, fun _ => by omega⟩
      · exact ih _ _ hw.2 low h7' x hx
    rw [if_neg h4] at hw
    rw [if_neg (by omega)]
    have hle := capsEnd_le its c
    by_cases h5 : y.f0 = 5
    · rw [if_pos h5] at hw
      rcases List.mem_cons.1 hx with rfl | hx
      · exact ⟨by omega, fun _ => by omega⟩
      · exact ih _ _ hw.2.2.2 hop h7' x hx
    rw [if_neg h5] at hw
    by_cases h6 : y.f0 = 6
    · rw [if_pos h6] at hw
      rcases List.mem_cons.1 hx with rfl | hx
      · exact ⟨by omega, fun _ => by omega⟩
      · exact ih _ _ hw.2 hop h7' x hx
    rw [if_neg h6, if_neg hy7] at hw
    rcases List.mem_cons.1 hx with rfl | hx
    · exact ⟨by omega, fun _ => by omega⟩
    · exact ih _ _ hw.2.2 hop h7' x hx
theorem Blk1.len {i : Nat} {x : S147} {L : List Ins} (h : Blk1 i x L) : x.f0 ≠ 7 ∧ (x.f0 = 1 → x.f1.length = 128) ∧ L.length ≤ 3 ∧ 1 ≤ L.length := by
  cases h with
  | opn h => exact ⟨by omega, fun e => by omega, by simp, by simp⟩
  | cls h => exact ⟨by omega, fun e => by omega, by simp, by simp⟩
  | plc h => exact ⟨by omega, fun e => by omega, by simp, by simp⟩
  | bck h => exact ⟨by omega, fun e => by omega, by simp, by simp⟩
  | pair h => exact ⟨by omega, fun e => by omega, by simp, by simp⟩
  | one h hs hr => exact ⟨by omega, fun _ => hs.len, by simp, by simp⟩
  | star h hs hr => exact ⟨by omega, fun _ => hs.len, by simp, by simp⟩
  | plus h hs hr => exact ⟨by omega, fun _ => hs.len, by simp, by simp⟩
  | lazy h hs hr => exact ⟨by omega, fun _ => hs.len, by simp, by simp⟩
  | opt h hs hr => exact ⟨by omega, fun _ => hs.len, by simp, by simp⟩
theorem Seg.all {i : Nat} {its : List S147} {L : List Ins} (h : Seg i its L) : (∀ x ∈ its, x.f0 ≠ 7 ∧ (x.f0 = 1 → x.f1.length = 128)) ∧ L.length ≤ 3 * its.length := by
  induction h with
  | nil i => exact ⟨by simp, by simp⟩
  | cons h1 h2 ih =>
    obtain ⟨k1, k2, k3, k4⟩ := h1.len
    refine ⟨fun x hx => ?_, ?_⟩
    · rcases List.mem_cons.1 hx with rfl | hx
      · exact ⟨k1, k2⟩
      · exact ih.1 x hx
    · rw [List.length_append, List.length_cons]; omega
/-- An instruction whose operands are small. -/
def InsS (m : Nat) (p : Ins) : Prop :=
  match p with
  | .chr c => ∀ neg al, c = .set neg al → al.length ≤ 1000000
  | .op o a b => (o = 3 ∨ o = 4 → 0 ≤ a ∧ a ≤ m ∧ (o = 4 → 0 ≤ b ∧ b ≤ m)) ∧ (o = 5 ∨ o = 6 ∨ o = 8 → 0 ≤ a ∧ a ≤ 900)
theorem Seg.ins {i : Nat} {its : List S147} {L : List Ins} (h : Seg i its L) (hi : ∀ x ∈ its, x.f0 = 2 ∨ x.f0 = 3 ∨ x.f0 = 4 ∨ x.f0 = 5 → 1 ≤ x.f3 ∧ x.f3 ≤ 9) : ∀ p ∈ L, InsS (i + L.length + 3) p := by
  have mono : ∀ {m m2 : Nat} {p : Ins}, m ≤ m2 → InsS m p → InsS m2 p := by
    intro m m2 p hm hp
    cases p with
    | chr c => exact hp
    | op o a b => exact ⟨fun e => by have := hp.1 e; refine ⟨this.1, by omega, fun e4 => by have := this.2.2 e4; omega⟩, hp.2⟩
  induction h with
  | nil i => intro p hp; cases hp
  | @cons i x L its L' h1 h2 ih =>
    intro p hp
    have hx := hi x (List.mem_cons_self ..)
    rw [List.length_append]
    rcases List.mem_append.1 hp with hp | hp
    · refine mono (m := i + 3) (by omega) ?_
      cases h1 with
      | opn h => rw [List.mem_singleton.1 hp]; exact ⟨fun e => by omega, fun e => by have := hx (.inl h); omega⟩
      | cls h => rw [List.mem_singleton.1 hp]; exact ⟨fun e => by omega, fun e => by have := hx (.inr (.inl h)); omega⟩
      | plc h => rw [List.mem_singleton.1 hp]; exact ⟨fun e => by omega, fun e => by have := hx (.inr (.inr (.inl h))); omega⟩
      | bck h => rw [List.mem_singleton.1 hp]; exact ⟨fun e => by omega, fun e => by have := hx (.inr (.inr (.inr h))); omega⟩
      | pair h => rw [List.mem_singleton.1 hp]; exact ⟨fun e => by omega, fun e => by omega⟩
      | one h hs hr => rw [List.mem_singleton.1 hp]; exact hs.few
      | star h hs hr =>
        simp only [List.mem_cons, List.not_mem_nil, or_false] at hp
        rcases hp with rfl | rfl | rfl
        · exact ⟨fun e => by omega, fun e => by omega⟩
        · exact hs.few
        · exact ⟨fun e => by omega, fun e => by omega⟩
      | plus h hs hr =>
        simp only [List.mem_cons, List.not_mem_nil, or_false] at hp
        rcases hp with rfl | rfl
        · exact hs.few
        · exact ⟨fun e => by omega, fun e => by omega⟩
      | lazy h hs hr =>
        simp only [List.mem_cons, List.not_mem_nil, or_false] at hp
        rcases hp with rfl | rfl | rfl
        · exact ⟨fun e => by omega, fun e => by omega⟩
        · exact hs.few
        · exact ⟨fun e => by omega, fun e => by omega⟩
      | opt h hs hr =>
        simp only [List.mem_cons, List.not_mem_nil, or_false] at hp
        rcases hp with rfl | rfl
        · exact ⟨fun e => by omega, fun e => by omega⟩
        · exact hs.few
    · exact mono (by omega) (ih (fun y hy => hi y (List.mem_cons_of_mem _ hy)) p hp)
/-- All that is made of a pattern that the reference reads. -/
structure Made (t : List Int) (anc : Bool) (items : List S147) (n : Nat) (ps : List Pat) (its : List S147) (e : Bool) : Prop where
  low : Low t
  len : t.length ≤ 40
  top : ∃ c', ptop t = some (ps, e, c')
  eq : items = its ++ endI e
  anc : anc = (chr t 0 == 94)
  caps : n = capsEnd its 0
  nine : n ≤ 9
  wf : Wf items 0 []
  seg : Seg 1 its (codes ps 1 2).1
  next : (codes ps 1 2).2 = 2 * n + 2
  few : its.length ≤ 40
  it : ∀ x ∈ items, ItOk x
  ins : InsOk (fin true e (.op 5 0 (-1) :: (codes ps 1 2).1))
theorem read_made {t : List Int} (hb : ∀ x ∈ t, 0 ≤ x) {anc : Bool} {items : List S147} {n : Nat} (h : pRead t = some (anc, items, n)) : ∃ ps its e, Made t anc items n ps its e := by
  unfold pRead at h
  split at h
  · cases h
  rename_i hq
  simp only [not_or, Bool.not_eq_true, List.any_eq_false, decide_eq_true_eq, beq_iff_eq, Nat.not_lt] at hq
  obtain ⟨hl, h127, h0⟩ := hq
  have hlow : Low t := fun x hx => by have := hb x hx; have := h127 x hx; have := h0 x hx; omega
  simp only at h
  generalize hanc : decide (0 < t.length ∧ rd t 0 = 94) = anc0 at h
  cases hI : pItems t (t.length + 1) ⟨if anc0 = true then 1 else 0, [], [], 0⟩ with
  | none => rw [hI] at h; cases h
  | some sf =>
  rw [hI] at h
  simp only at h
  split at h
  · rename_i hopn
    simp only [Option.some.injEq, Prod.mk.injEq] at h
    obtain ⟨rfl, rfl, rfl⟩ := h
    have hchr : anc0 = (chr t 0 == 94) := by
      rw [← hanc]
      by_cases hl0 : 0 < t.length
      · have := (hlow.at_ hl0).1
        rw [show rd t 0 = chr t 0 from this, Bool.eq_iff_iff]
        simp [hl0]
      · rw [chr_end (by omega)]
        simp [hl0]
    have hat : (if anc0 = true then 1 else 0) ≤ t.length := by
      split
      · rename_i ha
        rw [ha] at hanc
        have := of_decide_eq_true hanc
        omega
      · omega
    have hL := lvl_all hlow (by omega) (t.length + 1) ⟨if anc0 = true then 1 else 0, [], [], 0⟩ sf true (t.length + 2) (t.length + 2) [] hI hopn (by simp) hat (by simp only; omega) (by simp only; omega)
    obtain ⟨qs, its, e, c', g1, g2, g3, _⟩ := hL
    obtain ⟨k1, k2, k3⟩ := g3 rfl
    simp only [List.nil_append] at g1 k1 k3
    have hok := pItems_ok _ _ _ hI hat (by show 0 ≤ 9; omega)
    simp only [List.length_nil] at hok
    obtain ⟨b1, b2⟩ := g2 1
    have hlen : its.length ≤ 40 := by
      have h1 := congrArg List.length k1
      rw [List.length_append] at h1
      omega
    obtain ⟨a1, a2⟩ := b1.all
    simp only at k2 k3 b1 b2 a2
    have a3 : (codes qs 1 2).1.length ≤ 3 * its.length := a2
    have hw := Wf.caps its 0 [] k3 (by simp) (fun x hx => (a1 x hx).1)
    have hidx : ∀ x ∈ its, x.f0 = 2 ∨ x.f0 = 3 ∨ x.f0 = 4 ∨ x.f0 = 5 → 1 ≤ x.f3 ∧ x.f3 ≤ 9 := fun x hx hq => by have := (hw x hx).2 hq; omega
    have hins := b1.ins hidx
    refine ⟨qs, its, e, hlow, hl, ⟨c', ?_⟩, k1, hchr, k2, hok.2.2, by rw [k1]; exact k3, b1, by rw [b2, k2], hlen, ?_, ?_⟩
    · unfold ptop
      rw [← g1, hchr]
      simp
    · intro x hx
      rw [k1] at hx
      rcases List.mem_append.1 hx with hx | hx
      · have := hw x hx
        exact ⟨by omega, (a1 x hx).2, hidx x hx⟩
      · unfold endI at hx
        split at hx
        · rw [List.mem_singleton.1 hx]
          exact ⟨by decide, fun hq => by simp at hq, fun hq => by simp at hq⟩
        · cases hx
    · have hmem : ∀ p ∈ fin true e (.op 5 0 (-1) :: (codes qs 1 2).1), InsS 1000 p := by
        intro p hp
        have hS : ∀ p ∈ (codes qs 1 2).1, InsS 1000 p := fun p hp => by
          have := hins p hp
          cases p with
          | chr c => exact this
          | op o a b =>
            refine ⟨fun hq => ?_, this.2⟩
            have h1 := this.1 hq
            refine ⟨h1.1, by omega, fun h4 => by have := h1.2.2 h4; omega⟩
        have five : ∀ a : Int, 0 ≤ a → a ≤ 900 → InsS 1000 (.op 5 a (-1)) := fun a h0 h1 => ⟨fun hq => by omega, fun _ => ⟨h0, h1⟩⟩
        have one : InsS 1000 (.op 1 (-1) (-1)) := ⟨fun hq => by omega, fun hq => by omega⟩
        have two : InsS 1000 (.op 2 (-1) (-1)) := ⟨fun hq => by omega, fun hq => by omega⟩
        unfold fin at hp
        rw [if_pos rfl] at hp
        cases e with
        | false =>
          simp only [Bool.false_eq_true, if_false, List.mem_append, List.mem_cons, List.not_mem_nil, or_false] at hp
          rcases hp with (rfl | hp) | rfl | rfl
          · exact five 0 (by omega) (by omega)
          · exact hS p hp
          · exact five 1 (by omega) (by omega)
          · exact one
        | true =>
          simp only [if_true, List.mem_append, List.mem_cons, List.not_mem_nil, or_false] at hp
          rcases hp with ((rfl | hp) | rfl | rfl) | rfl | rfl
          · exact five 0 (by omega) (by omega)
          · exact hS p hp
          · exact five 1 (by omega) (by omega)
          · exact two
          · exact five 1 (by omega) (by omega)
          · exact one
      refine ⟨?_, fun c hc => hmem _ hc, fun o a b hm => ?_⟩
      · unfold fin
        rw [if_pos rfl]
        split <;> simp only [List.length_append, List.length_cons, List.length_nil] <;> omega
      · have := hmem _ hm
        refine ⟨fun hq => ?_, this.2⟩
        have h1 := this.1 hq
        refine ⟨h1.1, by omega, fun h4 => by have := h1.2.2 h4; omega⟩
  · cases h
end Go.Proofs.YtpjfjfloeejgiaaFmt.Vm
/- What the package finds is what the reference's items tell. -/
set_option linter.unusedVariables false
set_option linter.unusedSimpArgs false
namespace Go.Proofs.YtpjfjfloeejgiaaFmt.Vm
open Go.RowKit Go.Proofs.YtpjfjfloeejgiaaFmtW.PrintWords Go.Proofs.YtpjfjfloeejgiaaFmt.Scan Go.Proofs.YtpjfjfloeejgiaaFmt.Cls Go.Proofs.YtpjfjfloeejgiaaFmt.Ins Go.Proofs.YtpjfjfloeejgiaaFmt.Mst Go.Proofs.YtpjfjfloeejgiaaFmt.Mat Go.Proofs.YtpjfjfloeejgiaaFmt.Rf Go.Proofs.YtpjfjfloeejgiaaFmt.Pat Go.Proofs.YtpjfjfloeejgiaaFmt.Fnd Go.Proofs.YtpjfjfloeejgiaaFmt.Mtc Go.Proofs.YtpjfjfloeejgiaaFmt.PFnPatternFirst

/-- The captures as the package keeps them at the end of a match. -/
structure Fit (s : List Int) (cs : List Int) (at_ en : Nat) (caps : List S74) : Prop where
  b : cs[0]? = some (2 * (at_ : Int))
  e : cs[1]? = some (2 * (en : Int))
  len : cs.length = 2 * caps.length + 2
  rel : RelC caps cs
  ok : CapsOk en caps []
  le : at_ ≤ en ∧ en ≤ s.length
  nine : caps.length ≤ 9
theorem fin_eq (e : Bool) (x : Ins) (L : List Ins) : fin true e (x :: L) = x :: (L ++ fine e) := by
  unfold fin fine
  cases e <;> simp
section
variable {s t : List Int} {anc e : Bool} {items its : List S147} {n : Nat} {ps : List Pat}
theorem top_den (hby : ∀ x ∈ s, 0 ≤ x ∧ x ≤ 127) (hs : s.length ≤ 200) (hM : Made t anc items n ps its e) {at_ : Nat} (hat : at_ ≤ s.length) {r : Option (Nat × List S74)} (hd : den s items at_ [] = some r) :
    ∃ cs', BigR s (fin true e (.op 5 0 (-1) :: (codes ps 1 2).1)) 1 0 at_ [] (r.map (·.1), cs') ∧ ∀ en caps, r = some (en, caps) → Fit s cs' at_ en caps := by
  rw [fin_eq]
  have hP : ((Ins.op 5 0 (-1)) :: ((codes ps 1 2).1 ++ fine e))[0]? = some (.op 5 0 (-1)) := rfl
  have hset : setc [] 0 (2 * (at_ : Int)) = [2 * (at_ : Int)] := rfl
  have hw := hM.wf
  have hcap := hM.caps
  have hfew := hM.few
  rw [hM.eq] at hd hw
  obtain ⟨cs', hv, hp⟩ := vm_den (P := (Ins.op 5 0 (-1)) :: ((codes ps 1 2).1 ++ fine e)) (n := n) hby its 1 (codes ps 1 2).1 [] [] at_ [2 * (at_ : Int)] 2 r hM.seg rfl hw hcap.symm CapsOk.nil hat (fun j c hc => by simp at hc) (by simp) (by simp) (by omega) hd
  cases r with
  | none =>
    refine ⟨_, BigR.save_no hP (by omega) (cs1 := cs') (by rw [show (0 : Int).toNat = 0 from rfl, hset]; exact hv), fun en caps hq => (by cases hq)⟩
  | some y =>
    obtain ⟨en, caps⟩ := y
    refine ⟨cs', BigR.save_yes hP (by omega) (cs1 := cs') (by rw [show (0 : Int).toNat = 0 from rfl, hset]; exact hv), fun en2 caps2 hq => ?_⟩
    simp only [Option.some.injEq, Prod.mk.injEq] at hq
    obtain ⟨rfl, rfl⟩ := hq
    obtain ⟨k1, k2, k3, k4, k5, k6, k7, k8⟩ := hp
    refine ⟨k2.trans (by simp), k4, ?_, k1, k6, ⟨k7, k8⟩, by rw [k5]; exact hM.nine⟩
    have h1 := (List.getElem?_eq_some_iff.1 k4).1
    by_cases h0 : caps.length = 0
    · omega
    · have hlt : caps.length - 1 < caps.length := by omega
      have hg := List.getElem?_eq_getElem hlt
      have hop := k6.op _ _ hg
      have hok := k6.ok _ _ hg
      have hrel := k1 _ _ hg
      have hne : ¬ (caps[caps.length - 1]).f1 = -1 := fun hq => by have := hop.1 hq; cases this
      have hl : 2 * (caps.length - 1 + 1) + 1 < cs'.length := by
        by_cases h2 : (caps[caps.length - 1]).f1 = -2
        · exact (List.getElem?_eq_some_iff.1 (hrel.1 h2).2).1
        · exact (List.getElem?_eq_some_iff.1 (hrel.2.2 (by omega))).1
      omega
theorem Fit.at_ {cs : List Int} {a en : Nat} {caps : List S74} (h : Fit s cs a en caps) {j : Nat} {c : S74} (hj : caps[j]? = some c) :
    0 ≤ c.f0 ∧ c.f0 ≤ en ∧ ((c.f1 = -2 ∧ cs[2 * (j + 1)]? = some (2 * (c.f0 + 1) + 1) ∧ cs[2 * (j + 1) + 1]? = some (2 * (c.f0 + 1) + 1)) ∨ (0 ≤ c.f1 ∧ c.f0 + c.f1 ≤ en ∧ cs[2 * (j + 1)]? = some (2 * c.f0) ∧ cs[2 * (j + 1) + 1]? = some (2 * (c.f0 + c.f1)))) := by
  have hop := h.ok.op _ _ hj
  have hok := h.ok.ok _ _ hj
  have hrel := h.rel _ _ hj
  have hne : ¬ c.f1 = -1 := fun hq => by have := hop.1 hq; cases this
  refine ⟨hok.1, hok.2.1, ?_⟩
  by_cases h2 : c.f1 = -2
  · exact .inl ⟨h2, hrel.1 h2⟩
  · exact .inr ⟨by omega, by omega, hrel.2.1 h2, hrel.2.2 (by omega)⟩
theorem Fit.few {cs : List Int} {a en : Nat} {caps : List S74} (h : Fit s cs a en caps) (hs : s.length ≤ 200) : MtOk cs := by
  have hn := h.nine
  have hl := h.len
  have hle := h.le
  refine ⟨⟨by omega, fun x hx => ?_⟩, by omega, by omega⟩
  obtain ⟨i, hi, rfl⟩ := List.getElem_of_mem hx
  have hg := List.getElem?_eq_getElem hi
  by_cases h0 : i = 0
  · subst h0
    have := h.b
    rw [hg] at this
    have := Option.some.inj this
    omega
  by_cases h1 : i = 1
  · subst h1
    have := h.e
    rw [hg] at this
    have := Option.some.inj this
    omega
  have hj : (i - 2) / 2 < caps.length := by omega
  have hc := List.getElem?_eq_getElem hj
  obtain ⟨k1, k2, k3⟩ := h.at_ hc
  rcases (show i = 2 * ((i - 2) / 2 + 1) ∨ i = 2 * ((i - 2) / 2 + 1) + 1 by omega) with hi2 | hi2
  · rcases k3 with ⟨_, k4, k5⟩ | ⟨k6, k7, k4, k5⟩
    · rw [← hi2, hg] at k4; have := Option.some.inj k4; omega
    · rw [← hi2, hg] at k4; have := Option.some.inj k4; omega
  · rcases k3 with ⟨_, k4, k5⟩ | ⟨k6, k7, k4, k5⟩
    · rw [← hi2, hg] at k5; have := Option.some.inj k5; omega
    · rw [← hi2, hg] at k5; have := Option.some.inj k5; omega
theorem Fit.due {cs : List Int} {a en : Nat} {caps : List S74} (h : Fit s cs a en caps) (hs : s.length ≤ 200) : Due (toM cs) a en (caps.map cap65) := by
  have hl := h.len
  have hle := h.le
  have hn : (cs.length - 2) / 2 = caps.length := by omega
  refine ⟨?_, ?_, ?_, ?_, ?_⟩
  · show cs.getD 0 0 / 2 = _
    rw [List.getD_eq_getElem?_getD, h.b, Option.getD_some]; omega
  · show cs.getD 1 0 / 2 = _
    rw [List.getD_eq_getElem?_getD, h.e, Option.getD_some]; omega
  · simp [toM, hn]
  · simp [toM, hn]
  · intro i hi
    rw [List.length_map] at hi
    have hc := List.getElem?_eq_getElem hi
    obtain ⟨k1, k2, k3⟩ := h.at_ hc
    have e65 : rd_T65 (caps.map cap65) (i : Int) = cap65 caps[i] := by simp [rd_T65, List.getD_eq_getElem?_getD, hi]
    have epl : rdOf false (toM cs).ps (i : Int) = plAt cs i := by simp [rdOf, toM, hn, List.getD_eq_getElem?_getD, hi]
    have ecs : rd_T33 (toM cs).cs (i : Int) = capAt cs i := by simp [rd_T33, toM, hn, List.getD_eq_getElem?_getD, hi]
    rw [e65, epl, ecs]
    generalize caps[i] = c at *
    have i2 : 2 + 2 * i = 2 * (i + 1) := by omega
    have i3 : 3 + 2 * i = 2 * (i + 1) + 1 := by omega
    unfold plAt capAt cap65
    rw [i2, i3]
    simp only
    rw [List.getD_eq_getElem?_getD, List.getD_eq_getElem?_getD]
    rcases k3 with ⟨k6, k4, k5⟩ | ⟨k6, k7, k4, k5⟩
    · rw [k4, k5, k6]
      simp only [Option.getD_some]
      have e1 : (2 * (c.f0 + 1) + 1) % 2 = 1 := by omega
      have e2 : (2 * (c.f0 + 1) + 1) / 2 = c.f0 + 1 := by omega
      rw [e1, e2]
      refine ⟨rfl, rfl, fun hq => (by cases hq), k1, by omega⟩
    · rw [k4, k5]
      simp only [Option.getD_some]
      have e1 : (2 * c.f0) % 2 = 0 := by omega
      have e2 : (2 * c.f0) / 2 = c.f0 := by omega
      have e3 : (2 * (c.f0 + c.f1)) / 2 = c.f0 + c.f1 := by omega
      have e4 : (c.f1 == -2) = false := beq_eq_false_iff_ne.mpr (by omega)
      rw [e1, e2, e3, e4]
      refine ⟨rfl, rfl, fun _ => ?_, k1, by omega⟩
      rw [if_neg (by decide)]
      split <;> omega
end
/-- The first match from a place on, without a count of steps. -/
def dFind (s : List Int) (items : List S147) (anc : Bool) : Nat → Nat → Option (Option (Nat × Nat × List S74))
  | 0, _ => none
  | n + 1, at_ =>
    if at_ ≤ s.length then
      match den s items at_ [] with
      | none => none
      | some (some (e, caps)) => some (some (at_, e, caps))
      | some none => if anc = true then some none else dFind s items anc n (at_ + 1)
    else some none
section
variable {s t : List Int} {anc e : Bool} {items its : List S147} {n : Nat} {ps : List Pat}
theorem pFind_d : ∀ (k at_ : Nat) (l : Int) (o : Int × Option (Nat × Nat × List S74)), pFind s items anc k at_ l = some o → (o = (2, none)) ∨ (∃ x, o = (0, some x) ∧ dFind s items anc k at_ = some (some x)) ∨ (o = (1, none) ∧ dFind s items anc k at_ = some none) := by
  intro k
  induction k with
  | zero => intro at_ l o h; simp [pFind] at h
  | succ k ih =>
    intro at_ l o h
    simp only [pFind] at h
    simp only [dFind]
    by_cases hle : at_ ≤ s.length
    · rw [if_pos hle] at h ⊢
      cases hm : mt s items at_ [] l with
      | none => rw [hm] at h; cases h
      | some y =>
        obtain ⟨r, l'⟩ := y
        rw [hm] at h
        simp only at h
        by_cases hl : l' ≤ 0
        · rw [if_pos hl] at h
          exact .inl (Option.some.inj h).symm
        · rw [if_neg hl] at h
          have hd := (mt_den _ _ _ _ _ _ _ hm).2 (by omega)
          rw [hd]
          cases r with
          | some z =>
            obtain ⟨en, caps⟩ := z
            simp only at h ⊢
            exact .inr (.inl ⟨_, (Option.some.inj h).symm, rfl⟩)
          | none =>
            simp only at h ⊢
            by_cases ha : anc = true
            · rw [if_pos ha] at h ⊢
              exact .inr (.inr ⟨(Option.some.inj h).symm, rfl⟩)
            · rw [if_neg ha] at h ⊢
              exact ih _ _ _ h
    · rw [if_neg hle] at h ⊢
      exact .inr (.inr ⟨(Option.some.inj h).symm, rfl⟩)
/-- What Find finds, as the reference tells it. -/
theorem finds_d (hby : ∀ x ∈ s, 0 ≤ x ∧ x ≤ 127) (hs : s.length ≤ 200) (hM : Made t anc items n ps its e) : ∀ (k at_ : Nat) (r : Option (Nat × Nat × List S74)), dFind s items anc k at_ = some r →
    ∃ res, (∃ K0, ∀ K, K0 ≤ K → finds s (fin true e (.op 5 0 (-1) :: (codes ps 1 2).1)) anc 1 K k at_ [] = some res) ∧ (r = none → res = []) ∧ ∀ a en caps, r = some (a, en, caps) → ∃ cs, res = [cs] ∧ Fit s cs a en caps := by
  intro k
  induction k with
  | zero => intro at_ r h; simp [dFind] at h
  | succ k ih =>
    intro at_ r h
    simp only [dFind] at h
    by_cases hle : at_ ≤ s.length
    · rw [if_pos hle] at h
      cases hd : den s items at_ [] with
      | none => rw [hd] at h; cases h
      | some r0 =>
        rw [hd] at h
        obtain ⟨cs', ⟨K1, hK1⟩, hfit⟩ := top_den hby hs hM hle hd
        cases r0 with
        | some z =>
          obtain ⟨en, caps⟩ := z
          simp only at h
          obtain rfl := Option.some.inj h
          refine ⟨[cs'], ⟨K1, fun K hK => ?_⟩, fun hq => (by cases hq), fun a en2 caps2 hq => ?_⟩
          · simp only [finds]
            rw [if_pos hle, hK1 K hK]
            simp [nextMs]
          · simp only [Option.some.injEq, Prod.mk.injEq] at hq
            obtain ⟨rfl, rfl, rfl⟩ := hq
            exact ⟨cs', rfl, hfit _ _ rfl⟩
        | none =>
          simp only at h
          by_cases ha : anc = true
          · rw [if_pos ha] at h
            obtain rfl := Option.some.inj h
            refine ⟨[], ⟨K1, fun K hK => ?_⟩, fun _ => rfl, fun a en2 caps2 hq => (by cases hq)⟩
            simp only [finds]
            rw [if_pos hle, hK1 K hK]
            simp [nextMs, ha]
          · rw [if_neg ha] at h
            obtain ⟨res, ⟨K2, hK2⟩, h1, h2⟩ := ih _ _ h
            refine ⟨res, ⟨K1 + K2, fun K hK => ?_⟩, h1, h2⟩
            simp only [finds]
            rw [if_pos hle, hK1 K (by omega)]
            show (if (([] : List (List Int)).length : Int) = 1 ∨ anc = true then some [] else finds s _ anc 1 K k (at_ + 1) []) = some res
            rw [if_neg (by simp [ha])]
            exact hK2 K (by omega)
    · rw [if_neg hle] at h
      obtain rfl := Option.some.inj h
      refine ⟨[], ⟨0, fun K hK => ?_⟩, fun _ => rfl, fun a en2 caps2 hq => (by cases hq)⟩
      simp only [finds]
      rw [if_neg hle]
end
section
variable {p s : ByteArray} {anc : Bool} {items : List S147} {n : Nat}
theorem bytes_nonneg (p : ByteArray) : ∀ x ∈ bytesOf p, 0 ≤ x ∧ x ≤ 255 := by
  intro x hx
  obtain ⟨i, hi, rfl⟩ := List.getElem_of_mem hx
  have := bt_range p i
  rw [← rd_bytesOf] at this
  simpa only [rd, Int.toNat_natCast, List.getD_eq_getElem?_getD, List.getElem?_eq_getElem hi, Option.getD_some] using this
/-- The package's matches where the reference tells the first one. -/
theorem first_matC (hr : pRead (bytesOf p) = some (anc, items, n)) (hB : isB s = true) (hs : s.size ≤ 200) {frm N : Nat} (hf : frm ≤ s.size) {r : Option (Nat × Nat × List S74)} (hd : dFind (bytesOf s) items anc N frm = some r) :
    ∃ ms, MatC p s frm 1 ms ∧ (r = none → ms = []) ∧ ∀ a en caps, r = some (a, en, caps) → ∃ m, ms = [m] ∧ Due m a en (caps.map cap65) := by
  obtain ⟨ps, its, e, hM⟩ := read_made (fun x hx => (bytes_nonneg p x hx).1) hr
  have hby : ∀ x ∈ bytesOf s, 0 ≤ x ∧ x ≤ 127 := by
    intro x hx
    have := (bytes_nonneg s x hx).1
    have h2 : ¬ (127 : Int) < x := by
      intro hq
      have : (bytesOf s).any (fun x => decide (127 < x)) = true := List.any_eq_true.2 ⟨x, hx, decide_eq_true hq⟩
      simp [isB, this] at hB
    omega
  have hsl : (bytesOf s).length ≤ 200 := by rw [bytesOf_length]; exact hs
  obtain ⟨res, ⟨K0, hK⟩, h1, h2⟩ := finds_d hby hsl hM N frm r hd
  have hf1 := hK K0 (Nat.le_refl _)
  have hpl : p.size ≤ 40 := by rw [← bytesOf_length p]; exact hM.len
  obtain ⟨c', htop⟩ := hM.top
  have hcl := hM.seg.all.2
  have hfew := hM.few
  have hnine := hM.nine
  have hok : ∀ cs ∈ res, MtOk cs := by
    intro cs hcs
    cases r with
    | none => rw [h1 rfl] at hcs; cases hcs
    | some y =>
      obtain ⟨a, en, caps⟩ := y
      obtain ⟨cs', he, hfit⟩ := h2 a en caps rfl
      rw [he] at hcs
      rw [List.mem_singleton.1 hcs]
      exact hfit.few hsl
  have hlen : res.length ≤ 100000 := by
    cases r with
    | none => rw [h1 rfl]; simp
    | some y => obtain ⟨a, en, caps⟩ := y; obtain ⟨cs', he, _⟩ := h2 a en caps rfl; rw [he]; simp
  refine ⟨res.map toM, fun w => ?_, fun hq => by rw [h1 hq]; rfl, fun a en caps hq => ?_⟩
  · refine matches_any (res := res) (fun W A c1 hS hc1 => ?_) (by omega) hok hlen
    refine find_any (K := K0) (n := N) hS hc1 htop (by omega) (ptop_ok htop) (by omega) (by rw [hM.next]; omega) hM.ins (by rw [bytesOf_length]; exact hf) ?_
    rw [← hM.anc]
    exact hf1
  · obtain ⟨cs, he, hfit⟩ := h2 a en caps hq
    exact ⟨toM cs, by rw [he]; rfl, hfit.due hsl⟩
end
end Go.Proofs.YtpjfjfloeejgiaaFmt.Vm
/- first9 where FirstMatch tells: both calls, plainly. -/
set_option linter.unusedVariables false
set_option linter.unusedSimpArgs false
namespace Go.Proofs.YtpjfjfloeejgiaaFmt.Lw
open Go.RowKit Go.Proofs.YtpjfjfloeejgiaaFmtW.PrintWords Go.Proofs.YtpjfjfloeejgiaaFmt.Rf Go.Proofs.YtpjfjfloeejgiaaFmt.Vm Go.Proofs.YtpjfjfloeejgiaaFmt.Mtc Go.Proofs.YtpjfjfloeejgiaaFmt.PFnPatternFirst

theorem isB_low {s : ByteArray} (hB : isB s = true) : ∀ x ∈ bytesOf s, 0 ≤ x ∧ x ≤ 127 := by
  intro x hx
  have := (bytes_nonneg s x hx).1
  have h2 : ¬ (127 : Int) < x := by
    intro hq
    have : (bytesOf s).any (fun x => decide (127 < x)) = true := List.any_eq_true.2 ⟨x, hx, decide_eq_true hq⟩
    simp [isB, this] at hB
  omega
theorem dFind_fit {p s : ByteArray} {anc : Bool} {items : List S147} {n : Nat} (hr : pRead (bytesOf p) = some (anc, items, n)) (hB : isB s = true) (hs : s.size ≤ 200) {k at_ a en : Nat} {caps : List S74} (hd : dFind (bytesOf s) items anc k at_ = some (some (a, en, caps))) :
    ∃ cs, Fit (bytesOf s) cs a en caps := by
  obtain ⟨ps, its, e, hM⟩ := read_made (fun x hx => (bytes_nonneg p x hx).1) hr
  obtain ⟨res, _, _, h2⟩ := finds_d (isB_low hB) (by rw [bytesOf_length]; exact hs) hM k at_ _ hd
  obtain ⟨cs, _, h⟩ := h2 a en caps rfl
  exact ⟨cs, h⟩
/-- What FirstMatch's answer tells, where it is not open. -/
theorem fFirst_told {p s : ByteArray} {frm : Int} {o : FndR} (h : fFirst p s frm = o) (h2 : o.1 ≠ 2) :
    ∃ anc items n, ∃ fn : Nat, pRead (bytesOf p) = some (anc, items, n) ∧ isB s = true ∧ s.size ≤ 200 ∧ frm = fn ∧ fn ≤ s.size ∧ (anc = true → fn = 0) ∧ ((∃ x, o = (0, some x)) ∨ o = (1, none)) ∧ dFind (bytesOf s) items anc (s.size + 2) fn = some o.2 := by
  unfold fFirst at h
  cases hr : pRead (bytesOf p) with
  | none => rw [hr] at h; simp only at h; exact absurd (by rw [← h]) h2
  | some y =>
    obtain ⟨anc, items, n⟩ := y
    rw [hr] at h
    simp only at h
    by_cases hc : isB s = false ∨ 200 < s.size ∨ frm < 0 ∨ (s.size : Int) < frm ∨ (anc = true ∧ 0 < frm)
    · rw [if_pos hc] at h; exact absurd (by rw [← h]) h2
    · rw [if_neg hc] at h
      simp only [not_or, Bool.not_eq_false] at hc
      obtain ⟨c1, c2, c3, c4, c5⟩ := hc
      obtain ⟨fn, hfn⟩ : ∃ fn : Nat, frm = fn := ⟨frm.toNat, by omega⟩
      subst hfn
      rw [Int.toNat_natCast] at h
      refine ⟨anc, items, n, fn, rfl, c1, by omega, rfl, by omega, fun ha => ?_, ?_⟩
      · have : ¬ (0 : Int) < (fn : Int) := fun hq => c5 ⟨ha, hq⟩
        omega
      · cases hp : pFind (bytesOf s) items anc (s.size + 2) fn 20000 with
        | none => rw [hp] at h; exact absurd (by rw [← h]; rfl) h2
        | some o' =>
          rw [hp, Option.getD_some] at h
          subst h
          rcases pFind_d _ _ _ _ hp with h3 | ⟨x, h3, h4⟩ | ⟨h3, h4⟩
          · exact absurd (by rw [h3]) h2
          · exact ⟨.inl ⟨x, h3⟩, by rw [h3]; exact h4⟩
          · exact ⟨.inr h3, by rw [h3]; exact h4⟩
/-- FirstMatch, at every input. -/
theorem firstMatch_any {w : World} {p s : ByteArray} {frm : Int} (hs : s.size ≤ 2147483647) :
    Calls Tryf.prog 11 #[.string p, .string s, .int .i64 frm] w (FirstE w (fFirst p s frm)) := by
  refine firstMatch_calls hs ?_
  intro anc items n hr
  obtain ⟨ps, its, e, hM⟩ := read_made (fun x hx => (bytes_nonneg p x hx).1) hr
  have hl : items.length ≤ 100 := by
    rw [hM.eq, List.length_append]
    have h1 := hM.few
    have h2 : (endI e).length ≤ 1 := by unfold endI; split <;> simp
    omega
  refine ⟨hM.it, hl, hM.wf, fun hB hs2 k at_ l a en caps hpf => ?_⟩
  rcases pFind_d _ _ _ _ hpf with h3 | ⟨x, h3, h4⟩ | ⟨h3, h4⟩
  · cases h3
  · simp only [Prod.mk.injEq, Option.some.injEq, true_and] at h3
    subst h3
    obtain ⟨cs, hfit⟩ := dFind_fit hr hB hs2 h4
    have hn := hfit.nine
    have hle := hfit.le
    have hbl : (bytesOf s).length = s.size := bytesOf_length s
    refine ⟨by omega, fun y hy => ?_⟩
    obtain ⟨j, hj, rfl⟩ := List.getElem_of_mem hy
    have := hfit.at_ (List.getElem?_eq_getElem hj)
    omega
  · cases h3
/-- What first9 answers where the reference tells: o. -/
def NineE (W : World) (o : Option (Nat × Nat × List S74)) (e : Ending) (w' : World) : Prop :=
  Below W.heap.size W w' ∧ match o with
  | none => e = .returned (.tuple #[.agg #[.int .i64 0, .int .i64 0, .slice none 0 0, .slice none 0 0], .bool true, .bool false])
  | some (a, en, caps) => ∃ m A1 c1 A2 c2, e = .returned (.tuple #[.agg #[.int .i64 m.b, .int .i64 m.e, .slice A1 m.cs.length c1, .slice A2 m.ps.length c2], .bool true, .bool true]) ∧ k33.C w' A1 m.cs.length m.cs ∧ Kd.bool.C w' A2 m.ps.length m.ps ∧ Due m a en (caps.map cap65)
theorem nine_d {w : World} {p s : ByteArray} {anc : Bool} {items : List S147} {n fn N : Nat} {r : Option (Nat × Nat × List S74)} (hr : pRead (bytesOf p) = some (anc, items, n)) (hB : isB s = true) (hs : s.size ≤ 200) (hf : fn ≤ s.size) (hd : dFind (bytesOf s) items anc N fn = some r) :
    Calls Tryf.prog 12 #[.string p, .string s, .int .i64 (fn : Int)] w (NineE w r) := by
  obtain ⟨ms, h1, h2, h3⟩ := first_matC hr hB hs hf hd
  cases r with
  | none =>
    rw [h2 rfl] at h1
    refine (first_none h1).mono ?_
    rintro e w' ⟨he, hb⟩
    exact ⟨hb, he⟩
  | some y =>
    obtain ⟨a, en, caps⟩ := y
    obtain ⟨m, he, hdue⟩ := h3 a en caps rfl
    rw [he] at h1
    refine (first_one h1).mono ?_
    rintro e w' ⟨A1, c1, A2, c2, he, hb, r1, r2⟩
    exact ⟨hb, m, A1, c1, A2, c2, he, r1, r2, hdue⟩
theorem nine_any {w : World} {p s : ByteArray} {frm : Int} {o : FndR} (h : fFirst p s frm = o) (h2 : o.1 ≠ 2) :
    Calls Tryf.prog 12 #[.string p, .string s, .int .i64 frm] w (NineE w o.2) := by
  obtain ⟨anc, items, n, fn, hr, hB, hs, rfl, hf, _, _, hd⟩ := fFirst_told h h2
  exact nine_d hr hB hs hf hd
end Go.Proofs.YtpjfjfloeejgiaaFmt.Lw
