/- Joined texts of this seat: Scan, ScanB, Cls, PCls, PSetA, PSet, PSetN, PClass, Frame. -/
import Derived.Test.YtpjfjfloeejgiaaFmtGb
import Derived.ScopeJumps
import Derived.Deep.RegionLaw
/- The scanner of package pm: Next, Peek, NextPos, Length, Save, Restore, newScanner, by their contracts. -/
set_option linter.unusedVariables false
set_option linter.unusedSimpArgs false
namespace Go.Proofs.YtpjfjfloeejgiaaFmt.Scan
open Go.RowKit Go.Proofs.YtpjfjfloeejgiaaFmtW.PrintWords

/-- A scanner's place (how many bytes it has given), and how its two fields tell it. -/
def Rp (n : Nat) : Option Nat → Int → Bool → Prop
  | none, _, _ => True
  | some c, p, s => c ≤ n ∧ ((c = 0 ∧ p = 0 ∧ s = false) ∨ (0 < c ∧ p = (c : Int) - 1 ∧ s = true) ∨ (c = n ∧ p = -1 ∧ s = true))

def scells (A : Option Addr) (n cap : Nat) (p : Int) (s : Bool) (sp : Int) (ss : Bool) : Array Value := #[.slice A n cap, .int .i64 p, .bool s, .int .i64 sp, .bool ss]

section
variable {w : World} {g n cap : Nat} {A : Option Addr} {p sp : Int} {s ss : Bool}
theorem sc0 (h : w.heap[g]? = some (.cells (scells A n cap p s sp ss) 133 (0, 0))) : w.cell? ⟨g, 0, none⟩ = some (.slice A n cap) := blk_cell h 0
theorem sc1 (h : w.heap[g]? = some (.cells (scells A n cap p s sp ss) 133 (0, 0))) : w.cell? ⟨g, 1, none⟩ = some (.int .i64 p) := blk_cell h 1
theorem sc2 (h : w.heap[g]? = some (.cells (scells A n cap p s sp ss) 133 (0, 0))) : w.cell? ⟨g, 2, none⟩ = some (.bool s) := blk_cell h 2
theorem sc3 (h : w.heap[g]? = some (.cells (scells A n cap p s sp ss) 133 (0, 0))) : w.cell? ⟨g, 3, none⟩ = some (.int .i64 sp) := blk_cell h 3
theorem sc4 (h : w.heap[g]? = some (.cells (scells A n cap p s sp ss) 133 (0, 0))) : w.cell? ⟨g, 4, none⟩ = some (.bool ss) := blk_cell h 4
theorem set1 (h : w.heap[g]? = some (.cells (scells A n cap p s sp ss) 133 (0, 0))) (x : Int) : (w.setCell ⟨g, 1, none⟩ (.int .i64 x)).heap[g]? = some (.cells (scells A n cap x s sp ss) 133 (0, 0)) := blk_set h 1 _
theorem set2 (h : w.heap[g]? = some (.cells (scells A n cap p s sp ss) 133 (0, 0))) (x : Bool) : (w.setCell ⟨g, 2, none⟩ (.bool x)).heap[g]? = some (.cells (scells A n cap p x sp ss) 133 (0, 0)) := blk_set h 2 _
theorem set3 (h : w.heap[g]? = some (.cells (scells A n cap p s sp ss) 133 (0, 0))) (x : Int) : (w.setCell ⟨g, 3, none⟩ (.int .i64 x)).heap[g]? = some (.cells (scells A n cap p s x ss) 133 (0, 0)) := blk_set h 3 _
theorem set4 (h : w.heap[g]? = some (.cells (scells A n cap p s sp ss) 133 (0, 0))) (x : Bool) : (w.setCell ⟨g, 4, none⟩ (.bool x)).heap[g]? = some (.cells (scells A n cap p s sp x) 133 (0, 0)) := blk_set h 4 _
end

/-- The fields that a walk of a scanner's method reads. -/
structure SF (w : World) (g : Nat) (A : Option Addr) (n cap : Nat) (p : Int) (s : Bool) (sp : Int) (ss : Bool) : Prop where
  h : w.heap[g]? = some (.cells (scells A n cap p s sp ss) 133 (0, 0))

theorem nextpos_eof (w : World) (g : Nat) (A : Option Addr) (n cap : Nat) (p : Int) (s : Bool) (sp : Int) (ss : Bool)
    (hh : SF w g A n cap p s sp ss) (hn : n ≤ 1000) (hp : p = -1 ∨ (n : Int) - 1 ≤ p) :
    Calls Tryf.prog 39 #[.pointer (some ⟨g, 0, none⟩)] w fun e w' => e = .returned (.int .i64 (-1)) ∧ Drawn0 w w' := by
  have c0 := sc0 hh.h
  have c1 := sc1 hh.h
  have c2 := sc2 hh.h
  by_cases h1 : p = -1
  · have h2 : (p == -1) = true := by simp [h1]
    clear hp h1
    go_enter Tryf.func39, Tryf.ntmps39
    go_wp2
    go_quiet (fail)
    go_wp2
    go_ret
    exact ⟨rfl, ⟨⟨_, rfl⟩⟩⟩
  · have h2 : (p == -1) = false := by simp [h1]
    have h3 : (n : Int) - 1 ≤ p := hp.resolve_left h1
    clear hp h1
    go_enter Tryf.func39, Tryf.ntmps39
    go_wp2
    go_quiet (fail)
    go_wp2
    go_ret
    exact ⟨rfl, ⟨⟨_, rfl⟩⟩⟩

theorem nextpos_at (w : World) (g : Nat) (A : Option Addr) (n cap : Nat) (p : Int) (s : Bool) (sp : Int) (ss : Bool)
    (hh : SF w g A n cap p s sp ss) (hn : n ≤ 1000) (h0 : 0 ≤ p) (hp : p < (n : Int) - 1) :
    Calls Tryf.prog 39 #[.pointer (some ⟨g, 0, none⟩)] w fun e w' => e = .returned (.int .i64 (if s then p + 1 else 0)) ∧ Drawn0 w w' := by
  have c0 := sc0 hh.h
  have c1 := sc1 hh.h
  have c2 := sc2 hh.h
  have h2 : (p == -1) = false := by simp; omega
  cases s
  all_goals
    go_enter Tryf.func39, Tryf.ntmps39
    go_wp2
    go_quiet (fail)
    go_wp2
    go_ret
    exact ⟨rfl, ⟨⟨_, rfl⟩⟩⟩

theorem src_at {w0 w : World} {g : Nat} {A : Option Addr} {src : List Int} (hs : Kd.C (Kd.int .u8) w0 A src.length src) (hB : Below w0.heap.size w0 w) (hg : w0.heap.size ≤ g) (i : Int) (h0 : 0 ≤ i) (h1 : i < src.length) :
    ∃ ad, A = some ad ∧ w.cell? (ad.add i.toNat) = some (.int .u8 (rd src i)) ∧ (ad.add i.toNat).block ≠ g := by
  obtain ⟨ad, e, hx⟩ := Kd.at_int hs i h0 h1
  have := World.block_lt_of_cell? _ _ hx
  exact ⟨ad, e, pw_cell_below hB hx, by omega⟩

section
variable {w w1 : World} {g n cap : Nat} {A : Option Addr} {p sp : Int} {s ss : Bool}
theorem SF.drewN (h : SF w g A n cap p s sp ss) (m : Nat) : SF (w.drewN m) g A n cap p s sp ss := ⟨h.h⟩
theorem SF.s1 (h : SF w g A n cap p s sp ss) (x : Int) : SF (w.setCell ⟨g, 1, none⟩ (.int .i64 x)) g A n cap x s sp ss := ⟨set1 h.h x⟩
theorem SF.s2 (h : SF w g A n cap p s sp ss) (x : Bool) : SF (w.setCell ⟨g, 2, none⟩ (.bool x)) g A n cap p x sp ss := ⟨set2 h.h x⟩
theorem SF.s3 (h : SF w g A n cap p s sp ss) (x : Int) : SF (w.setCell ⟨g, 3, none⟩ (.int .i64 x)) g A n cap p s x ss := ⟨set3 h.h x⟩
theorem SF.s4 (h : SF w g A n cap p s sp ss) (x : Bool) : SF (w.setCell ⟨g, 4, none⟩ (.bool x)) g A n cap p s sp x := ⟨set4 h.h x⟩
end
/-- What a method of the scanner in block g leaves of all else. -/
structure Kp (w0 w w' : World) (g : Nat) : Prop where
  b : Below w0.heap.size w0 w'
  k : KeepBut w w' g none
theorem Kp.refl {w0 w : World} (h : Below w0.heap.size w0 w) (g : Nat) : Kp w0 w w g := ⟨h, KeepBut.refl _ _ _⟩
theorem Kp.drewN {w0 w w' : World} {g : Nat} (h : Kp w0 w w' g) (n : Nat) : Kp w0 w (w'.drewN n) g := ⟨pw_below_drewN h.b n, keep_drewN h.k n⟩
theorem Kp.set {w0 w w' : World} {g : Nat} (h : Kp w0 w w' g) (hg : w0.heap.size ≤ g) (j : Nat) (u : Value) : Kp w0 w (w'.setCell ⟨g, j, none⟩ u) g := ⟨below_set h.b hg, KeepBut.set_ h.k j u⟩
theorem Kp.trans {w0 w w1 w2 : World} {g : Nat} (h : Kp w0 w w1 g) (k : Kp w0 w1 w2 g) : Kp w0 w w2 g := ⟨k.b, KeepBut.trans h.k k.k (.inl rfl)⟩

theorem next_fresh (w0 w : World) (g : Nat) (A : Option Addr) (cap : Nat) (src : List Int) (p : Int) (sp : Int) (ss : Bool)
    (hh : SF w g A src.length cap p false sp ss)
    (hs : Kd.C (Kd.int .u8) w0 A src.length src) (hB : Aside0 (Below w0.heap.size w0 w)) (hg : w0.heap.size ≤ g) (h0 : 0 ≤ p) (hc : p < src.length) (hr : 0 ≤ rd src p) (hr' : rd src p ≤ 255) :
    Calls Tryf.prog 33 #[.pointer (some ⟨g, 0, none⟩)] w fun e w' => e = .returned (.int .i64 (rd src p)) ∧
      SF w' g A src.length cap p true sp ss ∧ Kp w0 w w' g := by
  have c0 := sc0 hh.h
  have c1 := sc1 hh.h
  have c2 := sc2 hh.h
  have f1 := blk_frozen hh.h 1
  have f2 := blk_frozen hh.h 2
  obtain ⟨ad, e, hx, hne⟩ := src_at hs hB.out hg p h0 hc
  cases e
  replace hx := (cell_far (p := ⟨g, 2, none⟩) hne (.bool true)).trans hx
  have hx2 := fun (n_ : Nat) => (show (((w.drewN n_).setCell ⟨g, 2, none⟩ (.bool true))).cell? _ = some _ from hx)
  have hc' : ((src.length : Int) == 0) = false := beq_eq_false_iff_ne.mpr (by omega)
  have hp' : (p == -1) = false := by simp; omega
  have h0' := eq_true h0
  have hc'' := eq_true hc
  go_enter Tryf.func33, Tryf.ntmps33
  go_wp2
  go_quiet (fail)
  go_wp2
  go_ret
  exact ⟨rfl, (hh.s2 _).drewN _, ((Kp.refl hB.out g).set hg _ _).drewN _⟩

theorem next_empty (w0 w : World) (g : Nat) (A : Option Addr) (cap : Nat) (sp : Int) (ss : Bool)
    (hh : SF w g A 0 cap 0 false sp ss) (hB : Aside0 (Below w0.heap.size w0 w)) (hg : w0.heap.size ≤ g) :
    Calls Tryf.prog 33 #[.pointer (some ⟨g, 0, none⟩)] w fun e w' => e = .returned (.int .i64 (-1)) ∧
      SF w' g A 0 cap (-1) true sp ss ∧ Kp w0 w w' g := by
  have c0 := sc0 hh.h
  have c1 := sc1 hh.h
  have c2 := sc2 hh.h
  have f1 := blk_frozen hh.h 1
  have f2 := blk_frozen hh.h 2
  go_enter Tryf.func33, Tryf.ntmps33
  go_wp2
  go_ret
  exact ⟨rfl, (hh.s2 _).s1 _, ((Kp.refl hB.out g).set hg _ _).set hg _ _⟩

theorem next_end (w0 w : World) (g : Nat) (A : Option Addr) (n cap : Nat) (p sp : Int) (ss : Bool)
    (hh : SF w g A n cap p true sp ss) (hB : Aside0 (Below w0.heap.size w0 w)) (hg : w0.heap.size ≤ g) (hn : n ≤ 1000) (hp : p = -1 ∨ (n : Int) - 1 ≤ p) :
    Calls Tryf.prog 33 #[.pointer (some ⟨g, 0, none⟩)] w fun e w' => e = .returned (.int .i64 (-1)) ∧
      SF w' g A n cap (-1) true sp ss ∧ Kp w0 w w' g := by
  have c0 := sc0 hh.h
  have c1 := sc1 hh.h
  have c2 := sc2 hh.h
  have f1 := blk_frozen hh.h 1
  have f2 := blk_frozen hh.h 2
  have hp' := Aside0.mk hp
  clear hp
  go_enter Tryf.func33, Tryf.ntmps33
  go_wp2_with (go_at_call 39; refine (nextpos_eof _ g A n cap p true sp ss hh hn hp'.out).mono ?_; rintro e w1 ⟨rfl, ⟨nq, rfl⟩⟩)
  go_ret
  exact ⟨rfl, (hh.drewN _).s1 _, ((Kp.refl hB.out g).drewN _).set hg _ _⟩

theorem next_go (w0 w : World) (g : Nat) (A : Option Addr) (cap : Nat) (src : List Int) (p : Int) (sp : Int) (ss : Bool)
    (hh : SF w g A src.length cap p true sp ss)
    (hs : Kd.C (Kd.int .u8) w0 A src.length src) (hB : Aside0 (Below w0.heap.size w0 w)) (hg : w0.heap.size ≤ g) (h0 : 0 ≤ p) (hc : p < (src.length : Int) - 1) (hn : src.length ≤ 1000) (hr : 0 ≤ rd src (p + 1)) (hr' : rd src (p + 1) ≤ 255) :
    Calls Tryf.prog 33 #[.pointer (some ⟨g, 0, none⟩)] w fun e w' => e = .returned (.int .i64 (rd src (p + 1))) ∧
      SF w' g A src.length cap (p + 1) true sp ss ∧ Kp w0 w w' g := by
  have c0 := sc0 hh.h
  have c1 := sc1 hh.h
  have c2 := sc2 hh.h
  have f1 := blk_frozen hh.h 1
  have f2 := blk_frozen hh.h 2
  obtain ⟨ad, e, hx, hne⟩ := src_at hs hB.out hg (p + 1) (by omega) (by omega)
  cases e
  have hx2 := fun (n_ m_ : Nat) => (show ((((w.drewN m_).setCell ⟨g, 1, none⟩ (.int .i64 (p + 1)))).drewN n_).cell? _ = some _ from (cell_far (p := ⟨g, 1, none⟩) hne (.int .i64 (p + 1))).trans hx)
  have hx3 := fun (m_ : Nat) => (show ((((w.drewN m_).setCell ⟨g, 1, none⟩ (.int .i64 (p + 1))))).cell? _ = some _ from (cell_far (p := ⟨g, 1, none⟩) hne (.int .i64 (p + 1))).trans hx)
  have hp' : (p + 1 == -1) = false := by simp; omega
  have h0' := eq_true (show 0 ≤ p + 1 by omega)
  have hc'' := eq_true (show p + 1 < (src.length : Int) by omega)
  go_enter Tryf.func33, Tryf.ntmps33
  go_wp2_with (go_at_call 39; refine (nextpos_at _ g (some ad) src.length cap p true sp ss hh hn h0 hc).mono ?_; rintro e w1 ⟨rfl, ⟨nq, rfl⟩⟩)
  go_quiet (fail)
  go_wp2
  go_ret
  exact ⟨rfl, ((hh.drewN _).s1 _).drewN _, (((Kp.refl hB.out g).drewN _).set hg _ _).drewN _⟩

/-- The byte at a place; -1 behind the end. -/
def chr (src : List Int) (c : Nat) : Int := src.getD c (-1)
theorem chr_end {src : List Int} {c : Nat} (h : src.length ≤ c) : chr src c = -1 := by simp [chr, List.getD_eq_getElem?_getD, List.getElem?_eq_none h]
theorem chr_rd {src : List Int} {c : Nat} (h : c < src.length) : rd src c = chr src c := by simp [chr, rd, List.getD_eq_getElem?_getD, List.getElem?_eq_getElem h]

/-- The source: bytes, read in an elder world. -/
structure Src (w0 : World) (A : Option Addr) (src : List Int) : Prop where
  c : Kd.C (Kd.int .u8) w0 A src.length src
  n : src.length ≤ 1000
  r : ∀ x ∈ src, 0 ≤ x ∧ x ≤ 255

theorem Src.chr {w0 : World} {A : Option Addr} {src : List Int} (h : Src w0 A src) {c : Nat} (hc : c < src.length) : 0 ≤ rd src c ∧ rd src c ≤ 255 := by
  have := h.r src[c] (List.getElem_mem hc)
  simpa [rd, List.getD_eq_getElem?_getD, List.getElem?_eq_getElem hc] using this

theorem next_any (w0 w : World) (g : Nat) (A : Option Addr) (cap : Nat) (src : List Int) (c : Nat) (p : Int) (s : Bool) (sp : Int) (ss : Bool)
    (hs : Src w0 A src) (hB : Below w0.heap.size w0 w) (hg : w0.heap.size ≤ g) (hr : Rp src.length (some c) p s) (hh : SF w g A src.length cap p s sp ss) :
    Calls Tryf.prog 33 #[.pointer (some ⟨g, 0, none⟩)] w fun e w' => e = .returned (.int .i64 (chr src c)) ∧
      (∃ p' s', Rp src.length (some (min (c + 1) src.length)) p' s' ∧ SF w' g A src.length cap p' s' sp ss ∧ (c < src.length → p' = c ∧ s' = true) ∧ (src.length ≤ c → p' = -1 ∧ s' = true)) ∧ Kp w0 w w' g := by
  obtain ⟨hcn, hr⟩ := hr
  rcases Nat.lt_or_ge c src.length with hc | hc
  · have hb := hs.chr hc
    have hm : min (c + 1) src.length = c + 1 := by omega
    rw [hm, ← chr_rd hc]
    rcases hr with ⟨rfl, rfl, rfl⟩ | ⟨h0, rfl, rfl⟩ | ⟨rfl, rfl, rfl⟩
    · refine (next_fresh w0 w g A cap src (0 : Int) sp ss hh hs.c ⟨hB⟩ hg (by omega) (by omega) hb.1 hb.2).mono ?_
      rintro e w' ⟨rfl, h1, h2⟩
      exact ⟨rfl, ⟨_, _, ⟨by omega, .inr (.inl ⟨by omega, by omega, rfl⟩)⟩, h1, fun _ => ⟨rfl, rfl⟩, fun h => by omega⟩, h2⟩
    · have e1 : (c : Int) - 1 + 1 = c := by omega
      refine (next_go w0 w g A cap src ((c : Int) - 1) sp ss hh hs.c ⟨hB⟩ hg (by omega) (by omega) hs.n (by rw [e1]; exact hb.1) (by rw [e1]; exact hb.2)).mono ?_
      rw [e1]
      rintro e w' ⟨rfl, h1, h2⟩
      exact ⟨rfl, ⟨_, _, ⟨by omega, .inr (.inl ⟨by omega, by omega, rfl⟩)⟩, h1, fun _ => ⟨rfl, rfl⟩, fun h => by omega⟩, h2⟩
    · omega
  · have hcc : c = src.length := by omega
    have hm : min (c + 1) src.length = c := by omega
    rw [hm, chr_end hc]
    have fin : ∀ e w', (e = Ending.returned (.int .i64 (-1)) ∧ SF w' g A src.length cap (-1) true sp ss ∧ Kp w0 w w' g) → (e = Ending.returned (.int .i64 (-1)) ∧
      (∃ p' s', Rp src.length (some c) p' s' ∧ SF w' g A src.length cap p' s' sp ss ∧ (c < src.length → p' = c ∧ s' = true) ∧ (src.length ≤ c → p' = -1 ∧ s' = true)) ∧ Kp w0 w w' g) := by
      rintro e w' ⟨rfl, h1, h2⟩
      exact ⟨rfl, ⟨_, _, ⟨by omega, .inr (.inr ⟨hcc, rfl, rfl⟩)⟩, h1, fun h => by omega, fun _ => ⟨rfl, rfl⟩⟩, h2⟩
    rcases hr with ⟨h0, rfl, rfl⟩ | ⟨h0, rfl, rfl⟩ | ⟨_, rfl, rfl⟩
    · have hl : src.length = 0 := by omega
      rw [hl] at hh fin ⊢
      exact (next_empty w0 w g A cap sp ss hh ⟨hB⟩ hg).mono fin
    · exact (next_end w0 w g A src.length cap _ sp ss hh ⟨hB⟩ hg hs.n (.inr (by omega))).mono fin
    · exact (next_end w0 w g A src.length cap _ sp ss hh ⟨hB⟩ hg hs.n (.inl rfl)).mono fin

end Go.Proofs.YtpjfjfloeejgiaaFmt.Scan
/- The scanner of package pm, further: Peek, Length, Save, Restore, newScanner, by their contracts. -/
set_option linter.unusedVariables false
set_option linter.unusedSimpArgs false
namespace Go.Proofs.YtpjfjfloeejgiaaFmt.Scan
open Go.RowKit Go.Proofs.YtpjfjfloeejgiaaFmtW.PrintWords

theorem peek_any (w0 w : World) (g : Nat) (A : Option Addr) (cap : Nat) (src : List Int) (c : Nat) (p : Int) (s : Bool) (sp : Int) (ss : Bool)
    (hs : Src w0 A src) (hB : Below w0.heap.size w0 w) (hg : w0.heap.size ≤ g) (hr : Rp src.length (some c) p s) (hh : SF w g A src.length cap p s sp ss) :
    Calls Tryf.prog 32 #[.pointer (some ⟨g, 0, none⟩)] w fun e w' => e = .returned (.int .i64 (chr src c)) ∧
      (∃ p' s', Rp src.length (some c) p' s' ∧ SF w' g A src.length cap p' s' sp ss) ∧ Kp w0 w w' g := by
  have c1 := sc1 hh.h
  have f1 := blk_frozen hh.h 1
  have hcall := Aside0.mk (next_any w0 w g A cap src c p s sp ss hs hB hg hr hh)
  have HR := Aside0.mk hr
  have hcn : c ≤ src.length := hr.1
  have hln := hs.n
  clear hr hh
  by_cases hp : p = -1
  · have hp1 : (p == -1) = true := by simp [hp]
    have hcc : src.length ≤ c := by
      rcases HR.out.2 with ⟨h, h', _⟩ | ⟨h, h', _⟩ | ⟨h, _, _⟩ <;> omega
    clear hp
    go_enter Tryf.func32, Tryf.ntmps32
    go_wp2_with (go_at_call 33; refine hcall.out.mono ?_; rintro e w1 ⟨rfl, ⟨p', s', hr', hh', _, hge⟩, hk⟩; have HR' := Aside0.mk hr'; have HGE := Aside0.mk hge; have HH := Aside0.mk hh'; have HK := Aside0.mk hk; clear hr' hge hh' hk)
    go_ret
    have hm : min (c + 1) src.length = c := by omega
    have HR'' := HR'.out
    rw [hm] at HR''
    exact ⟨rfl, ⟨_, _, HR'', HH.out⟩, HK.out⟩
  · have hp1 : (p == -1) = false := by simp [hp]
    clear hp
    rcases Nat.lt_or_ge c src.length with hc | hc
    · by_cases hc0 : c = 0
      · have hc1 : decide ((c : Int) - 1 < 0) = true := by simp [hc0]
        go_enter Tryf.func32, Tryf.ntmps32
        go_wp2_with (go_at_call 33; refine hcall.out.mono ?_; rintro e w1 ⟨rfl, ⟨p', s', hr', hh', hlt, _⟩, hk⟩; obtain ⟨rfl, rfl⟩ := hlt hc; have HR' := Aside0.mk hr'; have HH := Aside0.mk hh'; have HK := Aside0.mk hk; have d0 := sc0 hh'.h; have d1 := sc1 hh'.h; have d2 := sc2 hh'.h; have g1 := blk_frozen hh'.h 1; have g2 := blk_frozen hh'.h 2; clear hr' hh' hk)
        go_ret
        subst hc0
        exact ⟨rfl, ⟨_, _, ⟨by omega, .inl ⟨rfl, rfl, rfl⟩⟩, ((HH.out.s1 _).s1 _).s2 _⟩, ((HK.out.set hg _ _).set hg _ _).set hg _ _⟩
      · have hc1 : ¬ (c : Int) - 1 < 0 := by omega
        have hc2 : ((c : Int) == -1) = false := by simp
        go_enter Tryf.func32, Tryf.ntmps32
        go_wp2_with (go_at_call 33; refine hcall.out.mono ?_; rintro e w1 ⟨rfl, ⟨p', s', hr', hh', hlt, _⟩, hk⟩; obtain ⟨rfl, rfl⟩ := hlt hc; have HR' := Aside0.mk hr'; have HH := Aside0.mk hh'; have HK := Aside0.mk hk; have d0 := sc0 hh'.h; have d1 := sc1 hh'.h; have d2 := sc2 hh'.h; have g1 := blk_frozen hh'.h 1; have g2 := blk_frozen hh'.h 2; clear hr' hh' hk)
        go_ret
        exact ⟨rfl, ⟨_, _, ⟨by omega, .inr (.inl ⟨by omega, rfl, rfl⟩)⟩, HH.out.s1 _⟩, HK.out.set hg _ _⟩
    · go_enter Tryf.func32, Tryf.ntmps32
      go_wp2_with (go_at_call 33; refine hcall.out.mono ?_; rintro e w1 ⟨rfl, ⟨p', s', hr', hh', _, hge⟩, hk⟩; obtain ⟨rfl, rfl⟩ := hge hc; have HR' := Aside0.mk hr'; have HH := Aside0.mk hh'; have HK := Aside0.mk hk; have d0 := sc0 hh'.h; have d1 := sc1 hh'.h; have d2 := sc2 hh'.h; have g1 := blk_frozen hh'.h 1; have g2 := blk_frozen hh'.h 2; clear hr' hh' hk)
      go_ret
      have hcc : c = src.length := by omega
      refine ⟨rfl, ⟨_, _, ⟨by omega, ?_⟩, HH.out.s1 _⟩, HK.out.set hg _ _⟩
      rcases Nat.eq_zero_or_pos c with h | h
      · exact .inr (.inr ⟨hcc, by omega, rfl⟩)
      · exact .inr (.inl ⟨h, by omega, rfl⟩)

theorem save_any (w0 w : World) (g : Nat) (A : Option Addr) (n cap : Nat) (p : Int) (s : Bool) (sp : Int) (ss : Bool)
    (hB : Below w0.heap.size w0 w) (hg : w0.heap.size ≤ g) (hh : SF w g A n cap p s sp ss) :
    Calls Tryf.prog 34 #[.pointer (some ⟨g, 0, none⟩)] w fun e w' => e = .returned (.tuple #[]) ∧ SF w' g A n cap p s p s ∧ Kp w0 w w' g := by
  have c1 := sc1 hh.h
  have c2 := sc2 hh.h
  have f3 := blk_frozen hh.h 3
  have f4 := blk_frozen hh.h 4
  have c3 := sc3 hh.h
  have c4 := sc4 hh.h
  have HB := Aside0.mk hB
  clear hB
  go_enter Tryf.func34, Tryf.ntmps34
  go_wp2
  go_end0
  exact ⟨rfl, (hh.s3 _).s4 _, ((Kp.refl HB.out g).set hg _ _).set hg _ _⟩

theorem restore_any (w0 w : World) (g : Nat) (A : Option Addr) (n cap : Nat) (p : Int) (s : Bool) (sp : Int) (ss : Bool)
    (hB : Below w0.heap.size w0 w) (hg : w0.heap.size ≤ g) (hh : SF w g A n cap p s sp ss) :
    Calls Tryf.prog 37 #[.pointer (some ⟨g, 0, none⟩)] w fun e w' => e = .returned (.tuple #[]) ∧ SF w' g A n cap sp ss sp ss ∧ Kp w0 w w' g := by
  have c1 := sc1 hh.h
  have c2 := sc2 hh.h
  have f1 := blk_frozen hh.h 1
  have f2 := blk_frozen hh.h 2
  have c3 := sc3 hh.h
  have c4 := sc4 hh.h
  have HB := Aside0.mk hB
  clear hB
  go_enter Tryf.func37, Tryf.ntmps37
  go_wp2
  go_end0
  exact ⟨rfl, (hh.s1 _).s2 _, ((Kp.refl HB.out g).set hg _ _).set hg _ _⟩

theorem length_any (w : World) (g : Nat) (A : Option Addr) (n cap : Nat) (p : Int) (s : Bool) (sp : Int) (ss : Bool) (hh : SF w g A n cap p s sp ss) :
    Calls Tryf.prog 40 #[.pointer (some ⟨g, 0, none⟩)] w fun e w' => e = .returned (.int .i64 n) ∧ w = w' := by
  have c0 := sc0 hh.h
  go_enter Tryf.func40, Tryf.ntmps40
  go_wp2
  go_ret
  exact ⟨rfl, rfl⟩

theorem newScanner_any (w : World) (A : Option Addr) (n cap : Nat) :
    Calls Tryf.prog 27 #[.slice A n cap] w fun e w' => e = .returned (.pointer (some ⟨w.heap.size, 0, none⟩)) ∧ w' = w.alloc (.cells (scells A n cap 0 false 0 false) 133) := by
  go_enter Tryf.func27, Tryf.ntmps27
  go_wp2
  go_ret
  exact ⟨rfl, rfl⟩

/-- The scanner in block g over n bytes at A, at place c; what it has saved is d. -/
def Sc (w : World) (g : Nat) (A : Option Addr) (n cap : Nat) (c : Nat) (d : Option Nat) : Prop :=
  ∃ p s sp ss, Rp n (some c) p s ∧ Rp n d sp ss ∧ SF w g A n cap p s sp ss

theorem Sc.le {w : World} {g : Nat} {A : Option Addr} {n cap c : Nat} {d : Option Nat} (h : Sc w g A n cap c d) : c ≤ n := by
  obtain ⟨_, _, _, _, h, _⟩ := h
  exact h.1
theorem Sc.lt {w : World} {g : Nat} {A : Option Addr} {n cap c : Nat} {d : Option Nat} (h : Sc w g A n cap c d) : g < w.heap.size := by
  obtain ⟨_, _, _, _, _, _, h⟩ := h
  exact blk_lt h.h
/-- The scanner stands where its block stands. -/
theorem Sc.move {w w' : World} {g : Nat} {A : Option Addr} {n cap c : Nat} {d : Option Nat} (h : Sc w g A n cap c d) (e : w'.heap[g]? = w.heap[g]?) : Sc w' g A n cap c d := by
  obtain ⟨p, s, sp, ss, h1, h2, h3⟩ := h
  exact ⟨p, s, sp, ss, h1, h2, ⟨e.trans h3.h⟩⟩
theorem Sc.typed {w : World} {g : Nat} {A : Option Addr} {n cap c : Nat} {d : Option Nat} (h : Sc w g A n cap c d) : ∃ cs, w.heap[g]? = some (.cells cs 133 (0, 0)) := by
  obtain ⟨p, s, sp, ss, h1, h2, h3⟩ := h
  exact ⟨_, h3.h⟩
theorem Sc.any {w : World} {g : Nat} {A : Option Addr} {n cap c : Nat} {d : Option Nat} (h : Sc w g A n cap c d) : Sc w g A n cap c none := by
  obtain ⟨p, s, sp, ss, h1, h2, h3⟩ := h
  exact ⟨p, s, sp, ss, h1, trivial, h3⟩

section
variable {w0 w : World} {g : Nat} {A : Option Addr} {cap : Nat} {src : List Int} {c : Nat} {d : Option Nat}
theorem next_sc (hs : Src w0 A src) (hB : Below w0.heap.size w0 w) (hg : w0.heap.size ≤ g) (h : Sc w g A src.length cap c d) :
    Calls Tryf.prog 33 #[.pointer (some ⟨g, 0, none⟩)] w fun e w' => e = .returned (.int .i64 (chr src c)) ∧ Sc w' g A src.length cap (min (c + 1) src.length) d ∧ Kp w0 w w' g := by
  obtain ⟨p, s, sp, ss, h1, h2, h3⟩ := h
  refine (next_any w0 w g A cap src c p s sp ss hs hB hg h1 h3).mono ?_
  rintro e w' ⟨rfl, ⟨p', s', k1, k2, _⟩, k3⟩
  exact ⟨rfl, ⟨p', s', sp, ss, k1, h2, k2⟩, k3⟩
theorem peek_sc (hs : Src w0 A src) (hB : Below w0.heap.size w0 w) (hg : w0.heap.size ≤ g) (h : Sc w g A src.length cap c d) :
    Calls Tryf.prog 32 #[.pointer (some ⟨g, 0, none⟩)] w fun e w' => e = .returned (.int .i64 (chr src c)) ∧ Sc w' g A src.length cap c d ∧ Kp w0 w w' g := by
  obtain ⟨p, s, sp, ss, h1, h2, h3⟩ := h
  refine (peek_any w0 w g A cap src c p s sp ss hs hB hg h1 h3).mono ?_
  rintro e w' ⟨rfl, ⟨p', s', k1, k2⟩, k3⟩
  exact ⟨rfl, ⟨p', s', sp, ss, k1, h2, k2⟩, k3⟩
theorem save_sc (hB : Below w0.heap.size w0 w) (hg : w0.heap.size ≤ g) (h : Sc w g A src.length cap c d) :
    Calls Tryf.prog 34 #[.pointer (some ⟨g, 0, none⟩)] w fun e w' => e = .returned (.tuple #[]) ∧ Sc w' g A src.length cap c (some c) ∧ Kp w0 w w' g := by
  obtain ⟨p, s, sp, ss, h1, h2, h3⟩ := h
  refine (save_any w0 w g A src.length cap p s sp ss hB hg h3).mono ?_
  rintro e w' ⟨rfl, k2, k3⟩
  exact ⟨rfl, ⟨p, s, p, s, h1, h1, k2⟩, k3⟩
theorem restore_sc {c' : Nat} (hB : Below w0.heap.size w0 w) (hg : w0.heap.size ≤ g) (h : Sc w g A src.length cap c (some c')) :
    Calls Tryf.prog 37 #[.pointer (some ⟨g, 0, none⟩)] w fun e w' => e = .returned (.tuple #[]) ∧ Sc w' g A src.length cap c' none ∧ Kp w0 w w' g := by
  obtain ⟨p, s, sp, ss, h1, h2, h3⟩ := h
  refine (restore_any w0 w g A src.length cap p s sp ss hB hg h3).mono ?_
  rintro e w' ⟨rfl, k2, k3⟩
  exact ⟨rfl, ⟨sp, ss, sp, ss, h2, trivial, k2⟩, k3⟩
theorem length_sc (h : Sc w g A src.length cap c d) :
    Calls Tryf.prog 40 #[.pointer (some ⟨g, 0, none⟩)] w fun e w' => e = .returned (.int .i64 src.length) ∧ w = w' := by
  obtain ⟨p, s, sp, ss, h1, h2, h3⟩ := h
  exact length_any w g A src.length cap p s sp ss h3
theorem nextpos_sc (hs : Src w0 A src) (h : Sc w g A src.length cap c d) (hc : c < src.length) :
    Calls Tryf.prog 39 #[.pointer (some ⟨g, 0, none⟩)] w fun e w' => e = .returned (.int .i64 (if src.length = 1 then -1 else (c : Int))) ∧ Drawn0 w w' := by
  obtain ⟨p, s, sp, ss, h1, h2, h3⟩ := h
  rcases h1.2 with ⟨rfl, rfl, rfl⟩ | ⟨h0, rfl, rfl⟩ | ⟨h0, _, _⟩
  · by_cases h1 : src.length = 1
    · rw [if_pos h1]
      exact nextpos_eof w g A src.length cap _ _ sp ss h3 hs.n (.inr (by omega))
    · rw [if_neg h1]
      exact nextpos_at w g A src.length cap _ _ sp ss h3 hs.n (by omega) (by omega)
  · rw [if_neg (by omega)]
    refine (nextpos_at w g A src.length cap _ _ sp ss h3 hs.n (by omega) (by omega)).mono ?_
    rintro e w' ⟨rfl, k⟩
    exact ⟨by simp, k⟩
  · omega
end

end Go.Proofs.YtpjfjfloeejgiaaFmt.Scan
/- The classes of a pattern in memory: how package pm lays them, as kinds of the printed words. -/
set_option linter.unusedVariables false
set_option linter.unusedSimpArgs false
namespace Go.Proofs.YtpjfjfloeejgiaaFmt.Cls
open Go.RowKit Go.Proofs.YtpjfjfloeejgiaaFmtW.PrintWords

/-- What stands within a set, or alone: a character, a class by its letter, a range. -/
inductive Atom where
  | chr (c : Int)
  | sing (c : Int)
  | rng (b e : Int)
/-- A class. -/
inductive Cls where
  | dot
  | atom (a : Atom)
  | set (neg : Bool) (al : List Atom)

/-- A block of one's own. -/
structure Blk (w : World) (base : Nat) (ok : Nat → Prop) (g : Nat) (cs : Array Value) (t : TypeId) : Prop where
  ok : ok g
  base : base ≤ g
  h : w.heap[g]? = some (.cells cs t (0, 0))

/-- What a footprint may be bounded by. -/
def Bd (w : World) (base : Nat) (ok : Nat → Prop) (E : List Nat) (k : Nat) : Prop := ok k ∧ base ≤ k ∧ k < w.heap.size ∧ ∃ q, q ∈ E ∧ ∃ cells, w.heap[k]? = some (.cells cells q (0, 0))

section
variable {w w1 : World} {base base' : Nat} {ok ok' : Nat → Prop} {g : Nat} {cs : Array Value} {t : TypeId}
theorem Blk.mono (h : Blk w base ok g cs t) (hok : ∀ k, ok k → ok' k) : Blk w base ok' g cs t := ⟨hok _ h.ok, h.base, h.h⟩
theorem Blk.bound (h : Blk w base ok g cs t) {E : List Nat} (ht : t ∈ E) : Blk w base (Bd w base ok E) g cs t := ⟨⟨h.ok, h.base, blk_lt h.h, t, ht, cs, h.h⟩, h.base, h.h⟩
theorem Blk.move (h : Blk w base ok g cs t) (hm : ∀ k, ok k → w1.heap[k]? = w.heap[k]?) : Blk w1 base ok g cs t := ⟨h.ok, h.base, (hm _ h.ok).trans h.h⟩
theorem Blk.lower (h : Blk w base ok g cs t) (hb : base' ≤ base) : Blk w base' ok g cs t := ⟨h.ok, Nat.le_trans hb h.base, h.h⟩
end

def ChrAt (w : World) (base : Nat) (ok : Nat → Prop) (v : Value) (c : Int) : Prop := ∃ g, v = .iface 127 (.pointer (some ⟨g, 0, none⟩)) ∧ Blk w base ok g #[.int .i64 c] 129
/-- An atom in memory. -/
def AtomAt (w : World) (base : Nat) (ok : Nat → Prop) (v : Value) : Atom → Prop
  | .chr c => ChrAt w base ok v c
  | .sing c => ∃ g, v = .iface 158 (.pointer (some ⟨g, 0, none⟩)) ∧ Blk w base ok g #[.int .i64 c] 160
  | .rng b e => ∃ g vb ve, v = .iface 171 (.pointer (some ⟨g, 0, none⟩)) ∧ Blk w base ok g #[vb, ve] 173 ∧ ChrAt w base ok vb b ∧ ChrAt w base ok ve e

section
variable {w w1 : World} {base base' : Nat} {ok ok' : Nat → Prop} {v : Value} {a : Atom} {c : Int}
theorem ChrAt.mono (h : ChrAt w base ok v c) (hok : ∀ k, ok k → ok' k) : ChrAt w base ok' v c := by obtain ⟨g, e, h⟩ := h; exact ⟨g, e, h.mono hok⟩
theorem ChrAt.bound {E : List Nat} (h : ChrAt w base ok v c) (ht : 129 ∈ E) : ChrAt w base (Bd w base ok E) v c := by obtain ⟨g, e, h⟩ := h; exact ⟨g, e, h.bound ht⟩
theorem ChrAt.move (h : ChrAt w base ok v c) (hm : ∀ k, ok k → w1.heap[k]? = w.heap[k]?) : ChrAt w1 base ok v c := by obtain ⟨g, e, h⟩ := h; exact ⟨g, e, h.move hm⟩
theorem ChrAt.lower (h : ChrAt w base ok v c) (hb : base' ≤ base) : ChrAt w base' ok v c := by obtain ⟨g, e, h⟩ := h; exact ⟨g, e, h.lower hb⟩
theorem ChrAt.one (h : ChrAt w base ok v c) : v.oneCell' = true := by obtain ⟨g, rfl, h⟩ := h; rfl
theorem AtomAt.mono (h : AtomAt w base ok v a) (hok : ∀ k, ok k → ok' k) : AtomAt w base ok' v a := by
  cases a with
  | chr c => exact ChrAt.mono h hok
  | sing c => obtain ⟨g, e, h⟩ := h; exact ⟨g, e, h.mono hok⟩
  | rng b e => obtain ⟨g, vb, ve, e, h, h1, h2⟩ := h; exact ⟨g, vb, ve, e, h.mono hok, h1.mono hok, h2.mono hok⟩
theorem AtomAt.bound {E : List Nat} (h : AtomAt w base ok v a) (hE : ∀ q, q ∈ [129, 160, 173] → q ∈ E) : AtomAt w base (Bd w base ok E) v a := by
  cases a with
  | chr c => exact ChrAt.bound h (hE _ (by simp))
  | sing c => obtain ⟨g, e, h⟩ := h; exact ⟨g, e, h.bound (hE _ (by simp))⟩
  | rng b e => obtain ⟨g, vb, ve, e, h, h1, h2⟩ := h; exact ⟨g, vb, ve, e, h.bound (hE _ (by simp)), h1.bound (hE _ (by simp)), h2.bound (hE _ (by simp))⟩
theorem AtomAt.move (h : AtomAt w base ok v a) (hm : ∀ k, ok k → w1.heap[k]? = w.heap[k]?) : AtomAt w1 base ok v a := by
  cases a with
  | chr c => exact ChrAt.move h hm
  | sing c => obtain ⟨g, e, h⟩ := h; exact ⟨g, e, h.move hm⟩
  | rng b e => obtain ⟨g, vb, ve, e, h, h1, h2⟩ := h; exact ⟨g, vb, ve, e, h.move hm, h1.move hm, h2.move hm⟩
theorem AtomAt.lower (h : AtomAt w base ok v a) (hb : base' ≤ base) : AtomAt w base' ok v a := by
  cases a with
  | chr c => exact ChrAt.lower h hb
  | sing c => obtain ⟨g, e, h⟩ := h; exact ⟨g, e, h.lower hb⟩
  | rng b e => obtain ⟨g, vb, ve, e, h, h1, h2⟩ := h; exact ⟨g, vb, ve, e, h.lower hb, h1.lower hb, h2.lower hb⟩
theorem AtomAt.one (h : AtomAt w base ok v a) : v.oneCell' = true := by
  cases a with
  | chr c => exact ChrAt.one h
  | sing c => obtain ⟨g, rfl, h⟩ := h; rfl
  | rng b e => obtain ⟨g, vb, ve, rfl, h, h1, h2⟩ := h; rfl
end

/-- A kind whose things are one cell each, told by a footprint. -/
def one {α : Type} (T : World → Nat → (Nat → Prop) → Value → α → Prop) (E : List Nat)
    (mono : ∀ {w base} {ok ok' : Nat → Prop} {v a}, T w base ok v a → (∀ k, ok k → ok' k) → T w base ok' v a)
    (bound : ∀ {w base} {ok : Nat → Prop} {v a}, T w base ok v a → T w base (Bd w base ok E) v a)
    (move : ∀ {w w1 : World} {base} {ok : Nat → Prop} {v a}, T w base ok v a → (∀ k, ok k → w1.heap[k]? = w.heap[k]?) → T w1 base ok v a)
    (lower : ∀ {w base base'} {ok : Nat → Prop} {v a}, T w base ok v a → base' ≤ base → T w base' ok v a)
    (onec : ∀ {w base} {ok : Nat → Prop} {v a}, T w base ok v a → v.oneCell' = true) : Kd α where
  sz := 1
  E := E
  K := fun w x cs => ∃ v, cs = [v] ∧ T w 0 (fun _ => True) v x
  M := fun w base ok x cs => ∃ v, cs = [v] ∧ T w base ok v x
  K_len := by rintro w x cs ⟨v, rfl, _⟩; rfl
  K_one := by rintro w x cs ⟨v, rfl, h⟩ u hu; rw [List.mem_singleton.1 hu]; exact onec h
  K_below := by
    rintro w w1 x cs hb ⟨v, rfl, h⟩
    exact ⟨v, rfl, mono (move (bound h) (fun k hk => hb.block k hk.2.2.1)) (fun _ _ => trivial)⟩
  K_of_M := by rintro w base ok x cs ⟨v, rfl, h⟩; exact ⟨v, rfl, lower (mono h (fun _ _ => trivial)) (Nat.zero_le _)⟩
  M_mono := by rintro w base ok ok' x cs hok ⟨v, rfl, h⟩; exact ⟨v, rfl, mono h hok⟩
  M_bound := by rintro w base ok x cs ⟨v, rfl, h⟩; exact ⟨v, rfl, bound h⟩
  M_move := by rintro w w1 base ok x cs hm ⟨v, rfl, h⟩; exact ⟨v, rfl, move h hm⟩
  M_lower := by rintro w base base' ok x cs hb ⟨v, rfl, h⟩; exact ⟨v, rfl, lower h hb⟩

def atomK : Kd Atom := one AtomAt [129, 160, 173] AtomAt.mono (fun h => h.bound (fun _ h => h)) AtomAt.move AtomAt.lower AtomAt.one

/-- A class in memory. -/
def ClsAt (w : World) (base : Nat) (ok : Nat → Prop) (v : Value) : Cls → Prop
  | .dot => ∃ g, v = .iface 161 (.pointer (some ⟨g, 0, none⟩))
  | .atom a => AtomAt w base ok v a
  | .set neg al => ∃ g v', v = .iface 167 (.pointer (some ⟨g, 0, none⟩)) ∧ Blk w base ok g #[.bool neg, v'] 170 ∧ atomK.R 112 w base ok v' al

section
variable {w w1 : World} {base base' : Nat} {ok ok' : Nat → Prop} {v : Value} {a : Cls} {c : Int}
theorem ClsAt.mono (h : ClsAt w base ok v a) (hok : ∀ k, ok k → ok' k) : ClsAt w base ok' v a := by
  cases a with
  | dot => exact h
  | atom a => exact AtomAt.mono h hok
  | set neg al => obtain ⟨g, v', e, h, h1⟩ := h; exact ⟨g, v', e, h.mono hok, Kd.R_mono h1 hok⟩
theorem ClsAt.bound {E : List Nat} (h : ClsAt w base ok v a) (hE : ∀ q, q ∈ [129, 160, 173, 170, 112] → q ∈ E) : ClsAt w base (Bd w base ok E) v a := by
  cases a with
  | dot => exact h
  | atom a => exact AtomAt.bound h (fun q hq => hE q (by simp only [List.mem_cons, List.not_mem_nil, or_false] at hq ⊢; rcases hq with rfl | rfl | rfl <;> simp))
  | set neg al =>
    obtain ⟨g, v', e, h, h1⟩ := h
    refine ⟨g, v', e, h.bound (hE _ (by simp)), Kd.R_mono (Kd.R_bound h1) ?_⟩
    rintro k ⟨k1, k2, k3, q, hq, hc⟩
    refine ⟨k1, k2, k3, q, hE q ?_, hc⟩
    have hq' : q ∈ [112, 129, 160, 173] := hq
    simp only [List.mem_cons, List.not_mem_nil, or_false] at hq' ⊢
    rcases hq' with rfl | rfl | rfl | rfl <;> simp
theorem ClsAt.move (h : ClsAt w base ok v a) (hm : ∀ k, ok k → w1.heap[k]? = w.heap[k]?) : ClsAt w1 base ok v a := by
  cases a with
  | dot => exact h
  | atom a => exact AtomAt.move h hm
  | set neg al => obtain ⟨g, v', e, h, h1⟩ := h; exact ⟨g, v', e, h.move hm, Kd.R_move h1 hm⟩
theorem ClsAt.lower (h : ClsAt w base ok v a) (hb : base' ≤ base) : ClsAt w base' ok v a := by
  cases a with
  | dot => exact h
  | atom a => exact AtomAt.lower h hb
  | set neg al => obtain ⟨g, v', e, h, h1⟩ := h; exact ⟨g, v', e, h.lower hb, Kd.R_lower h1 hb⟩
theorem ClsAt.one (h : ClsAt w base ok v a) : v.oneCell' = true := by
  cases a with
  | dot => obtain ⟨g, rfl⟩ := h; rfl
  | atom a => exact AtomAt.one h
  | set neg al => obtain ⟨g, v', rfl, h, h1⟩ := h; rfl
/-- Any mover: what is ok, and a block of w's, stays. -/
theorem ClsAt.step (h : ClsAt w base ok v a) (hm : ∀ k, ok k → k < w.heap.size → w1.heap[k]? = w.heap[k]?) : ClsAt w1 base ok v a :=
  ((h.bound (fun _ h => h)).move (fun k hk => hm k hk.1 hk.2.2.1)).mono (fun _ hk => hk.1)
theorem AtomAt.step {a : Atom} (h : AtomAt w base ok v a) (hm : ∀ k, ok k → k < w.heap.size → w1.heap[k]? = w.heap[k]?) : AtomAt w1 base ok v a :=
  ((h.bound (fun _ h => h)).move (fun k hk => hm k hk.1 hk.2.2.1)).mono (fun _ hk => hk.1)
end
def clsK : Kd Cls := one ClsAt [129, 160, 173, 170, 112] ClsAt.mono (fun h => h.bound (fun _ h => h)) ClsAt.move ClsAt.lower ClsAt.one

end Go.Proofs.YtpjfjfloeejgiaaFmt.Cls
/- parseClass and parseClassSet of package pm: what they make of a pattern's bytes. -/
set_option linter.unusedVariables false
set_option linter.unusedSimpArgs false
namespace Go.Proofs.YtpjfjfloeejgiaaFmt.Cls
open Go.RowKit Go.Proofs.YtpjfjfloeejgiaaFmtW.PrintWords Go.Proofs.YtpjfjfloeejgiaaFmt.Scan

theorem Kp.alloc {w0 w w' : World} {g : Nat} (h : Kp w0 w w' g) (o : Obj) : Kp w0 w (w'.alloc o) g := ⟨below_alloc h.b o, keep_alloc h.k o⟩
theorem Sc.alloc {w : World} {g : Nat} {A : Option Addr} {n cap c : Nat} {d : Option Nat} (h : Sc w g A n cap c d) (o : Obj) : Sc (w.alloc o) g A n cap c d := h.move (Below.heap_alloc _ _ _ h.lt)

/-- What is read of a class that is no set. -/
def patom (src : List Int) (c : Nat) : Option (Atom × Nat) :=
  if chr src c = 37 then (if c + 1 < src.length then some (.sing (chr src (c + 1)), c + 2) else none)
  else if c < src.length then some (.chr (chr src c), c + 1) else none

theorem chr_ne {src : List Int} {A : Option Addr} {w0 : World} (hs : Src w0 A src) {c : Nat} (hc : c < src.length) : 0 ≤ chr src c ∧ chr src c ≤ 255 := by
  rw [← chr_rd hc]; exact hs.chr hc

section
variable {w0 w : World} {g : Nat} {A : Option Addr} {cap : Nat} {src : List Int} {c : Nat} {d : Option Nat}

theorem parse_sing (hs : Src w0 A src) (hB : Below w0.heap.size w0 w) (hg : w0.heap.size ≤ g) (h : Sc w g A src.length cap c d) (hc : c + 1 < src.length) (b : Bool) (h37 : (chr src c == 37) = true) :
    Calls Tryf.prog 38 #[.pointer (some ⟨g, 0, none⟩), .bool b] w fun e w' => ∃ v, e = .returned v ∧ AtomAt w' w.heap.size (fun _ => True) v (.sing (chr src (c + 1))) ∧ Sc w' g A src.length cap (c + 2) d ∧ Kp w0 w w' g := by
  have HN := Aside0.mk (next_sc hs hB hg h)
  have HG := Aside0.mk hg
  have HS := Aside0.mk hs
  clear hB h hg
  go_enter Tryf.func38, Tryf.ntmps38
  go_wp2_with fail
  refine HN.out.mono ?_
  rintro e w1 ⟨rfl, h1, k1⟩
  have H1 := Aside0.mk h1
  have K1 := Aside0.mk k1
  clear h1 k1
  go_wp2_with fail
  have hm : min (c + 1) src.length = c + 1 := by omega
  have H1' := H1.out
  rw [hm] at H1'
  refine (next_sc HS.out K1.out.b HG.out H1').mono ?_
  clear hm H1'
  rintro e w2 ⟨rfl, h2, k2⟩
  have H2 := Aside0.mk h2
  have K2 := Aside0.mk k2
  clear h2 k2
  go_wp2
  go_ret
  have hm : min (c + 1 + 1) src.length = c + 2 := by omega
  have H2' := H2.out
  rw [hm] at H2'
  exact ⟨_, rfl, ⟨_, rfl, trivial, Nat.le_trans K1.out.k.1 K2.out.k.1, blk_new _ _⟩, Sc.alloc H2' _, (Kp.alloc (K1.out.trans K2.out) _)⟩

theorem parse_chr (hs : Src w0 A src) (hB : Below w0.heap.size w0 w) (hg : w0.heap.size ≤ g) (h : Sc w g A src.length cap c d) (hc : c < src.length) (b : Bool) (h37 : chr src c ≠ 37) (hb : b = true → chr src c ≠ 46 ∧ chr src c ≠ 91) :
    Calls Tryf.prog 38 #[.pointer (some ⟨g, 0, none⟩), .bool b] w fun e w' => ∃ v, e = .returned v ∧ AtomAt w' w.heap.size (fun _ => True) v (.chr (chr src c)) ∧ Sc w' g A src.length cap (c + 1) d ∧ Kp w0 w w' g := by
  have HN := Aside0.mk (next_sc hs hB hg h)
  have hr := chr_ne hs hc
  have t37 : (chr src c == 37) = false := beq_eq_false_iff_ne.mpr h37
  have tm : (chr src c == -1) = false := beq_eq_false_iff_ne.mpr (by omega)
  have hm : min (c + 1) src.length = c + 1 := by omega
  rw [hm] at HN
  have HB := Aside0.mk hb
  clear hs hB h hg hr h37 hm hb
  have fin : ∀ w1 : World, Sc w1 g A src.length cap (c + 1) d → Kp w0 w w1 g → ∃ v, Ending.returned (.iface 127 (.pointer (some ⟨w1.heap.size, 0, none⟩))) = Ending.returned v ∧ AtomAt (w1.alloc (.cells #[.int .i64 (chr src c)] 129)) w.heap.size (fun _ => True) v (.chr (chr src c)) ∧ Sc (w1.alloc (.cells #[.int .i64 (chr src c)] 129)) g A src.length cap (c + 1) d ∧ Kp w0 w (w1.alloc (.cells #[.int .i64 (chr src c)] 129)) g :=
    fun w1 h1 k1 => ⟨_, rfl, ⟨_, rfl, trivial, k1.k.1, blk_new _ _⟩, Sc.alloc h1 _, Kp.alloc k1 _⟩
  have FIN := Aside0.mk fin
  clear fin
  by_cases h46 : chr src c = 46
  · have hbf : b = false := by cases b; rfl; exact absurd h46 (HB.out rfl).1
    subst hbf
    have t46 : (chr src c == 46) = true := beq_iff_eq.mpr h46
    clear h46
    go_enter Tryf.func38, Tryf.ntmps38
    go_wp2_with (go_at_call 33; refine HN.out.mono ?_; rintro e w1 ⟨rfl, h1, k1⟩; have H1 := Aside0.mk h1; have K1 := Aside0.mk k1; clear h1 k1)
    go_ret
    exact FIN.out _ H1.out K1.out
  · have t46 : (chr src c == 46) = false := beq_eq_false_iff_ne.mpr h46
    clear h46
    by_cases h91 : chr src c = 91
    · have hbf : b = false := by cases b; rfl; exact absurd h91 (HB.out rfl).2
      subst hbf
      have t91 : (chr src c == 91) = true := beq_iff_eq.mpr h91
      clear h91
      go_enter Tryf.func38, Tryf.ntmps38
      go_wp2_with (go_at_call 33; refine HN.out.mono ?_; rintro e w1 ⟨rfl, h1, k1⟩; have H1 := Aside0.mk h1; have K1 := Aside0.mk k1; clear h1 k1)
      go_ret
      exact FIN.out _ H1.out K1.out
    · have t91 : (chr src c == 91) = false := beq_eq_false_iff_ne.mpr h91
      clear h91
      go_enter Tryf.func38, Tryf.ntmps38
      go_wp2_with (go_at_call 33; refine HN.out.mono ?_; rintro e w1 ⟨rfl, h1, k1⟩; have H1 := Aside0.mk h1; have K1 := Aside0.mk k1; clear h1 k1)
      go_ret
      exact FIN.out _ H1.out K1.out

theorem parse_dot (hs : Src w0 A src) (hB : Below w0.heap.size w0 w) (hg : w0.heap.size ≤ g) (h : Sc w g A src.length cap c d) (hc : c < src.length) (h46 : chr src c = 46) :
    Calls Tryf.prog 38 #[.pointer (some ⟨g, 0, none⟩), .bool true] w fun e w' => ∃ v, e = .returned v ∧ ClsAt w' w.heap.size (fun _ => True) v .dot ∧ Sc w' g A src.length cap (c + 1) d ∧ Kp w0 w w' g := by
  have HN := Aside0.mk (next_sc hs hB hg h)
  have hm : min (c + 1) src.length = c + 1 := by omega
  rw [hm, h46] at HN
  clear hs hB h hg hm h46
  go_enter Tryf.func38, Tryf.ntmps38
  go_wp2_with (go_at_call 33; refine HN.out.mono ?_; rintro e w1 ⟨rfl, h1, k1⟩; have H1 := Aside0.mk h1; have K1 := Aside0.mk k1; clear h1 k1)
  go_ret
  exact ⟨_, rfl, ⟨_, rfl⟩, Sc.alloc H1.out _, Kp.alloc K1.out _⟩

/-- A class of one character, a letter's class: as 'parseClass' reads it within a set. -/
theorem parse_atom {a : Atom} {c' : Nat} (hs : Src w0 A src) (hB : Below w0.heap.size w0 w) (hg : w0.heap.size ≤ g) (h : Sc w g A src.length cap c d) (hp : patom src c = some (a, c')) :
    Calls Tryf.prog 38 #[.pointer (some ⟨g, 0, none⟩), .bool false] w fun e w' => ∃ v, e = .returned v ∧ AtomAt w' w.heap.size (fun _ => True) v a ∧ Sc w' g A src.length cap c' d ∧ Kp w0 w w' g := by
  unfold patom at hp
  split at hp
  · rename_i h37
    split at hp
    · rename_i hc
      obtain ⟨rfl, rfl⟩ := by simpa using hp
      exact parse_sing hs hB hg h hc false (beq_iff_eq.mpr h37)
    · cases hp
  · rename_i h37
    split at hp
    · rename_i hc
      obtain ⟨rfl, rfl⟩ := by simpa using hp
      exact parse_chr hs hB hg h hc false h37 (fun h => by cases h)
    · cases hp
end
end Go.Proofs.YtpjfjfloeejgiaaFmt.Cls
/- parseClassSet of package pm: the set under way in memory, and what an append to it leaves. -/
set_option linter.unusedVariables false
set_option linter.unusedSimpArgs false
namespace Go.Proofs.YtpjfjfloeejgiaaFmt.Cls
open Go.RowKit Go.Proofs.YtpjfjfloeejgiaaFmtW.PrintWords Go.Proofs.YtpjfjfloeejgiaaFmt.Scan

theorem chr_lt {src : List Int} {c : Nat} (h : chr src c ≠ -1) : c < src.length := by
  rcases Nat.lt_or_ge c src.length with h1 | h1
  · exact h1
  · exact absurd (chr_end h1) h
theorem patom_ne {w0 : World} {A : Option Addr} {src : List Int} {c c' : Nat} {a : Atom} (hs : Src w0 A src) (h : patom src c = some (a, c')) : (chr src c == -1) = false := by
  have hc : c < src.length := by
    unfold patom at h
    split at h
    · split at h
      · omega
      · cases h
    · split at h
      · assumption
      · cases h
  have := chr_ne hs hc
  exact beq_eq_false_iff_ne.mpr (by omega)
/-- What is read of a set behind its bracket (and its ^): the atoms, and the place behind the closing bracket. -/
def pset (src : List Int) : Nat → Nat → List Atom → Bool → Option (List Atom × Nat)
  | 0, _, _, _ => none
  | k + 1, c, al, ir =>
    if chr src c = 93 then (if al = [] ∨ ir = true then none else some (al, c + 1))
    else if chr src c = 45 then (if al = [] ∨ ir = true then none else pset src k (c + 1) al true)
    else match patom src c with
      | none => none
      | some (a, c') =>
        if ir = true then
          match al.getLast?, a with
          | some (.chr b), .chr e => pset src k c' (al.dropLast ++ [.rng b e]) false
          | _, _ => none
        else pset src k c' (al ++ [a]) false

/-- The set under way: its block, its row, the scanner. -/
structure SetAt (w0 w wr : World) (g gs : Nat) (A : Option Addr) (n cap : Nat) (neg : Bool) (al : List Atom) (c : Nat) (d : Option Nat) (v : Value) : Prop where
  sc : Sc wr g A n cap c d
  kp : Kp w0 w wr g
  lt : w.heap.size ≤ gs
  hv : wr.heap[gs]? = some (.cells #[.bool neg, v] 170 (0, 0))
  row : atomK.R 112 wr w.heap.size (fun k => k ≠ gs) v al

/-- At the label behind the loop. -/
def AtExit (g gs : Nat) (R : World → Prop) (a : Act) (w : World) : Prop :=
  a = ⟨#[.pointer (some ⟨g, 0, none⟩), a.tmps.getD 1 undef, a.tmps.getD 2 undef, .pointer (some ⟨gs, 0, none⟩), .bool false, a.tmps.getD 5 undef, a.tmps.getD 6 undef, a.tmps.getD 7 undef, a.tmps.getD 8 undef, a.tmps.getD 9 undef, a.tmps.getD 10 undef, a.tmps.getD 11 undef, a.tmps.getD 12 undef, a.tmps.getD 13 undef, a.tmps.getD 14 undef, a.tmps.getD 15 undef, a.tmps.getD 16 undef, a.tmps.getD 17 undef, a.tmps.getD 18 undef, a.tmps.getD 19 undef, a.tmps.getD 20 undef, a.tmps.getD 21 undef, a.tmps.getD 22 undef, a.tmps.getD 23 undef, a.tmps.getD 24 undef, a.tmps.getD 25 undef, a.tmps.getD 26 undef, a.tmps.getD 27 undef, a.tmps.getD 28 undef, a.tmps.getD 29 undef, a.tmps.getD 30 undef, a.tmps.getD 31 undef, a.tmps.getD 32 undef, a.tmps.getD 33 undef, a.tmps.getD 34 undef, a.tmps.getD 35 undef, a.tmps.getD 36 undef, a.tmps.getD 37 undef, a.tmps.getD 38 undef, a.tmps.getD 39 undef, a.tmps.getD 40 undef, a.tmps.getD 41 undef, a.tmps.getD 42 undef, a.tmps.getD 43 undef, a.tmps.getD 44 undef, a.tmps.getD 45 undef, a.tmps.getD 46 undef, a.tmps.getD 47 undef, a.tmps.getD 48 undef, a.tmps.getD 49 undef, a.tmps.getD 50 undef, a.tmps.getD 51 undef, a.tmps.getD 52 undef, a.tmps.getD 53 undef, a.tmps.getD 54 undef, a.tmps.getD 55 undef, a.tmps.getD 56 undef, a.tmps.getD 57 undef, a.tmps.getD 58 undef, a.tmps.getD 59 undef, a.tmps.getD 60 undef, a.tmps.getD 61 undef, a.tmps.getD 62 undef, a.tmps.getD 63 undef, a.tmps.getD 64 undef, a.tmps.getD 65 undef, a.tmps.getD 66 undef, a.tmps.getD 67 undef, a.tmps.getD 68 undef, a.tmps.getD 69 undef, a.tmps.getD 70 undef, a.tmps.getD 71 undef, a.tmps.getD 72 undef, a.tmps.getD 73 undef, a.tmps.getD 74 undef, a.tmps.getD 75 undef, a.tmps.getD 76 undef, a.tmps.getD 77 undef, a.tmps.getD 78 undef, a.tmps.getD 79 undef, a.tmps.getD 80 undef, a.tmps.getD 81 undef, a.tmps.getD 82 undef, a.tmps.getD 83 undef, a.tmps.getD 84 undef, a.tmps.getD 85 undef, a.tmps.getD 86 undef, a.tmps.getD 87 undef, a.tmps.getD 88 undef, a.tmps.getD 89 undef, a.tmps.getD 90 undef, a.tmps.getD 91 undef, a.tmps.getD 92 undef, a.tmps.getD 93 undef, a.tmps.getD 94 undef, a.tmps.getD 95 undef, a.tmps.getD 96 undef, a.tmps.getD 97 undef, a.tmps.getD 98 undef, a.tmps.getD 99 undef, a.tmps.getD 100 undef, a.tmps.getD 101 undef, a.tmps.getD 102 undef, a.tmps.getD 103 undef, a.tmps.getD 104 undef, a.tmps.getD 105 undef, a.tmps.getD 106 undef, a.tmps.getD 107 undef, a.tmps.getD 108 undef, a.tmps.getD 109 undef, a.tmps.getD 110 undef, a.tmps.getD 111 undef, a.tmps.getD 112 undef, a.tmps.getD 113 undef, a.tmps.getD 114 undef, a.tmps.getD 115 undef, a.tmps.getD 116 undef, a.tmps.getD 117 undef, a.tmps.getD 118 undef, a.tmps.getD 119 undef, a.tmps.getD 120 undef, a.tmps.getD 121 undef, a.tmps.getD 122 undef, a.tmps.getD 123 undef, a.tmps.getD 124 undef, a.tmps.getD 125 undef, a.tmps.getD 126 undef], []⟩ ∧ R w
theorem AtExit.open_ {g gs : Nat} {R : World → Prop} {a : Act} {w : World} (h : AtExit g gs R a w) : (∃ u : Nat → Value, a = ⟨#[.pointer (some ⟨g, 0, none⟩), u 1, u 2, .pointer (some ⟨gs, 0, none⟩), .bool false, u 5, u 6, u 7, u 8, u 9, u 10, u 11, u 12, u 13, u 14, u 15, u 16, u 17, u 18, u 19, u 20, u 21, u 22, u 23, u 24, u 25, u 26, u 27, u 28, u 29, u 30, u 31, u 32, u 33, u 34, u 35, u 36, u 37, u 38, u 39, u 40, u 41, u 42, u 43, u 44, u 45, u 46, u 47, u 48, u 49, u 50, u 51, u 52, u 53, u 54, u 55, u 56, u 57, u 58, u 59, u 60, u 61, u 62, u 63, u 64, u 65, u 66, u 67, u 68, u 69, u 70, u 71, u 72, u 73, u 74, u 75, u 76, u 77, u 78, u 79, u 80, u 81, u 82, u 83, u 84, u 85, u 86, u 87, u 88, u 89, u 90, u 91, u 92, u 93, u 94, u 95, u 96, u 97, u 98, u 99, u 100, u 101, u 102, u 103, u 104, u 105, u 106, u 107, u 108, u 109, u 110, u 111, u 112, u 113, u 114, u 115, u 116, u 117, u 118, u 119, u 120, u 121, u 122, u 123, u 124, u 125, u 126], []⟩) ∧ R w :=
  ⟨⟨fun i => a.tmps.getD i undef, h.1⟩, h.2⟩

/-- The loop's relation. -/
def SetRel (w0 w : World) (g gs : Nat) (A : Option Addr) (src : List Int) (cap : Nat) (neg : Bool) (d : Option Nat) (res : List Atom × Nat) (k : Nat) (v4 : Value) (wr : World) : Prop :=
  ∃ c al ir v, v4 = .bool ir ∧ al.length ≤ c ∧ pset src k c al ir = some res ∧ SetAt w0 w wr g gs A src.length cap neg al c d v

theorem _root_.Go.Proofs.YtpjfjfloeejgiaaFmt.Scan.Kp.grown {w0 w W w1 : World} {g : Nat} (h : Kp w0 w W g) {row : Option Nat} (hg : W.grownBy w1 row) (hr : ∀ k, row = some k → w.heap.size ≤ k) (hw : w0.heap.size ≤ w.heap.size) : Kp w0 w w1 g :=
  ⟨h.b.grown hg h.b.size (fun k hk => Nat.le_trans hw (hr k hk)), ⟨Nat.le_trans h.k.1 hg.size, fun i hi hig _ => (hg.block i (Nat.lt_of_lt_of_le hi h.k.1) (fun e => by have := hr i e.symm; omega)).trans (h.k.2 i hi hig (by simp))⟩⟩
theorem _root_.Go.Proofs.YtpjfjfloeejgiaaFmt.Scan.Kp.own {w0 w W : World} {g : Nat} (h : Kp w0 w W g) {p : Addr} (hp : w.heap.size ≤ p.block) (hw : w0.heap.size ≤ w.heap.size) (u : Value) : Kp w0 w (W.setCell p u) g :=
  ⟨h.b.setCell (Nat.le_trans hw hp) u, ⟨by simpa [World.setCell] using h.k.1, fun i hi hig hr => (Below.heap_setCell W p u i (by omega)).trans (h.k.2 i hi hig hr)⟩⟩

section
variable {w0 w wr w2 : World} {g gs n cap c c2 : Nat} {A : Option Addr} {neg : Bool} {al : List Atom} {d d2 : Option Nat} {v : Value}
theorem SetAt.ne (h : SetAt w0 w wr g gs A n cap neg al c d v) : gs ≠ g := by
  obtain ⟨cs, hc⟩ := h.sc.typed
  exact blk_ne h.hv hc (by decide)
theorem AtomAt.iface {w : World} {base : Nat} {ok : Nat → Prop} {v : Value} {a : Atom} (h : AtomAt w base ok v a) : ∃ t x, v = .iface t x := by
  cases a with
  | chr c => obtain ⟨g, rfl, _⟩ := h; exact ⟨_, _, rfl⟩
  | sing c => obtain ⟨g, rfl, _⟩ := h; exact ⟨_, _, rfl⟩
  | rng b e => obtain ⟨g, vb, ve, rfl, _⟩ := h; exact ⟨_, _, rfl⟩
theorem SetAt.drew (h : SetAt w0 w wr g gs A n cap neg al c d v) : SetAt w0 w wr.drew g gs A n cap neg al c d v :=
  ⟨h.sc.move rfl, ⟨below_drew h.kp.b, keep_drew h.kp.k⟩, h.lt, h.hv, Kd.R_drew h.row⟩
theorem cell_keep {w0 w w1 : World} {g gs i : Nat} {cs : Array Value} {t : TypeId} {v : Value} (hv : w.heap[gs]? = some (.cells cs t (0, 0))) (k : Kp w0 w w1 g) (hne : gs ≠ g) (hc : cs[i]? = some v) : w1.cell? ⟨gs, i, none⟩ = some v :=
  (blk_cell (k.k.blk hv hne (by simp)) i).trans hc
theorem SetAt.keep (h : SetAt w0 w wr g gs A n cap neg al c d v) (k : Kp w0 wr w2 g) (hsc : Sc w2 g A n cap c2 d2) : SetAt w0 w w2 g gs A n cap neg al c2 d2 v := by
  have hne := h.ne
  obtain ⟨cs, hc⟩ := h.sc.typed
  refine ⟨hsc, h.kp.trans k, h.lt, k.k.blk h.hv hne (by simp), ?_⟩
  have h1 := Kd.R_types h.row hc (by decide)
  exact Kd.R_mono (Kd.R_keep h1 k.k (fun k hk => hk.2)) (fun k hk => hk.1)
/-- Behind an append and the store of the new row. -/
theorem SetAt.put (h : SetAt w0 w wr g gs A n cap neg al c d v) {w1 : World} {v1 : Value} {al1 : List Atom} (hR : atomK.R 112 w1 w.heap.size (fun k => k ≠ gs) v1 al1) (hg : wr.grownBy w1 v.ownBlock) (hw : w0.heap.size ≤ w.heap.size) :
    SetAt w0 w (w1.setCell ⟨gs, 1, none⟩ v1) g gs A n cap neg al1 c d v1 := by
  have hne := h.ne
  obtain ⟨cs, hc⟩ := h.sc.typed
  have hgs : some gs ≠ v.ownBlock := Kd.R_ne h.row h.hv (by decide)
  have hgg : some g ≠ v.ownBlock := Kd.R_ne h.row hc (by decide)
  have hv1 : w1.heap[gs]? = some (.cells #[.bool neg, v] 170 (0, 0)) := (hg.block gs (blk_lt h.hv) hgs).trans h.hv
  have hk1 : Kp w0 w w1 g := h.kp.grown hg (fun k hk => Kd.R_base h.row k hk) hw
  refine ⟨h.sc.move ?_, hk1.own h.lt hw _, h.lt, blk_set hv1 1 v1, Kd.R_far hR (fun k hk => hk) _⟩
  rw [Below.heap_setCell _ _ _ _ (Ne.symm hne), hg.block g h.sc.lt hgg]
end

/-- The set behind an append. -/
def SetRelC (w0 w wc : World) (g gs : Nat) (A : Option Addr) (n cap : Nat) (neg : Bool) (al : List Atom) (c : Nat) (d : Option Nat) : Prop := ∃ v, SetAt w0 w wc g gs A n cap neg al c d v
theorem patom_le {src : List Int} {c c' : Nat} {a : Atom} (h : patom src c = some (a, c')) : c + 1 ≤ c' := by
  unfold patom at h
  split at h <;> split at h <;> simp_all <;> omega
theorem rng_open {src : List Int} {k c : Nat} {al : List Atom} {a : Atom} {res : List Atom × Nat}
    (h : (if true = true then match al.getLast?, a with | some (.chr b), .chr e => pset src k c (al.dropLast ++ [.rng b e]) false | _, _ => none else pset src k c (al ++ [a]) false) = some res) :
    ∃ al0 b e, al = al0 ++ [.chr b] ∧ a = .chr e ∧ pset src k c (al0 ++ [.rng b e]) false = some res := by
  rw [if_pos rfl] at h
  split at h
  · rename_i b e hl
    obtain ⟨al0, rfl⟩ := List.getLast?_eq_some_iff.1 hl
    exact ⟨al0, b, e, rfl, rfl, by simpa using h⟩
  · cases h
theorem info112 : (Tryf.prog.info? 112).map (fun i => (i.zero, i.size, i.bytes)) = some (some .nilIface, 1, 16) := by kernel_rfl

section
variable {w0 w wr : World} {g gs n cap c b : Nat} {A : Option Addr} {neg : Bool} {al : List Atom} {d : Option Nat} {v u : Value} {x : Atom}
variable {ops : Array Oper} {o : Oper} {a : Act} {Q : Exit → Act → World → Prop} {K : Act → World → Prop} {rest : List Oper}
theorem SetAt.after (h : SetAt w0 w wr g gs A n cap neg al c d v) (hw : w0.heap.size ≤ w.heap.size) {v1 : Value} {w1 : World} {al1 : List Atom} (hR : atomK.R 112 w1 w.heap.size (fun k => k ≠ gs) v1 al1) (hg : wr.grownBy w1 v.ownBlock) :
    ∃ A1 n1 c1, v1 = .slice A1 n1 c1 ∧ SetAt w0 w (w1.setCell ⟨gs, 1, none⟩ (.slice A1 n1 c1)) g gs A n cap neg al1 c d (.slice A1 n1 c1) ∧ w1.cell? ⟨gs, 1, none⟩ = some v ∧ w1.frozen? ⟨gs, 1, none⟩ = false := by
  obtain ⟨A1, c1, rfl⟩ := Kd.R_slice hR
  have hgs : some gs ≠ v.ownBlock := Kd.R_ne h.row h.hv (by decide)
  have hv1 : w1.heap[gs]? = some (.cells #[.bool neg, v] 170 (0, 0)) := (hg.block gs (blk_lt h.hv) hgs).trans h.hv
  exact ⟨_, _, _, rfl, h.put hR hg hw, blk_cell hv1 1, blk_frozen hv1 1⟩
theorem SetAt.last2 {x y : Int} (h : SetAt w0 w wr g gs A n cap neg (al ++ [.chr x] ++ [.chr y]) c d v) :
    ∃ r gb ge cap', v = .slice (some ⟨r, 0, none⟩) (al.length + 2) cap' ∧ wr.cell? ⟨r, al.length, none⟩ = some (.iface 127 (.pointer (some ⟨gb, 0, none⟩))) ∧ wr.cell? ⟨r, al.length + 1, none⟩ = some (.iface 127 (.pointer (some ⟨ge, 0, none⟩))) ∧
      Blk wr w.heap.size (fun k => k ≠ gs ∧ k ≠ r) gb #[.int .i64 x] 129 ∧ Blk wr w.heap.size (fun k => k ≠ gs ∧ k ≠ r) ge #[.int .i64 y] 129 := by
  obtain ⟨r, cap', hv, _⟩ := Kd.R_form h.row (by simp)
  have hR := h.row
  have hlen : (al ++ [Atom.chr x] ++ [Atom.chr y]).length = al.length + 2 := by simp
  rw [hv, hlen] at hR
  obtain ⟨c1, _, ⟨v1, rfl, k1⟩, hc1, _⟩ := Kd.R_elem hR (Atom.chr x) (al.length : Nat) (by omega) (by omega)
  obtain ⟨c2, _, ⟨v2, rfl, k2⟩, hc2, _⟩ := Kd.R_elem hR (Atom.chr x) ((al.length + 1 : Nat) : Int) (by omega) (by omega)
  have e1 : (al ++ [Atom.chr x] ++ [Atom.chr y]).getD ((al.length : Nat) : Int).toNat (Atom.chr x) = Atom.chr x := by simp [List.getD_eq_getElem?_getD]
  have e2 : (al ++ [Atom.chr x] ++ [Atom.chr y]).getD ((al.length + 1 : Nat) : Int).toNat (Atom.chr x) = Atom.chr y := by simp [List.getD_eq_getElem?_getD]
  rw [e1] at k1
  rw [e2] at k2
  obtain ⟨g1, rfl, b1⟩ := k1
  obtain ⟨g2, rfl, b2⟩ := k2
  have s : atomK.sz = 1 := rfl
  have h1 := hc1 0 _ rfl
  have h2 := hc2 0 _ rfl
  rw [s] at h1 h2
  simp only [Int.toNat_natCast, Nat.mul_one, Nat.add_zero] at h1 h2
  exact ⟨r, g1, g2, cap', by rw [hv, hlen], h1, h2, b1, b2⟩
theorem SetAt.cut {al2 : List Atom} {B : Option Addr} {m c5 : Nat} (h : SetAt w0 w wr g gs A n cap neg (al ++ al2) c d (.slice B m c5)) (hw : w0.heap.size ≤ w.heap.size) :
    SetAt w0 w (wr.setCell ⟨gs, 1, none⟩ (.slice B al.length c5)) g gs A n cap neg al c d (.slice B al.length c5) := by
  have hne := h.ne
  have hR := Kd.R_take (m := al.length) h.row (by simp)
  rw [List.take_left] at hR
  refine ⟨h.sc.move (Below.heap_setCell _ _ _ _ (Ne.symm hne)), h.kp.own h.lt hw _, h.lt, blk_set h.hv 1 _, Kd.R_far hR (fun k hk => hk) _⟩
theorem SetAt.drewN (h : SetAt w0 w wr g gs A n cap neg al c d v) (m : Nat) : SetAt w0 w (wr.drewN m) g gs A n cap neg al c d v :=
  ⟨h.sc.move rfl, ⟨pw_below_drewN h.kp.b m, keep_drewN h.kp.k m⟩, h.lt, h.hv, Kd.R_drewN h.row m⟩
theorem SetAt.alloc (h : SetAt w0 w wr g gs A n cap neg al c d v) (ob : Obj) : SetAt w0 w (wr.alloc ob) g gs A n cap neg al c d v :=
  ⟨Sc.alloc h.sc _, Kp.alloc h.kp _, h.lt, blk_alloc h.hv _, Kd.R_alloc h.row _⟩
theorem _root_.Go.Proofs.YtpjfjfloeejgiaaFmt.Cls.Blk.step {w w1 : World} {base : Nat} {ok : Nat → Prop} {g : Nat} {cs : Array Value} {t : TypeId} (h : Blk w base ok g cs t) (hm : ∀ k, ok k → k < w.heap.size → w1.heap[k]? = w.heap[k]?) : Blk w1 base ok g cs t :=
  ⟨h.ok, h.base, (hm _ h.ok (blk_lt h.h)).trans h.h⟩
/-- A range out of two characters of old, appended. -/
theorem SetAt.rng_atom {r gb ge : Nat} {x y : Int} (hb : Blk wr w.heap.size (fun k => k ≠ gs ∧ k ≠ r) gb #[.int .i64 x] 129) (he : Blk wr w.heap.size (fun k => k ≠ gs ∧ k ≠ r) ge #[.int .i64 y] 129) (hgs : gs < wr.heap.size) (hr : r < wr.heap.size) (hb0 : w.heap.size ≤ wr.heap.size) :
    AtomAt (wr.alloc (.cells #[.iface 127 (.pointer (some ⟨gb, 0, none⟩)), .iface 127 (.pointer (some ⟨ge, 0, none⟩))] 173)) w.heap.size (fun k => k ≠ gs ∧ k ≠ r) (.iface 171 (.pointer (some ⟨wr.heap.size, 0, none⟩))) (.rng x y) :=
  ⟨_, _, _, rfl, ⟨⟨by omega, by omega⟩, hb0, blk_new _ _⟩, ⟨gb, rfl, hb.step (fun k _ hk => Below.heap_alloc _ _ _ hk)⟩, ⟨ge, rfl, he.step (fun k _ hk => Below.heap_alloc _ _ _ hk)⟩⟩
/-- The set behind a range's cut. -/
structure SetCut (w0 w wr : World) (g gs : Nat) (A : Option Addr) (n cap : Nat) (neg : Bool) (al : List Atom) (c : Nat) (d : Option Nat) (r m c5 gb ge : Nat) (x y : Int) : Prop where
  s : SetAt w0 w wr g gs A n cap neg al c d (.slice (some ⟨r, 0, none⟩) m c5)
  b : Blk wr w.heap.size (fun k => k ≠ gs ∧ k ≠ r) gb #[.int .i64 x] 129
  e : Blk wr w.heap.size (fun k => k ≠ gs ∧ k ≠ r) ge #[.int .i64 y] 129
theorem SetCut.mk' {r m c5 gb ge : Nat} {x y : Int} {al2 : List Atom} (h : SetAt w0 w wr g gs A n cap neg (al ++ al2) c d (.slice (some ⟨r, 0, none⟩) m c5)) (hw : w0.heap.size ≤ w.heap.size)
    (hb : Blk wr w.heap.size (fun k => k ≠ gs ∧ k ≠ r) gb #[.int .i64 x] 129) (he : Blk wr w.heap.size (fun k => k ≠ gs ∧ k ≠ r) ge #[.int .i64 y] 129) :
    SetCut w0 w (wr.setCell ⟨gs, 1, none⟩ (.slice (some ⟨r, 0, none⟩) al.length c5)) g gs A n cap neg al c d r al.length c5 gb ge x y :=
  ⟨h.cut hw, hb.step (fun k hk _ => Below.heap_setCell _ _ _ _ hk.1), he.step (fun k hk _ => Below.heap_setCell _ _ _ _ hk.1)⟩
theorem SetCut.drewN {r m c5 gb ge : Nat} {x y : Int} (h : SetCut w0 w wr g gs A n cap neg al c d r m c5 gb ge x y) (k : Nat) : SetCut w0 w (wr.drewN k) g gs A n cap neg al c d r m c5 gb ge x y :=
  ⟨h.s.drewN k, h.b.step (fun _ _ _ => rfl), h.e.step (fun _ _ _ => rfl)⟩
theorem SetAt.append_step (hw : Region.wanted o (yielded ops a.tmps) = true) (s y : Operand) (ho : o.op = .call { callee := .builtin .append, args := #[s, y], argTypes := #[168, 168] })
    (hs : a.eval s = v) (hy : a.eval y = .slice (some ⟨wr.heap.size, 0, none⟩) 1 1) (h : SetAt w0 w wr g gs A n cap neg al c d v) (hw0 : w0.heap.size ≤ w.heap.size)
    (hwb : w.heap.size ≤ b) (hgs : gs < b) (hvb : ∀ k, v.ownBlock = some k → k < b) (hu : AtomAt wr b (fun _ => True) u x) (hl : al.length ≤ 1000)
    (hK : ∀ A1 n1 c1 w1, SetAt w0 w (w1.setCell ⟨gs, 1, none⟩ (.slice A1 n1 c1)) g gs A n cap neg (al ++ [x]) c d (.slice A1 n1 c1) → w1.cell? ⟨gs, 1, none⟩ = some v → w1.frozen? ⟨gs, 1, none⟩ = false → K (a.put o.dst (.slice A1 n1 c1)) w1) :
    if Region.wanted o (yielded ops a.tmps) = true then Oper.wp Tryf.prog o a (wr.alloc (.cells #[u] 112)) K Q else K (a.put o.dst undef) (wr.alloc (.cells #[u] 112)) := by
  have hlt := blk_lt h.hv
  refine Kd.R_append_step (P := Tryf.prog) atomK (w0 := wr) w.heap.size hw s y 168 112 .nilIface 16 ho Tryf.underlying168 info112 rfl (by decide) (by decide) v al x [u] (fun k => k ≠ gs) (fun k => b ≤ k) hs hy
    ⟨u, rfl, ((hu.bound (fun _ h => h)).lower hwb).mono (fun k hk => hk.2.1)⟩ (fun k hk => ⟨by omega, fun e => by have := hvb k e.symm; omega⟩) (fun k hk => by omega) h.row (Below.refl _ _) h.kp.k.1 (by omega) ?_
  intro v1 w1 hR _ hg _
  obtain ⟨A1, n1, c1, rfl, k1, k2, k3⟩ := h.after hw0 hR hg
  exact hK _ _ _ _ k1 k2 k3
theorem SetAt.append_list (hgd : o.guard = none) (s y : Operand) (ho : o.op = .call { callee := .builtin .append, args := #[s, y], argTypes := #[168, 168] })
    (hs : a.eval s = v) (hy : a.eval y = .slice (some ⟨wr.heap.size, 0, none⟩) 1 1) (h : SetAt w0 w wr g gs A n cap neg al c d v) (hw0 : w0.heap.size ≤ w.heap.size)
    (okp : Nat → Prop) (hokp : ∀ k, okp k → k ≠ gs ∧ some k ≠ v.ownBlock) (hu : AtomAt wr w.heap.size okp u x) (hl : al.length ≤ 1000)
    (hK : ∀ A1 n1 c1 w1, SetAt w0 w (w1.setCell ⟨gs, 1, none⟩ (.slice A1 n1 c1)) g gs A n cap neg (al ++ [x]) c d (.slice A1 n1 c1) → w1.cell? ⟨gs, 1, none⟩ = some v → w1.frozen? ⟨gs, 1, none⟩ = false → wpList Tryf.prog ops Q rest (a.put o.dst (.slice A1 n1 c1)) w1) :
    wpList Tryf.prog ops Q (o :: rest) a (wr.alloc (.cells #[u] 112)) := by
  have hlt := blk_lt h.hv
  refine Kd.R_append (P := Tryf.prog) atomK (w0 := wr) w.heap.size hgd s y 168 112 .nilIface 16 ho Tryf.underlying168 info112 rfl (by decide) (by decide) v al x [u] (fun k => k ≠ gs) okp hs hy
    ⟨u, rfl, hu⟩ hokp (fun k hk => by omega) h.row (Below.refl _ _) h.kp.k.1 (by omega) ?_
  intro v1 w1 hR _ hg _
  obtain ⟨A1, n1, c1, rfl, k1, k2, k3⟩ := h.after hw0 hR hg
  exact hK _ _ _ _ k1 k2 k3
theorem SetAt.new (hB : Below w0.heap.size w0 w) (hsc : Sc w g A n cap c d) :
    SetAt w0 w ((w.alloc (.cells #[] 112)).alloc (.cells #[.bool false, .slice (some ⟨w.heap.size, 0, none⟩) 0 0] 170)) g (w.heap.size + 1) A n cap false [] c d (.slice (some ⟨w.heap.size, 0, none⟩) 0 0) := by
  have hsz : (w.alloc (.cells #[] 112)).heap.size = w.heap.size + 1 := by simp
  refine ⟨Sc.alloc (Sc.alloc hsc _) _, Kp.alloc (Kp.alloc (Kp.refl hB g) _) _, by omega, by rw [← hsz]; exact blk_new _ _, Kd.R_alloc ⟨?_, ?_⟩ _⟩
  · intro k hk
    have : w.heap.size = k := by simpa [Value.ownBlock] using hk
    omega
  · exact OwnRow.lit (ps := []) (inner := []) w w.heap.size (Reps.none _ _) (Nat.le_refl _) (by simp)
theorem SetAt.turn (h : SetAt w0 w wr g gs A n cap neg al c d v) (hw : w0.heap.size ≤ w.heap.size) (b : Bool) : SetAt w0 w (wr.setCell ⟨gs, 0, none⟩ (.bool b)) g gs A n cap b al c d v := by
  have hne := h.ne
  exact ⟨h.sc.move (Below.heap_setCell _ _ _ _ (Ne.symm hne)), h.kp.own h.lt hw _, h.lt, blk_set h.hv 0 _, Kd.R_far h.row (fun k hk => hk) _⟩
/-- The set whole. -/
theorem SetAt.cls (h : SetAt w0 w wr g gs A n cap neg al c d v) : ClsAt wr w.heap.size (fun _ => True) (.iface 167 (.pointer (some ⟨gs, 0, none⟩))) (.set neg al) :=
  ⟨gs, v, rfl, ⟨trivial, h.lt, h.hv⟩, Kd.R_mono h.row (fun _ _ => trivial)⟩
theorem SetCut.append_rng {r m c5 gb ge : Nat} {e1 e2 : Int} (h : SetCut w0 w wr g gs A n cap neg al c d r m c5 gb ge e1 e2) (hw0 : w0.heap.size ≤ w.heap.size) (hl : al.length ≤ 1000) (hgd : o.guard = none) (s y : Operand) (ho : o.op = .call { callee := .builtin .append, args := #[s, y], argTypes := #[168, 168] })
    (hs : a.eval s = .slice (some ⟨r, 0, none⟩) m c5) (hy : a.eval y = .slice (some ⟨wr.heap.size + 1, 0, none⟩) 1 1)
    (hK : ∀ A1 n1 c1 w1, SetAt w0 w (w1.setCell ⟨gs, 1, none⟩ (.slice A1 n1 c1)) g gs A n cap neg (al ++ [.rng e1 e2]) c d (.slice A1 n1 c1) → w1.cell? ⟨gs, 1, none⟩ = some (.slice (some ⟨r, 0, none⟩) m c5) → w1.frozen? ⟨gs, 1, none⟩ = false → wpList Tryf.prog ops Q rest (a.put o.dst (.slice A1 n1 c1)) w1) :
    wpList Tryf.prog ops Q (o :: rest) a ((wr.alloc (.cells #[.iface 127 (.pointer (some ⟨gb, 0, none⟩)), .iface 127 (.pointer (some ⟨ge, 0, none⟩))] 173)).alloc (.cells #[.iface 171 (.pointer (some ⟨wr.heap.size, 0, none⟩))] 112)) := by
  have hsz : (wr.alloc (.cells #[.iface 127 (.pointer (some ⟨gb, 0, none⟩)), .iface 127 (.pointer (some ⟨ge, 0, none⟩))] 173)).heap.size = wr.heap.size + 1 := by simp
  have hr := Kd.R_lt h.s.row r rfl
  exact SetAt.append_list hgd s y ho hs (by rw [hsz]; exact hy) (h.s.alloc _) hw0 (fun k => k ≠ gs ∧ k ≠ r) (fun k hk => ⟨hk.1, fun e => hk.2 (by simpa [Value.ownBlock] using e)⟩) (SetAt.rng_atom h.b h.e (blk_lt h.s.hv) hr h.s.kp.k.1) hl hK
end

end Go.Proofs.YtpjfjfloeejgiaaFmt.Cls
/- parseClassSet and parseClass of package pm: what they make of a set's bytes. -/
set_option linter.unusedVariables false
set_option linter.unusedSimpArgs false
namespace Go.Proofs.YtpjfjfloeejgiaaFmt.Cls
open Go.RowKit Go.Proofs.YtpjfjfloeejgiaaFmtW.PrintWords Go.Proofs.YtpjfjfloeejgiaaFmt.Scan

section
variable {w0 w : World} {g : Nat} {A : Option Addr} {cap : Nat} {src : List Int} {c : Nat} {d : Option Nat}
set_option maxHeartbeats 4000000 in
set_option maxRecDepth 100000 in
theorem set_pos (hs : Src w0 A src) (hB : Below w0.heap.size w0 w) (hg : w0.heap.size ≤ g) (h : Sc w g A src.length cap c d) (hne : (chr src c == 94) = false) (k : Nat) (al : List Atom) (c' : Nat) (hp : pset src k c [] false = some (al, c')) :
    Calls Tryf.prog 54 #[.pointer (some ⟨g, 0, none⟩)] w fun e w' => ∃ v, e = .returned v ∧ ClsAt w' w.heap.size (fun _ => True) v (.set false al) ∧ Sc w' g A src.length cap c' d ∧ Kp w0 w w' g := by
  have HS := Aside0.mk hs
  have HG := Aside0.mk hg
  have HB := Aside0.mk hB
  have H0 := Aside0.mk h
  clear hs hB hg h
  go_enter Tryf.func54, Tryf.ntmps54
  go_wp2_with fail
  refine wp_scope_jumps 0 (AtExit g (w.heap.size + 1) (fun wf => ∃ v, SetAt w0 w wf g (w.heap.size + 1) A src.length cap false al c' d v)) (fun _ _ => 0) rfl ?_ ?_
  · go_wp2_with fail
    have HN := Aside0.mk (SetAt.new HB.out H0.out)
    refine (peek_sc HS.out HN.out.kp.b HG.out HN.out.sc).mono ?_
    rintro e w1 ⟨rfl, h1, k1⟩
    have H1 := Aside0.mk (HN.out.keep k1 h1)
    clear h1 k1 HN
    have hw0 : w0.heap.size ≤ w.heap.size := HB.out.size
    have H2 := H1
    go_wp2_with fail
    go_loopg [4] k (fun n v4 wr => SetRel w0 w g (w.heap.size + 1) A src cap false d (al, c') n v4 wr)
    case atStart => exact ⟨_, _, _, _, rfl, by simp, hp, H2.out⟩
    case round =>
      obtain ⟨c1, al1, ir, v1, rfl, hal, hp1, hS⟩ := hrel
      have hc1n := hS.sc.le
      have hln := HS.out.n
      have HP1 := Aside0.mk hp1
      have HS1 := Aside0.mk hS
      clear hp1 hS
      go_wp2_with fail
      refine (peek_sc HS.out HS1.out.kp.b HG.out HS1.out.sc).mono ?_
      rintro e w2 ⟨rfl, h2, k2⟩
      have HS2 := Aside0.mk (HS1.out.keep k2 h2)
      clear h2 k2 HS1
      obtain ⟨m, rfl⟩ : ∃ m, gk = m + 1 := by
        cases gk with
        | zero => exact absurd HP1.out (by simp [pset])
        | succ m => exact ⟨m, rfl⟩
      have hp1 := HP1.out
      clear HP1
      unfold pset at hp1
      have hv := HS2.out.hv
      obtain ⟨va, vc, rfl⟩ := Kd.R_slice HS2.out.row
      have e1 : w2.cell? ⟨w.heap.size + 1, 1, none⟩ = some (.slice va al1.length vc) := blk_cell hv 1
      have e0 : w2.cell? ⟨w.heap.size + 1, 0, none⟩ = some (.bool false) := blk_cell hv 0
      have f1 := blk_frozen hv 1
      have HV := Aside0.mk hv
      clear hv
      have hch := chr_ne HS.out (c := c1)
      by_cases h93 : chr src c1 = 93
      · rw [if_pos h93] at hp1
        split at hp1
        · cases hp1
        · rename_i hcond
          simp only [not_or] at hcond
          obtain ⟨hne1, hir⟩ := hcond
          have hlen : 0 < al1.length := List.length_pos_iff.mpr hne1
          have t93 : (chr src c1 == 93) = true := beq_iff_eq.mpr h93
          have tm : (chr src c1 == -1) = false := beq_eq_false_iff_ne.mpr (by omega)
          obtain rfl : ir = false := by simpa using hir
          simp only [Option.some.injEq, Prod.mk.injEq] at hp1
          obtain ⟨rfl, rfl⟩ := hp1
          have hc1 := chr_lt (src := src) (c := c1) (by omega)
          clear hir hne1 h93
          go_wp2_with fail
          refine (next_sc HS.out HS2.out.kp.b HG.out HS2.out.sc).mono ?_
          rintro e w3 ⟨rfl, h3, k3⟩
          have hm : min (c1 + 1) src.length = c1 + 1 := by omega
          rw [hm] at h3
          have HS3 := Aside0.mk (HS2.out.keep k3 h3)
          clear h3 k3 HS2 hm
          go_wp2
          go_step3
          exact ⟨rfl, rfl, _, HS3.out⟩
      · rw [if_neg h93] at hp1
        have t93 : (chr src c1 == 93) = false := beq_eq_false_iff_ne.mpr h93
        by_cases h45 : chr src c1 = 45
        · rw [if_pos h45] at hp1
          split at hp1
          · cases hp1
          · rename_i hcond
            simp only [not_or] at hcond
            obtain ⟨hne1, hir⟩ := hcond
            have hlen : 0 < al1.length := List.length_pos_iff.mpr hne1
            have t45 : (chr src c1 == 45) = true := beq_iff_eq.mpr h45
            have tm : (chr src c1 == -1) = false := beq_eq_false_iff_ne.mpr (by omega)
            obtain rfl : ir = false := by simpa using hir
            have HP := Aside0.mk hp1
            have hc1 := chr_lt (src := src) (c := c1) (by omega)
            clear hp1 hir hne1 h93 h45
            go_wp2_with fail
            refine (next_sc HS.out HS2.out.kp.b HG.out HS2.out.sc).mono ?_
            rintro e w3 ⟨rfl, h3, k3⟩
            have hm : min (c1 + 1) src.length = c1 + 1 := by omega
            rw [hm] at h3
            have HS3 := Aside0.mk (HS2.out.keep k3 h3)
            clear h3 k3 HS2 hm
            go_wp2
            go_roundg m
            case measure => omega
            case rel => exact ⟨_, _, _, _, rfl, by omega, HP.out, HS3.out⟩
        · rw [if_neg h45] at hp1
          have t45 : (chr src c1 == 45) = false := beq_eq_false_iff_ne.mpr h45
          cases hpa : patom src c1 with
          | none => rw [hpa] at hp1; cases hp1
          | some r =>
            obtain ⟨a, c2⟩ := r
            rw [hpa] at hp1
            have HPA := Aside0.mk hpa
            have HP := Aside0.mk hp1
            have tm : (chr src c1 == -1) = false := patom_ne HS.out hpa
            clear hp1 hpa h93 h45 hch
            go_wp2_with fail
            go_cut [] (fun wc => SetRelC w0 w wc g (w.heap.size + 1) A src.length cap false (al1 ++ [a]) c2 d)
            case first =>
              go_region_law (first | (refine SetAt.append_step rfl (.tmp 52) (.tmp 55) rfl rfl rfl HS3.out hw0 HS2.out.kp.k.1 (blk_lt HS2.out.hv) (Kd.R_lt HS2.out.row) H3.out (by omega) ?_; intro A4 n4 c4 w4 hS4 hc4 hf4; have HS4 := Aside0.mk hS4; clear hS4) | (go_simp; go_at_call 38; refine (parse_atom HS.out HS2.out.drew.kp.b HG.out HS2.out.drew.sc HPA.out).mono ?_; rintro e w3 ⟨v3, rfl, h3, s3, k3⟩; obtain ⟨ty, x3, rfl⟩ := AtomAt.iface h3; have H3 := Aside0.mk h3; have HS3 := Aside0.mk (HS2.out.drew.keep k3 s3); have hk3 := (cell_keep (w := w2.drew) (i := 1) HV.out k3 HS2.out.ne rfl); have hk3a := fun (ob : Obj) => pw_cell_below (below_alloc (Below.refl w3.heap.size w3) ob) hk3; clear h3 s3 k3))
              all_goals
                go_wp2
                go_meet
                case rel => exact ⟨_, HS4.out⟩
            case rest =>
              obtain ⟨v5, hS5⟩ := hcut
              have HS5 := Aside0.mk hS5
              clear hS5
              have hp1 := HP.out
              clear HP
              cases ir with
              | false =>
                go_wp2
                go_roundg m
                case measure => omega
                case rel => exact ⟨_, _, _, _, rfl, by have := patom_le HPA.out; simp; omega, by simpa using hp1, HS5.out⟩
              | true =>
                obtain ⟨al0, b, e, rfl, rfl, hp2⟩ := rng_open hp1
                have HP2 := Aside0.mk hp2
                clear hp1 hp2
                obtain ⟨r, gb, ge, c5, hv5, hx5, hy5, hb5, he5⟩ := HS5.out.last2
                subst hv5
                have e5 : wc.cell? ⟨w.heap.size + 1, 1, none⟩ = some (.slice (some ⟨r, 0, none⟩) (al0.length + 2) c5) := blk_cell HS5.out.hv 1
                have hN : al0.length ≤ 1000 := by simp at hal; omega
                have HB5 := Aside0.mk hb5
                have HE5 := Aside0.mk he5
                have HX5 := Aside0.mk hx5
                have HY5 := Aside0.mk hy5
                clear hb5 he5
                have f5 := blk_frozen HS5.out.hv 1
                have HC5 := Aside0.mk (fun q : Nat => SetCut.mk' (al2 := [.chr b, .chr e]) (by have := HS5.out.drewN q; simpa using this) hw0 (HB5.out.step (w1 := wc.drewN q) (fun _ _ _ => rfl)) (HE5.out.step (w1 := wc.drewN q) (fun _ _ _ => rfl)))
                have hcap := (Kd.R_reads' HS5.out.row).2.1
                go_wp2_with fail
                go_quiet (fail)
                go_wp2
                go_quiet (fail)
                go_wp2
                have hwr : IntKind.i64.wrap (al0.length : Int) = (al0.length : Int) := IntWalk.i64_in _ (by omega)
                have hN0 : (0 : Int) ≤ (al0.length : Int) := by omega
                have hNc : (al0.length : Int) ≤ (c5 : Int) := by omega
                go_cut [] (fun wc2 => SetCut w0 w wc2 g (w.heap.size + 1) A src.length cap false al0 c2 d r al0.length c5 gb ge b e)
                case first =>
                  go_region_law (fail)
                  all_goals
                    go_wp2
                    go_meet
                    exact HC5.out _
                case rest =>
                  have HC6 := Aside0.mk hcut
                  clear hcut
                  have e6 : wc.cell? ⟨w.heap.size + 1, 1, none⟩ = some (.slice (some ⟨r, 0, none⟩) al0.length c5) := blk_cell HC6.out.s.hv 1
                  have f6 := blk_frozen HC6.out.s.hv 1
                  clear hwr
                  go_wp2_with (at_builtin; refine SetCut.append_rng HC6.out hw0 hN rfl (.tmp 102) (.tmp 108) rfl rfl rfl ?_; intro A7 n7 c7 w7 hS7 hc7 hf7; have HS7 := Aside0.mk hS7; clear hS7)
                  go_roundg m
                  case measure => omega
                  case rel => exact ⟨_, _, _, _, rfl, by have := patom_le HPA.out; simp at hal ⊢; omega, HP2.out, HS7.out⟩
  · intro a wf h
    obtain ⟨⟨u, rfl⟩, hw⟩ := h.open_
    clear h
    have HW := Aside0.mk hw
    clear hw
    go_wp2
    simp only [Exit.jump]
    go_ret
    obtain ⟨v, hS⟩ := HW.out
    exact ⟨_, rfl, hS.cls, hS.sc, hS.kp⟩
end
end Go.Proofs.YtpjfjfloeejgiaaFmt.Cls
/- parseClassSet and parseClass of package pm: what they make of a set's bytes. -/
set_option linter.unusedVariables false
set_option linter.unusedSimpArgs false
namespace Go.Proofs.YtpjfjfloeejgiaaFmt.Cls
open Go.RowKit Go.Proofs.YtpjfjfloeejgiaaFmtW.PrintWords Go.Proofs.YtpjfjfloeejgiaaFmt.Scan

section
variable {w0 w : World} {g : Nat} {A : Option Addr} {cap : Nat} {src : List Int} {c : Nat} {d : Option Nat}
set_option maxHeartbeats 4000000 in
set_option maxRecDepth 100000 in
theorem set_neg (hs : Src w0 A src) (hB : Below w0.heap.size w0 w) (hg : w0.heap.size ≤ g) (h : Sc w g A src.length cap c d) (hne : (chr src c == 94) = true) (k : Nat) (al : List Atom) (c' : Nat) (hp : pset src k (c + 1) [] false = some (al, c')) :
    Calls Tryf.prog 54 #[.pointer (some ⟨g, 0, none⟩)] w fun e w' => ∃ v, e = .returned v ∧ ClsAt w' w.heap.size (fun _ => True) v (.set true al) ∧ Sc w' g A src.length cap c' d ∧ Kp w0 w w' g := by
  have HS := Aside0.mk hs
  have HG := Aside0.mk hg
  have HB := Aside0.mk hB
  have H0 := Aside0.mk h
  clear hs hB hg h
  go_enter Tryf.func54, Tryf.ntmps54
  go_wp2_with fail
  refine wp_scope_jumps 0 (AtExit g (w.heap.size + 1) (fun wf => ∃ v, SetAt w0 w wf g (w.heap.size + 1) A src.length cap true al c' d v)) (fun _ _ => 0) rfl ?_ ?_
  · go_wp2_with fail
    have HN := Aside0.mk (SetAt.new HB.out H0.out)
    refine (peek_sc HS.out HN.out.kp.b HG.out HN.out.sc).mono ?_
    rintro e w1 ⟨rfl, h1, k1⟩
    have H1 := Aside0.mk (HN.out.keep k1 h1)
    clear h1 k1 HN
    have hw0 : w0.heap.size ≤ w.heap.size := HB.out.size
    have hc0 := chr_lt (src := src) (c := c) (by have := beq_iff_eq.mp hne; omega)
    have hm : min (c + 1) src.length = c + 1 := by omega
    have n0 : w1.cell? ⟨w.heap.size + 1, 0, none⟩ = some (.bool false) := blk_cell H1.out.hv 0
    have n0f := blk_frozen H1.out.hv 0
    have H1' := Aside0.mk (H1.out.turn hw0 true)
    go_wp2_with fail
    refine (next_sc HS.out H1'.out.kp.b HG.out H1'.out.sc).mono ?_
    rw [hm]
    rintro e w1' ⟨rfl, h1, k1⟩
    have H2 := Aside0.mk (H1'.out.keep k1 h1)
    clear h1 k1 H1' H1 n0 n0f hm
    go_wp2_with fail
    go_loopg [4] k (fun n v4 wr => SetRel w0 w g (w.heap.size + 1) A src cap true d (al, c') n v4 wr)
    case atStart => exact ⟨_, _, _, _, rfl, by simp, hp, H2.out⟩
    case round =>
      obtain ⟨c1, al1, ir, v1, rfl, hal, hp1, hS⟩ := hrel
      have hc1n := hS.sc.le
      have hln := HS.out.n
      have HP1 := Aside0.mk hp1
      have HS1 := Aside0.mk hS
      clear hp1 hS
      go_wp2_with fail
      refine (peek_sc HS.out HS1.out.kp.b HG.out HS1.out.sc).mono ?_
      rintro e w2 ⟨rfl, h2, k2⟩
      have HS2 := Aside0.mk (HS1.out.keep k2 h2)
      clear h2 k2 HS1
      obtain ⟨m, rfl⟩ : ∃ m, gk = m + 1 := by
        cases gk with
        | zero => exact absurd HP1.out (by simp [pset])
        | succ m => exact ⟨m, rfl⟩
      have hp1 := HP1.out
      clear HP1
      unfold pset at hp1
      have hv := HS2.out.hv
      obtain ⟨va, vc, rfl⟩ := Kd.R_slice HS2.out.row
      have e1 : w2.cell? ⟨w.heap.size + 1, 1, none⟩ = some (.slice va al1.length vc) := blk_cell hv 1
      have e0 : w2.cell? ⟨w.heap.size + 1, 0, none⟩ = some (.bool true) := blk_cell hv 0
      have f1 := blk_frozen hv 1
      have HV := Aside0.mk hv
      clear hv
      have hch := chr_ne HS.out (c := c1)
      by_cases h93 : chr src c1 = 93
      · rw [if_pos h93] at hp1
        split at hp1
        · cases hp1
        · rename_i hcond
          simp only [not_or] at hcond
          obtain ⟨hne1, hir⟩ := hcond
          have hlen : 0 < al1.length := List.length_pos_iff.mpr hne1
          have t93 : (chr src c1 == 93) = true := beq_iff_eq.mpr h93
          have tm : (chr src c1 == -1) = false := beq_eq_false_iff_ne.mpr (by omega)
          obtain rfl : ir = false := by simpa using hir
          simp only [Option.some.injEq, Prod.mk.injEq] at hp1
          obtain ⟨rfl, rfl⟩ := hp1
          have hc1 := chr_lt (src := src) (c := c1) (by omega)
          clear hir hne1 h93
          go_wp2_with fail
          refine (next_sc HS.out HS2.out.kp.b HG.out HS2.out.sc).mono ?_
          rintro e w3 ⟨rfl, h3, k3⟩
          have hm : min (c1 + 1) src.length = c1 + 1 := by omega
          rw [hm] at h3
          have HS3 := Aside0.mk (HS2.out.keep k3 h3)
          clear h3 k3 HS2 hm
          go_wp2
          go_step3
          exact ⟨rfl, rfl, _, HS3.out⟩
      · rw [if_neg h93] at hp1
        have t93 : (chr src c1 == 93) = false := beq_eq_false_iff_ne.mpr h93
        by_cases h45 : chr src c1 = 45
        · rw [if_pos h45] at hp1
          split at hp1
          · cases hp1
          · rename_i hcond
            simp only [not_or] at hcond
            obtain ⟨hne1, hir⟩ := hcond
            have hlen : 0 < al1.length := List.length_pos_iff.mpr hne1
            have t45 : (chr src c1 == 45) = true := beq_iff_eq.mpr h45
            have tm : (chr src c1 == -1) = false := beq_eq_false_iff_ne.mpr (by omega)
            obtain rfl : ir = false := by simpa using hir
            have HP := Aside0.mk hp1
            have hc1 := chr_lt (src := src) (c := c1) (by omega)
            clear hp1 hir hne1 h93 h45
            go_wp2_with fail
            refine (next_sc HS.out HS2.out.kp.b HG.out HS2.out.sc).mono ?_
            rintro e w3 ⟨rfl, h3, k3⟩
            have hm : min (c1 + 1) src.length = c1 + 1 := by omega
            rw [hm] at h3
            have HS3 := Aside0.mk (HS2.out.keep k3 h3)
            clear h3 k3 HS2 hm
            go_wp2
            go_roundg m
            case measure => omega
            case rel => exact ⟨_, _, _, _, rfl, by omega, HP.out, HS3.out⟩
        · rw [if_neg h45] at hp1
          have t45 : (chr src c1 == 45) = false := beq_eq_false_iff_ne.mpr h45
          cases hpa : patom src c1 with
          | none => rw [hpa] at hp1; cases hp1
          | some r =>
            obtain ⟨a, c2⟩ := r
            rw [hpa] at hp1
            have HPA := Aside0.mk hpa
            have HP := Aside0.mk hp1
            have tm : (chr src c1 == -1) = false := patom_ne HS.out hpa
            clear hp1 hpa h93 h45 hch
            go_wp2_with fail
            go_cut [] (fun wc => SetRelC w0 w wc g (w.heap.size + 1) A src.length cap true (al1 ++ [a]) c2 d)
            case first =>
              go_region_law (first | (refine SetAt.append_step rfl (.tmp 52) (.tmp 55) rfl rfl rfl HS3.out hw0 HS2.out.kp.k.1 (blk_lt HS2.out.hv) (Kd.R_lt HS2.out.row) H3.out (by omega) ?_; intro A4 n4 c4 w4 hS4 hc4 hf4; have HS4 := Aside0.mk hS4; clear hS4) | (go_simp; go_at_call 38; refine (parse_atom HS.out HS2.out.drew.kp.b HG.out HS2.out.drew.sc HPA.out).mono ?_; rintro e w3 ⟨v3, rfl, h3, s3, k3⟩; obtain ⟨ty, x3, rfl⟩ := AtomAt.iface h3; have H3 := Aside0.mk h3; have HS3 := Aside0.mk (HS2.out.drew.keep k3 s3); have hk3 := (cell_keep (w := w2.drew) (i := 1) HV.out k3 HS2.out.ne rfl); have hk3a := fun (ob : Obj) => pw_cell_below (below_alloc (Below.refl w3.heap.size w3) ob) hk3; clear h3 s3 k3))
              all_goals
                go_wp2
                go_meet
                case rel => exact ⟨_, HS4.out⟩
            case rest =>
              obtain ⟨v5, hS5⟩ := hcut
              have HS5 := Aside0.mk hS5
              clear hS5
              have hp1 := HP.out
              clear HP
              cases ir with
              | false =>
                go_wp2
                go_roundg m
                case measure => omega
                case rel => exact ⟨_, _, _, _, rfl, by have := patom_le HPA.out; simp; omega, by simpa using hp1, HS5.out⟩
              | true =>
                obtain ⟨al0, b, e, rfl, rfl, hp2⟩ := rng_open hp1
                have HP2 := Aside0.mk hp2
                clear hp1 hp2
                obtain ⟨r, gb, ge, c5, hv5, hx5, hy5, hb5, he5⟩ := HS5.out.last2
                subst hv5
                have e5 : wc.cell? ⟨w.heap.size + 1, 1, none⟩ = some (.slice (some ⟨r, 0, none⟩) (al0.length + 2) c5) := blk_cell HS5.out.hv 1
                have hN : al0.length ≤ 1000 := by simp at hal; omega
                have HB5 := Aside0.mk hb5
                have HE5 := Aside0.mk he5
                have HX5 := Aside0.mk hx5
                have HY5 := Aside0.mk hy5
                clear hb5 he5
                have f5 := blk_frozen HS5.out.hv 1
                have HC5 := Aside0.mk (fun q : Nat => SetCut.mk' (al2 := [.chr b, .chr e]) (by have := HS5.out.drewN q; simpa using this) hw0 (HB5.out.step (w1 := wc.drewN q) (fun _ _ _ => rfl)) (HE5.out.step (w1 := wc.drewN q) (fun _ _ _ => rfl)))
                have hcap := (Kd.R_reads' HS5.out.row).2.1
                go_wp2_with fail
                go_quiet (fail)
                go_wp2
                go_quiet (fail)
                go_wp2
                have hwr : IntKind.i64.wrap (al0.length : Int) = (al0.length : Int) := IntWalk.i64_in _ (by omega)
                have hN0 : (0 : Int) ≤ (al0.length : Int) := by omega
                have hNc : (al0.length : Int) ≤ (c5 : Int) := by omega
                go_cut [] (fun wc2 => SetCut w0 w wc2 g (w.heap.size + 1) A src.length cap true al0 c2 d r al0.length c5 gb ge b e)
                case first =>
                  go_region_law (fail)
                  all_goals
                    go_wp2
                    go_meet
                    exact HC5.out _
                case rest =>
                  have HC6 := Aside0.mk hcut
                  clear hcut
                  have e6 : wc.cell? ⟨w.heap.size + 1, 1, none⟩ = some (.slice (some ⟨r, 0, none⟩) al0.length c5) := blk_cell HC6.out.s.hv 1
                  have f6 := blk_frozen HC6.out.s.hv 1
                  clear hwr
                  go_wp2_with (at_builtin; refine SetCut.append_rng HC6.out hw0 hN rfl (.tmp 102) (.tmp 108) rfl rfl rfl ?_; intro A7 n7 c7 w7 hS7 hc7 hf7; have HS7 := Aside0.mk hS7; clear hS7)
                  go_roundg m
                  case measure => omega
                  case rel => exact ⟨_, _, _, _, rfl, by have := patom_le HPA.out; simp at hal ⊢; omega, HP2.out, HS7.out⟩
  · intro a wf h
    obtain ⟨⟨u, rfl⟩, hw⟩ := h.open_
    clear h
    have HW := Aside0.mk hw
    clear hw
    go_wp2
    simp only [Exit.jump]
    go_ret
    obtain ⟨v, hS⟩ := HW.out
    exact ⟨_, rfl, hS.cls, hS.sc, hS.kp⟩
end
end Go.Proofs.YtpjfjfloeejgiaaFmt.Cls
/- parseClass of package pm, whatever class stands there. -/
set_option linter.unusedVariables false
set_option linter.unusedSimpArgs false
namespace Go.Proofs.YtpjfjfloeejgiaaFmt.Cls
open Go.RowKit Go.Proofs.YtpjfjfloeejgiaaFmtW.PrintWords Go.Proofs.YtpjfjfloeejgiaaFmt.Scan

/-- What is read of a class. -/
def pcls (src : List Int) (c : Nat) : Option (Cls × Nat) :=
  if chr src c = 46 then some (.dot, c + 1)
  else if chr src c = 91 then
    (if chr src (c + 1) = 94 then (pset src (src.length + 1) (c + 2) [] false).map (fun r => (.set true r.1, r.2))
     else (pset src (src.length + 1) (c + 1) [] false).map (fun r => (.set false r.1, r.2)))
  else (patom src c).map (fun r => (.atom r.1, r.2))

theorem pset_lt {src : List Int} : ∀ {k c : Nat} {al : List Atom} {ir : Bool} {res : List Atom × Nat}, pset src k c al ir = some res → c < res.2 := by
  intro k
  induction k with
  | zero => intro c al ir res h; simp [pset] at h
  | succ k ih =>
    intro c al ir res h
    unfold pset at h
    split at h
    · split at h
      · cases h
      · obtain rfl := Option.some.inj h; exact Nat.lt_succ_self _
    · split at h
      · split at h
        · cases h
        · have := ih h; omega
      · split at h
        · cases h
        · rename_i a c' hpa
          have h1 := patom_le hpa
          split at h
          · split at h
            · have := ih h; omega
            · cases h
          · have := ih h; omega
theorem pcls_lt {src : List Int} {c c' : Nat} {cl : Cls} (h : pcls src c = some (cl, c')) : c + 1 ≤ c' := by
  unfold pcls at h
  split at h
  · obtain ⟨rfl, rfl⟩ := by simpa using h
    exact Nat.le_refl _
  · split at h
    · split at h
      · obtain ⟨r, hr, he⟩ := Option.map_eq_some_iff.1 h
        have := pset_lt hr
        simp only [Prod.mk.injEq] at he
        omega
      · obtain ⟨r, hr, he⟩ := Option.map_eq_some_iff.1 h
        have := pset_lt hr
        simp only [Prod.mk.injEq] at he
        omega
    · obtain ⟨r, hr, he⟩ := Option.map_eq_some_iff.1 h
      have := patom_le (a := r.1) (c' := r.2) hr
      simp only [Prod.mk.injEq] at he
      omega
section
variable {w0 w : World} {g : Nat} {A : Option Addr} {cap : Nat} {src : List Int} {c : Nat} {d : Option Nat}
set_option maxHeartbeats 4000000 in
theorem parse_set {neg : Bool} {al : List Atom} {c' : Nat} (hs : Src w0 A src) (hB : Below w0.heap.size w0 w) (hg : w0.heap.size ≤ g) (h : Sc w g A src.length cap c d) (h91 : chr src c = 91)
    (hset : ∀ w1, Below w0.heap.size w0 w1 → Sc w1 g A src.length cap (c + 1) d → Calls Tryf.prog 54 #[.pointer (some ⟨g, 0, none⟩)] w1 fun e w' => ∃ v, e = .returned v ∧ ClsAt w' w1.heap.size (fun _ => True) v (.set neg al) ∧ Sc w' g A src.length cap c' d ∧ Kp w0 w1 w' g) :
    Calls Tryf.prog 38 #[.pointer (some ⟨g, 0, none⟩), .bool true] w fun e w' => ∃ v, e = .returned v ∧ ClsAt w' w.heap.size (fun _ => True) v (.set neg al) ∧ Sc w' g A src.length cap c' d ∧ Kp w0 w w' g := by
  have hc : c < src.length := chr_lt (by omega)
  have HN := Aside0.mk (next_sc hs hB hg h)
  have hm : min (c + 1) src.length = c + 1 := by omega
  rw [hm, h91] at HN
  have HSET := Aside0.mk hset
  clear hs hB h hg hm h91 hset
  go_enter Tryf.func38, Tryf.ntmps38
  go_wp2_with fail
  refine HN.out.mono ?_
  rintro e w1 ⟨rfl, h1, k1⟩
  have H1 := Aside0.mk h1
  have K1 := Aside0.mk k1
  clear h1 k1
  go_wp2_with fail
  refine (HSET.out w1 K1.out.b H1.out).mono ?_
  rintro e w2 ⟨v, rfl, h2, s2, k2⟩
  have H2 := Aside0.mk h2
  have S2 := Aside0.mk s2
  have K2 := Aside0.mk k2
  clear h2 s2 k2
  go_wp2
  go_ret
  exact ⟨_, rfl, H2.out.lower K1.out.k.1, S2.out, K1.out.trans K2.out⟩

theorem parse_class {cl : Cls} {c' : Nat} (hs : Src w0 A src) (hB : Below w0.heap.size w0 w) (hg : w0.heap.size ≤ g) (h : Sc w g A src.length cap c d) (hp : pcls src c = some (cl, c')) :
    Calls Tryf.prog 38 #[.pointer (some ⟨g, 0, none⟩), .bool true] w fun e w' => ∃ v, e = .returned v ∧ ClsAt w' w.heap.size (fun _ => True) v cl ∧ Sc w' g A src.length cap c' d ∧ Kp w0 w w' g := by
  unfold pcls at hp
  split at hp
  · rename_i h46
    simp only [Option.some.injEq, Prod.mk.injEq] at hp
    obtain ⟨rfl, rfl⟩ := hp
    exact parse_dot hs hB hg h (chr_lt (by omega)) h46
  · rename_i h46
    split at hp
    · rename_i h91
      split at hp
      · rename_i h94
        obtain ⟨⟨al, c2⟩, hps, hp⟩ := Option.map_eq_some_iff.1 hp
        simp only [Prod.mk.injEq] at hp
        obtain ⟨rfl, rfl⟩ := hp
        exact parse_set hs hB hg h h91 (fun w1 b1 s1 => set_neg hs b1 hg s1 (beq_iff_eq.mpr h94) _ _ _ hps)
      · rename_i h94
        obtain ⟨⟨al, c2⟩, hps, hp⟩ := Option.map_eq_some_iff.1 hp
        simp only [Prod.mk.injEq] at hp
        obtain ⟨rfl, rfl⟩ := hp
        exact parse_set hs hB hg h h91 (fun w1 b1 s1 => set_pos hs b1 hg s1 (beq_eq_false_iff_ne.mpr h94) _ _ _ hps)
    · rename_i h91
      obtain ⟨⟨a, c2⟩, hpa, hp⟩ := Option.map_eq_some_iff.1 hp
      simp only [Prod.mk.injEq] at hp
      obtain ⟨rfl, rfl⟩ := hp
      unfold patom at hpa
      split at hpa
      · rename_i h37
        split at hpa
        · rename_i hc
          obtain ⟨rfl, rfl⟩ := by simpa using hpa
          exact parse_sing hs hB hg h hc true (beq_iff_eq.mpr h37)
        · cases hpa
      · rename_i h37
        split at hpa
        · rename_i hc
          obtain ⟨rfl, rfl⟩ := by simpa using hpa
          exact parse_chr hs hB hg h hc true h37 (fun _ => ⟨h46, h91⟩)
        · cases hpa
end
end Go.Proofs.YtpjfjfloeejgiaaFmt.Cls
/- A walk's frame by its length and by what some of its slots hold. -/
set_option linter.unusedVariables false
set_option linter.unusedSimpArgs false
namespace Go.Proofs.YtpjfjfloeejgiaaFmt
theorem frame_lit (n : Nat) (arr : Array Value) (h : arr.size = n) : arr = ((List.range n).map (fun i => arr.getD i undef)).toArray := by
  subst h
  apply Array.ext
  · simp
  · intro i h1 h2
    simp [Array.getD, h1]
end Go.Proofs.YtpjfjfloeejgiaaFmt
