/- Joined texts of this seat: Leaf0, Leaf1, Leaf5, LeafI, LeafW. -/
import Derived.Test.YtpjfjfloeejgiaaFmtProg
import Derived.Below
import Derived.Deep.Draws
import Derived.Deep.AppendLies
import Derived.Maps.AppendAt
import Derived.OwnWalk
import Derived.Laws.BytesArg
import Derived.Laws.MakeOwn
import Derived.Laws.OwnMore
import Derived.Deep.OwnRows
import Derived.Tactics
import Derived.Lib.ConvBytes
import Derived.Laws.Slices
import Derived.WalkKit
import Derived.KernelRfl
import Derived.RowKit3
import Derived.Deep.LoopGhost
import Derived.Deep.QuietTactic
import Derived.BigQuiet
import Derived.WideLaws
import Derived.Deep.DeepCutAuto
import Derived.Deep.CutBlock
import Derived.Deep.RegionHeld3
import Derived.Laws.Rows
import Derived.Lib.AppendStr
import Derived.ArgAppend
import Derived.Laws.IdiomCopy
import Derived.OrdersHeld
import Derived.Laws.BitsLemmas
import Derived.RowKit
import Derived.Test.YtpjfjfloeejgiaaFmtGa
/- Contracts of leaf functions of package spec, in the form in which print.sh has written them for this claim (turned: cut to the functions that build). -/
namespace Go.Proofs.YtpjfjfloeejgiaaFmt.PFnPatternFirst
open Go.RowKit Go.Proofs.YtpjfjfloeejgiaaFmtW.PrintWords Go.Proofs.YtpjfjfloeejgiaaFmtW.PrintLast Go.Proofs.YtpjfjfloeejgiaaFmtW.PrintMore
attribute [local go_sem] max2_int min2_int max_two min_two max_three min_three max_four min_four   -- for this text's walks alone
set_option linter.unusedVariables false
set_option linter.unusedSimpArgs false



def errW : Option Int → Value
  | none => .nilIface
  | some c => .iface 0 (.int .i64 c)
theorem errW_none : errW none = .nilIface := rfl
theorem errW_some (c : Int) : errW (some c) = .iface 0 (.int .i64 c) := rfl

theorem info4 : (Tryf.prog.info? 4).map (fun i => (i.zero, i.size, i.bytes)) = some (some (.bool false), 1, 1) := by kernel_rfl
theorem info65 : (Tryf.prog.info? 65).map (fun i => (i.zero, i.size, i.bytes)) = some (some (.agg #[(.int .i64 0), (.int .i64 0), (.bool false)]), 3, 24) := by kernel_rfl
theorem info74 : (Tryf.prog.info? 74).map (fun i => (i.zero, i.size, i.bytes)) = some (some (.agg #[(.int .i64 0), (.int .i64 0)]), 2, 16) := by kernel_rfl
theorem info88 : (Tryf.prog.info? 88).map (fun i => (i.zero, i.size, i.bytes)) = some (some (.int .u32 0), 1, 4) := by kernel_rfl
-- the values' own types
/-! #### struct type 65 -/
structure S65 where
  f0 : Int
  f1 : Int
  f2 : Bool
def z65 : S65 := ⟨(0 : Int), (0 : Int), false⟩
def k65 : Kd S65 := Kd.iso (Kd.pair (Kd.int .i64) (Kd.pair (Kd.int .i64) Kd.bool)) (fun x : S65 => (x.f0, x.f1, x.f2))
theorem k65_open {w : World} {x : S65} {cs : List Value} (h : k65.K w x cs) : cs = [.int .i64 x.f0, .int .i64 x.f1, .bool x.f2] := by
  obtain ⟨_, _, rfl, rfl, ⟨_, _, rfl, rfl, rfl⟩⟩ := h
  exact rfl
theorem k65_mkM (w : World) (base : Nat) (ok : Nat → Prop) (x : S65)  : k65.M w base ok x [.int .i64 x.f0, .int .i64 x.f1, .bool x.f2] := ⟨[.int .i64 x.f0], [.int .i64 x.f1, .bool x.f2], rfl, rfl, ⟨[.int .i64 x.f1], [.bool x.f2], rfl, rfl, rfl⟩⟩
def rd_T65 (xs : List S65) (i : Int) : S65 := xs.getD i.toNat z65
theorem at_T65 {w : World} {A : Option Addr} {n : Nat} {xs : List S65} (h : Kd.C k65 w A n xs) (i : Int) (h0 : 0 ≤ i) (h1 : i < n) : ∃ ad , A = some ad ∧ w.cell? (ad.add (i.toNat * 3)) = some (.int .i64 (rd_T65 xs i).f0) ∧ w.cell? ⟨(ad.add (i.toNat * 3)).block, (ad.add (i.toNat * 3)).off + 1, none⟩ = some (.int .i64 (rd_T65 xs i).f1) ∧ w.cell? ⟨(ad.add (i.toNat * 3)).block, (ad.add (i.toNat * 3)).off + 2, none⟩ = some (.bool (rd_T65 xs i).f2) := by
  obtain ⟨ad, c, e, _, hK, hc0⟩ := Kd.C_get h z65 i h0 h1
  have hc : ∀ j u, c[j]? = some u → w.cell? (ad.add (i.toNat * 3 + j)) = some u := hc0
  obtain rfl := k65_open hK
  exact ⟨ad, e, hc 0 _ rfl, by rw [← add_field _ _ 1 (by omega)]; exact hc 1 _ rfl, by rw [← add_field _ _ 2 (by omega)]; exact hc 2 _ rfl⟩

/-! #### struct type 33 -/
structure S33 where
  f0 : Int
  f1 : Int
def z33 : S33 := ⟨(0 : Int), (0 : Int)⟩
def k33 : Kd S33 := Kd.iso (Kd.pair (Kd.int .i64) (Kd.int .i64)) (fun x : S33 => (x.f0, x.f1))
theorem k33_open {w : World} {x : S33} {cs : List Value} (h : k33.K w x cs) : cs = [.int .i64 x.f0, .int .i64 x.f1] := by
  obtain ⟨_, _, rfl, rfl, rfl⟩ := h
  exact rfl
theorem k33_mkM (w : World) (base : Nat) (ok : Nat → Prop) (x : S33)  : k33.M w base ok x [.int .i64 x.f0, .int .i64 x.f1] := ⟨[.int .i64 x.f0], [.int .i64 x.f1], rfl, rfl, rfl⟩
def rd_T33 (xs : List S33) (i : Int) : S33 := xs.getD i.toNat z33
theorem at_T33 {w : World} {A : Option Addr} {n : Nat} {xs : List S33} (h : Kd.C k33 w A n xs) (i : Int) (h0 : 0 ≤ i) (h1 : i < n) : ∃ ad , A = some ad ∧ w.cell? (ad.add (i.toNat * 2)) = some (.int .i64 (rd_T33 xs i).f0) ∧ w.cell? ⟨(ad.add (i.toNat * 2)).block, (ad.add (i.toNat * 2)).off + 1, none⟩ = some (.int .i64 (rd_T33 xs i).f1) := by
  obtain ⟨ad, c, e, _, hK, hc0⟩ := Kd.C_get h z33 i h0 h1
  have hc : ∀ j u, c[j]? = some u → w.cell? (ad.add (i.toNat * 2 + j)) = some u := hc0
  obtain rfl := k33_open hK
  exact ⟨ad, e, hc 0 _ rfl, by rw [← add_field _ _ 1 (by omega)]; exact hc 1 _ rfl⟩

/-! #### struct type 74 -/
structure S74 where
  f0 : Int
  f1 : Int
def z74 : S74 := ⟨(0 : Int), (0 : Int)⟩
def k74 : Kd S74 := Kd.iso (Kd.pair (Kd.int .i64) (Kd.int .i64)) (fun x : S74 => (x.f0, x.f1))
theorem k74_open {w : World} {x : S74} {cs : List Value} (h : k74.K w x cs) : cs = [.int .i64 x.f0, .int .i64 x.f1] := by
  obtain ⟨_, _, rfl, rfl, rfl⟩ := h
  exact rfl
theorem k74_openM {w : World} {base : Nat} {ok : Nat → Prop} {x : S74} {cs : List Value} (h : k74.M w base ok x cs) : cs = [.int .i64 x.f0, .int .i64 x.f1] := by
  obtain ⟨_, _, rfl, rfl, rfl⟩ := h
  exact rfl
theorem k74_mkM (w : World) (base : Nat) (ok : Nat → Prop) (x : S74)  : k74.M w base ok x [.int .i64 x.f0, .int .i64 x.f1] := ⟨[.int .i64 x.f0], [.int .i64 x.f1], rfl, rfl, rfl⟩
def rd_T74 (xs : List S74) (i : Int) : S74 := xs.getD i.toNat z74
theorem at_T74 {w : World} {A : Option Addr} {n : Nat} {xs : List S74} (h : Kd.C k74 w A n xs) (i : Int) (h0 : 0 ≤ i) (h1 : i < n) : ∃ ad , A = some ad ∧ w.cell? (ad.add (i.toNat * 2)) = some (.int .i64 (rd_T74 xs i).f0) ∧ w.cell? ⟨(ad.add (i.toNat * 2)).block, (ad.add (i.toNat * 2)).off + 1, none⟩ = some (.int .i64 (rd_T74 xs i).f1) := by
  obtain ⟨ad, c, e, _, hK, hc0⟩ := Kd.C_get h z74 i h0 h1
  have hc : ∀ j u, c[j]? = some u → w.cell? (ad.add (i.toNat * 2 + j)) = some u := hc0
  obtain rfl := k74_open hK
  exact ⟨ad, e, hc 0 _ rfl, by rw [← add_field _ _ 1 (by omega)]; exact hc 1 _ rfl⟩

def rd_L5 (xs : List (List Bool)) (i : Int) : (List Bool) := xs.getD i.toNat ([] : List Bool)
/-! #### struct type 147 -/
structure S147 where
  f0 : Int
  f1 : (List Bool)
  f2 : Int
  f3 : Int
  f4 : Int
  f5 : Int
def z147 : S147 := ⟨(0 : Int), ([] : List Bool), (0 : Int), (0 : Int), (0 : Int), (0 : Int)⟩
def k147 : Kd S147 := Kd.iso (Kd.pair (Kd.int .i64) (Kd.pair (Kd.slice 4 Kd.bool) (Kd.pair (Kd.int .u8) (Kd.pair (Kd.int .i64) (Kd.pair (Kd.int .u8) (Kd.int .u8)))))) (fun x : S147 => (x.f0, x.f1, x.f2, x.f3, x.f4, x.f5))
theorem k147_open {w : World} {x : S147} {cs : List Value} (h : k147.K w x cs) : ∃ A1 c1, cs = [.int .i64 x.f0, .slice A1 x.f1.length c1, .int .u8 x.f2, .int .i64 x.f3, .int .u8 x.f4, .int .u8 x.f5] ∧ x.f1.length ≤ c1 ∧ Kd.bool.C w A1 x.f1.length x.f1 := by
  obtain ⟨_, _, rfl, rfl, ⟨_, _, rfl, ⟨A1, c1, rfl, l1, g1⟩, ⟨_, _, rfl, rfl, ⟨_, _, rfl, rfl, ⟨_, _, rfl, rfl, rfl⟩⟩⟩⟩⟩ := h
  exact ⟨A1, c1, rfl, l1, g1⟩
theorem k147_mkM (w : World) (base : Nat) (ok : Nat → Prop) (x : S147) {v1 : Value} (g1 : Kd.bool.R 4 w base ok v1 x.f1) : k147.M w base ok x [.int .i64 x.f0, v1, .int .u8 x.f2, .int .i64 x.f3, .int .u8 x.f4, .int .u8 x.f5] := ⟨[.int .i64 x.f0], [v1, .int .u8 x.f2, .int .i64 x.f3, .int .u8 x.f4, .int .u8 x.f5], rfl, rfl, ⟨[v1], [.int .u8 x.f2, .int .i64 x.f3, .int .u8 x.f4, .int .u8 x.f5], rfl, ⟨v1, rfl, g1⟩, ⟨[.int .u8 x.f2], [.int .i64 x.f3, .int .u8 x.f4, .int .u8 x.f5], rfl, rfl, ⟨[.int .i64 x.f3], [.int .u8 x.f4, .int .u8 x.f5], rfl, rfl, ⟨[.int .u8 x.f4], [.int .u8 x.f5], rfl, rfl, rfl⟩⟩⟩⟩⟩
def rd_T147 (xs : List S147) (i : Int) : S147 := xs.getD i.toNat z147
theorem at_T147 {w : World} {A : Option Addr} {n : Nat} {xs : List S147} (h : Kd.C k147 w A n xs) (i : Int) (h0 : 0 ≤ i) (h1 : i < n) : ∃ ad A1 c1, A = some ad ∧ w.cell? (ad.add (i.toNat * 6)) = some (.int .i64 (rd_T147 xs i).f0) ∧ w.cell? ⟨(ad.add (i.toNat * 6)).block, (ad.add (i.toNat * 6)).off + 1, none⟩ = some (.slice A1 (rd_T147 xs i).f1.length c1) ∧ w.cell? ⟨(ad.add (i.toNat * 6)).block, (ad.add (i.toNat * 6)).off + 2, none⟩ = some (.int .u8 (rd_T147 xs i).f2) ∧ w.cell? ⟨(ad.add (i.toNat * 6)).block, (ad.add (i.toNat * 6)).off + 3, none⟩ = some (.int .i64 (rd_T147 xs i).f3) ∧ w.cell? ⟨(ad.add (i.toNat * 6)).block, (ad.add (i.toNat * 6)).off + 4, none⟩ = some (.int .u8 (rd_T147 xs i).f4) ∧ w.cell? ⟨(ad.add (i.toNat * 6)).block, (ad.add (i.toNat * 6)).off + 5, none⟩ = some (.int .u8 (rd_T147 xs i).f5) ∧ (rd_T147 xs i).f1.length ≤ c1 ∧ Kd.bool.C w A1 (rd_T147 xs i).f1.length (rd_T147 xs i).f1 := by
  obtain ⟨ad, c, e, _, hK, hc0⟩ := Kd.C_get h z147 i h0 h1
  have hc : ∀ j u, c[j]? = some u → w.cell? (ad.add (i.toNat * 6 + j)) = some u := hc0
  obtain ⟨A1, c1, rfl, l1, g1⟩ := k147_open hK
  exact ⟨ad, A1, c1, e, hc 0 _ rfl, by rw [← add_field _ _ 1 (by omega)]; exact hc 1 _ rfl, by rw [← add_field _ _ 2 (by omega)]; exact hc 2 _ rfl, by rw [← add_field _ _ 3 (by omega)]; exact hc 3 _ rfl, by rw [← add_field _ _ 4 (by omega)]; exact hc 4 _ rfl, by rw [← add_field _ _ 5 (by omega)]; exact hc 5 _ rfl, l1, g1⟩

end Go.Proofs.YtpjfjfloeejgiaaFmt.PFnPatternFirst
/- Contracts of leaf functions of package spec, in the form in which print.sh has written them for this claim (turned: cut to the functions that build). -/
namespace Go.Proofs.YtpjfjfloeejgiaaFmt.PFnPatternFirst
open Go.RowKit Go.Proofs.YtpjfjfloeejgiaaFmtW.PrintWords Go.Proofs.YtpjfjfloeejgiaaFmtW.PrintLast Go.Proofs.YtpjfjfloeejgiaaFmtW.PrintMore
attribute [local go_sem] max2_int min2_int max_two min_two max_three min_three max_four min_four   -- for this text's walks alone
set_option linter.unusedVariables false
set_option linter.unusedSimpArgs false

-- NOT PRINTED: function 10 (laws_isMatch9)

/-! ### spec_stIsBytes: function 23 -/
def spec_stIsBytes.l0 : Nat → ByteArray → Int → Option (Bool)
  | 0, _, _ => none
  | k + 1, x0, x3 => if x3 < (x0.size : Int) then (if 0 ≤ x3 then (if (bt x0 x3) > 127 then (some false) else (spec_stIsBytes.l0 k x0 (wrap64 (x3 + 1)))) else (none)) else (some true)
def spec_stIsBytes.f (k : Nat) (a0 : ByteArray) : Option (Bool) := spec_stIsBytes.l0 k a0 0
set_option maxHeartbeats 8000000 in
set_option maxRecDepth 100000 in
theorem spec_stIsBytes.calls (k : Nat) (a0 : ByteArray) (r : Bool) (w : World) (h : spec_stIsBytes.f k a0 = some r) :
    Calls Tryf.prog 23 #[.string a0] w fun e w' => e = .returned (.bool r) ∧ Drawn0 w w' := by
  have H : (spec_stIsBytes.l0 k a0 0) = some r := h
  clear h
  have H' := Aside0.mk H
  clear H
  go_enter Tryf.func23, Tryf.ntmps23
  go_wp2
  go_loopg [3] k (fun kq v3 w' => ∃ (x3_1 : Int), v3 = .int .i64 x3_1 ∧ Aside0 (spec_stIsBytes.l0 kq a0 x3_1 = some r) ∧ Aside0 (kq ≤ k) ∧ Drawn0 w w')
  case atStart => exact ⟨(0), (by first | rfl | (simp; done) | (simp [*]; done)), H', ⟨Nat.le_refl _⟩, by repeat (first | exact Drawn0.refl _ | apply Drawn0.step)⟩
  case round =>
    clear H'
    obtain ⟨x3_1, rfl, HA, HK1, ⟨m1, rfl⟩⟩ := hrel
    cases gk with
    | zero => exact absurd HA.out (by simp [spec_stIsBytes.l0])
    | succ k1 =>
      have H := HA.out
      clear HA
      simp only [spec_stIsBytes.l0] at H
      by_cases c2 : x3_1 < (a0.size : Int)
      · rw [if_pos c2] at H
        have c2b0 : decide (x3_1 < (a0.size : Int)) = true := decide_eq_true c2
        clear c2
        by_cases c3 : 0 ≤ x3_1
        · rw [if_pos c3] at H
          have c3b0 : decide (0 ≤ x3_1) = true := decide_eq_true c3
          clear c3
          by_cases c5 : (bt a0 x3_1) > 127
          · rw [if_pos c5] at H
            have c5b0 : decide (127 < (bt a0 x3_1)) = true := decide_eq_true c5
            clear c5
            obtain rfl := Option.some.inj H
            have p4 : 0 ≤ (x3_1 : Int) := of_decide_eq_true (by first | (with_reducible assumption) | assumption)
            have q4 : x3_1 < (a0.size : Int) := of_decide_eq_true (by first | (with_reducible assumption) | assumption)
            have hx4 := bt_at a0 x3_1
            replace p4 := eq_true p4
            replace q4 := eq_true q4
            go_wp2
            go_ret
            exact ⟨by first | rfl | (simp; done) | (simp [*]; done), by repeat (first | exact Drawn0.refl _ | apply Drawn0.step)⟩
          · rw [if_neg c5] at H
            have c5b0 : decide (127 < (bt a0 x3_1)) = false := decide_eq_false c5
            clear c5
            have H' := Aside0.mk H
            clear H
            have p4 : 0 ≤ (x3_1 : Int) := of_decide_eq_true (by first | (with_reducible assumption) | assumption)
            have q4 : x3_1 < (a0.size : Int) := of_decide_eq_true (by first | (with_reducible assumption) | assumption)
            have hx4 := bt_at a0 x3_1
            replace p4 := eq_true p4
            replace q4 := eq_true q4
            go_wp2
            go_roundg k1
            case measure => have := HK1.out; omega
            case rel => exact ⟨(wrap64 (x3_1 + 1)), (by first | rfl | (simp; done) | (simp [*]; done)), H', ⟨by have := HK1.out; omega⟩, by repeat (first | exact Drawn0.refl _ | apply Drawn0.step)⟩
        · rw [if_neg c3] at H
          exact absurd H (by simp)
      · rw [if_neg c2] at H
        have c2b0 : decide (x3_1 < (a0.size : Int)) = false := decide_eq_false c2
        clear c2
        obtain rfl := Option.some.inj H
        go_wp2
        go_ret
        exact ⟨by first | rfl | (simp; done) | (simp [*]; done), by repeat (first | exact Drawn0.refl _ | apply Drawn0.step)⟩

-- NOT PRINTED: function 47 (spec_ptReader_add)

-- NOT PRINTED: function 45 (spec_ptReader_capture)

-- NOT PRINTED: function 46 (spec_ptReader_closing)

/-! ### spec_lxIsDigit: function 55 -/
def spec_lxIsDigit.f (a0 : Int) : Option (Bool) := if a0 ≥ 48 then (some (decide (a0 ≤ 57))) else (some false)
set_option maxHeartbeats 8000000 in
set_option maxRecDepth 100000 in
theorem spec_lxIsDigit.calls (a0 : Int) (r : Bool) (w : World) (h : spec_lxIsDigit.f a0 = some r) :
    Calls Tryf.prog 55 #[.int .u8 a0] w fun e w' => e = .returned (.bool r) ∧ Drawn0 w w' := by
  have H : (if a0 ≥ 48 then (some (decide (a0 ≤ 57))) else (some false)) = some r := h
  clear h
  by_cases c2 : a0 ≥ 48
  · rw [if_pos c2] at H
    have c2b0 : decide (48 ≤ a0) = true := decide_eq_true c2
    clear c2
    obtain rfl := Option.some.inj H
    go_enter Tryf.func55, Tryf.ntmps55
    go_wp2
    go_ret
    exact ⟨by first | rfl | (simp; done) | (simp [*]; done), by repeat (first | exact Drawn0.refl _ | apply Drawn0.step)⟩
  · rw [if_neg c2] at H
    have c2b0 : decide (48 ≤ a0) = false := decide_eq_false c2
    clear c2
    obtain rfl := Option.some.inj H
    go_enter Tryf.func55, Tryf.ntmps55
    go_wp2
    go_ret
    exact ⟨by first | rfl | (simp; done) | (simp [*]; done), by repeat (first | exact Drawn0.refl _ | apply Drawn0.step)⟩

/-! ### spec_ptEmpty: function 57 -/
def spec_ptEmpty.f  : Option (List Bool) := if 128 ≤ 281474976710656 then (some (List.replicate 128 false)) else (none)
set_option maxHeartbeats 8000000 in
set_option maxRecDepth 100000 in
theorem spec_ptEmpty.calls  (r : List Bool) (w : World) (h : spec_ptEmpty.f  = some r) :
    Calls Tryf.prog 57 #[] w fun e w' => ∃ v0_ : Value, e = .returned (v0_) ∧ Kd.R Kd.bool 4 w' w.heap.size (fun _ => True) v0_ r ∧ Below w.heap.size w w' := by
  have HB := Aside0.mk (Below.refl w.heap.size w)
  have H : (if 128 ≤ 281474976710656 then (some (List.replicate 128 false)) else (none)) = some r := h
  clear h
  by_cases c1 : 128 ≤ 281474976710656
  · rw [if_pos c1] at H
    have c1b0 := eq_true c1
    have c1b1 : decide (128 ≤ 281474976710656) = true := decide_eq_true c1
    clear c1
    obtain ⟨y126, hy126⟩ : ∃ y_ : List Bool, y_ = (List.replicate 128 false) := ⟨_, rfl⟩
    replace H : (some y126) = some r := by first | (rw [hy126]; with_reducible exact H) | (have H2_ := (Option.bind_some _ _).symm.trans H; rw [hy126]; with_reducible exact H2_) | (have H2_ := (Option.bind_some _ _).symm.trans H; with_reducible exact H2_) | with_reducible exact H | (rw [hy126]; exact H) | exact H
    have Ny126 := Aside0.mk hy126
    clear hy126
    obtain rfl := Option.some.inj H
    go_enter Tryf.func57, Tryf.ntmps57
    go_wp2_with (first | ((with_reducible refine gate_dst (N := 1) rfl ?_); refine Kd.R_make Kd.bool _ 4 rfl (N := 1) rfl 35 _ _ rfl 128 rfl rfl Tryf.underlying35 (.bool false) 1 info4 rfl (by decide) (by omega) false (ok := fun _ => True) (okp := fun _ => True) rfl (fun _ hk => hk) trivial (by omega) (by omega) (Below.refl _ _) (Nat.le_refl _) ?_; intro v127 w2 ho3 hb hg_ hnew_; clear hg_ hnew_; (first | rw [← Ny126.out] at ho3 | (simp only [Int.reduceToNat] at ho3; rw [← Ny126.out] at ho3)); have n0_ := Aside0.mk (Kd.R_lower ho3 (below_size (by repeat (first | (with_reducible first | exact HB.out | apply below_alloc | apply pw_below_drewN | apply below_drew1) | exact HB.out)))); have n1_ := Aside0.mk (below_step (by repeat (first | (with_reducible first | exact HB.out | apply below_alloc | apply pw_below_drewN | apply below_drew1) | exact HB.out)) hb); clear HB; have HO128 := n0_; have HB := n1_; clear n0_ n1_; clear hb ho3))
    go_ret
    exact ⟨_, by first | rfl | (simp [errW_none, errW_some] <;> rfl) | (simp [*, errW_none, errW_some] <;> rfl), by (with_reducible repeat (first | apply Kd.R_alloc | apply Kd.R_drewN | apply Kd.R_drew)); exact HO128.out, by repeat (first | (with_reducible first | exact HB.out | apply below_alloc | apply pw_below_drewN | apply below_drew1) | exact HB.out)⟩
  · rw [if_neg c1] at H
    exact absurd H (by simp)

/-! ### spec_ptIsLetter: function 61 -/
def spec_ptIsLetter.f (a0 : Int) : Option (Bool) := if a0 ≥ 97 then (if a0 ≤ 122 then (some true) else (if a0 ≥ 65 then (some (decide (a0 ≤ 90))) else (some false))) else (if a0 ≥ 65 then (some (decide (a0 ≤ 90))) else (some false))
set_option maxHeartbeats 8000000 in
set_option maxRecDepth 100000 in
theorem spec_ptIsLetter.calls (a0 : Int) (r : Bool) (w : World) (h : spec_ptIsLetter.f a0 = some r) :
    Calls Tryf.prog 61 #[.int .u8 a0] w fun e w' => e = .returned (.bool r) ∧ Drawn0 w w' := by
  have H : (if a0 ≥ 97 then (if a0 ≤ 122 then (some true) else (if a0 ≥ 65 then (some (decide (a0 ≤ 90))) else (some false))) else (if a0 ≥ 65 then (some (decide (a0 ≤ 90))) else (some false))) = some r := h
  clear h
  by_cases c2 : a0 ≥ 97
  · rw [if_pos c2] at H
    have c2b0 : decide (97 ≤ a0) = true := decide_eq_true c2
    clear c2
    by_cases c3 : a0 ≤ 122
    · rw [if_pos c3] at H
      have c3b0 : decide (a0 ≤ 122) = true := decide_eq_true c3
      clear c3
      obtain rfl := Option.some.inj H
      go_enter Tryf.func61, Tryf.ntmps61
      go_wp2
      go_ret
      exact ⟨by first | rfl | (simp; done) | (simp [*]; done), by repeat (first | exact Drawn0.refl _ | apply Drawn0.step)⟩
    · rw [if_neg c3] at H
      have c3b0 : decide (a0 ≤ 122) = false := decide_eq_false c3
      clear c3
      by_cases c4 : a0 ≥ 65
      · rw [if_pos c4] at H
        have c4b0 : decide (65 ≤ a0) = true := decide_eq_true c4
        clear c4
        obtain rfl := Option.some.inj H
        go_enter Tryf.func61, Tryf.ntmps61
        go_wp2
        go_ret
        exact ⟨by first | rfl | (simp; done) | (simp [*]; done), by repeat (first | exact Drawn0.refl _ | apply Drawn0.step)⟩
      · rw [if_neg c4] at H
        have c4b0 : decide (65 ≤ a0) = false := decide_eq_false c4
        clear c4
        obtain rfl := Option.some.inj H
        go_enter Tryf.func61, Tryf.ntmps61
        go_wp2
        go_ret
        exact ⟨by first | rfl | (simp; done) | (simp [*]; done), by repeat (first | exact Drawn0.refl _ | apply Drawn0.step)⟩
  · rw [if_neg c2] at H
    have c2b0 : decide (97 ≤ a0) = false := decide_eq_false c2
    clear c2
    by_cases c5 : a0 ≥ 65
    · rw [if_pos c5] at H
      have c5b0 : decide (65 ≤ a0) = true := decide_eq_true c5
      clear c5
      obtain rfl := Option.some.inj H
      go_enter Tryf.func61, Tryf.ntmps61
      go_wp2
      go_ret
      exact ⟨by first | rfl | (simp; done) | (simp [*]; done), by repeat (first | exact Drawn0.refl _ | apply Drawn0.step)⟩
    · rw [if_neg c5] at H
      have c5b0 : decide (65 ≤ a0) = false := decide_eq_false c5
      clear c5
      obtain rfl := Option.some.inj H
      go_enter Tryf.func61, Tryf.ntmps61
      go_wp2
      go_ret
      exact ⟨by first | rfl | (simp; done) | (simp [*]; done), by repeat (first | exact Drawn0.refl _ | apply Drawn0.step)⟩

/-! ### spec_lxHex: function 63 -/
mutual
def spec_lxHex.j0 : Nat → Int → Bool → Option (Int)
  | 0, _, _ => none
  | k + 1, x0, x3 => if x3 = true then (some ((x0 - 48) % 256)) else (if x0 ≥ 97 then (spec_lxHex.j1 k x0 (decide (x0 ≤ 102))) else (spec_lxHex.j1 k x0 false))
def spec_lxHex.j1 : Nat → Int → Bool → Option (Int)
  | 0, _, _ => none
  | k + 1, x0, x13 => if x13 = true then (some (((x0 - 97) % 256) + 10)) else (if x0 ≥ 65 then (if x0 ≤ 70 then (some (((x0 - 65) % 256) + 10)) else (some (-1))) else (some (-1)))
end
def spec_lxHex.f (k : Nat) (a0 : Int) : Option (Int) := if a0 ≥ 48 then (spec_lxHex.j0 k a0 (decide (a0 ≤ 57))) else (spec_lxHex.j0 k a0 false)
set_option maxHeartbeats 8000000 in
set_option maxRecDepth 100000 in
theorem spec_lxHex.calls (k : Nat) (a0 : Int) (r : Int) (w : World) (h : spec_lxHex.f k a0 = some r) :
    Calls Tryf.prog 63 #[.int .u8 a0] w fun e w' => e = .returned (.int .i64 r) ∧ Drawn0 w w' := by
  have H : (if a0 ≥ 48 then (spec_lxHex.j0 k a0 (decide (a0 ≤ 57))) else (spec_lxHex.j0 k a0 false)) = some r := h
  clear h
  have HC2 := Aside0.mk H
  clear H
  go_enter Tryf.func63, Tryf.ntmps63
  go_upto_region 1 with (fail)
  go_cut [3] (fun v3 wc => ∃ (kq : Nat) (x3_1 : Bool), v3 = .bool x3_1 ∧ Aside0 (spec_lxHex.j0 kq a0 x3_1 = some r) ∧ Aside0 (kq ≤ k) ∧ Drawn0 w wc)
  case first =>
    have H := HC2.out
    clear HC2
    by_cases c3 : a0 ≥ 48
    · rw [if_pos c3] at H
      have c3b0 : decide (48 ≤ a0) = true := decide_eq_true c3
      clear c3
      (first | rw [c3b0] | (simp only [i64_w, i32_w]; rw [c3b0]) | skip)
      have H' := Aside0.mk H
      clear H
      go_wp2
      go_meet
      case rel => exact ⟨_, (decide (a0 ≤ 57)), (by first | rfl | (simp; done) | (simp [*]; done)), H', ⟨by first | omega | exact Nat.le_refl _⟩, by repeat (first | exact Drawn0.refl _ | apply Drawn0.step)⟩
    · rw [if_neg c3] at H
      have c3b0 : decide (48 ≤ a0) = false := decide_eq_false c3
      clear c3
      (first | rw [c3b0] | (simp only [i64_w, i32_w]; rw [c3b0]) | skip)
      have H' := Aside0.mk H
      clear H
      go_wp2
      go_meet
      case rel => exact ⟨_, (false), (by first | rfl | (simp; done) | (simp [*]; done)), H', ⟨by first | omega | exact Nat.le_refl _⟩, by repeat (first | exact Drawn0.refl _ | apply Drawn0.step)⟩
  case rest =>
    clear HC2
    try clear p2
    try clear c3
    try clear c3b0
    obtain ⟨kq, x3_1, rfl, HA, HJ1, ⟨mc1, rfl⟩⟩ := hcut
    cases kq with
    | zero => exact absurd HA.out (by simp [spec_lxHex.j0])
    | succ kj1 =>
      have H := HA.out
      clear HA
      simp only [spec_lxHex.j0] at H
      by_cases c4 : x3_1 = true
      · subst c4
        have H1 : (some ((a0 - 48) % 256)) = some r := by rw [if_pos rfl] at H; exact H
        clear H
        have H := H1
        clear H1
        obtain rfl := Option.some.inj H
        go_wp2
        go_ret
        exact ⟨by first | rfl | (simp; done) | (simp [*]; done), by repeat (first | exact Drawn0.refl _ | apply Drawn0.step)⟩
      · replace c4 := Bool.eq_false_iff.mpr c4
        subst c4
        have H1 : (if a0 ≥ 97 then (spec_lxHex.j1 kj1 a0 (decide (a0 ≤ 102))) else (spec_lxHex.j1 kj1 a0 false)) = some r := by rw [if_neg (show ¬ (false = true) by decide)] at H; exact H
        clear H
        have H := H1
        clear H1
        have HC5 := Aside0.mk H
        clear H
        go_upto_region 3 with (fail)
        go_cut [13] (fun v13 wc => ∃ (kq : Nat) (x13_4 : Bool), v13 = .bool x13_4 ∧ Aside0 (spec_lxHex.j1 kq a0 x13_4 = some r) ∧ Aside0 (kq ≤ kj1) ∧ Drawn0 w wc)
        case first =>
          have H := HC5.out
          clear HC5
          by_cases c6 : a0 ≥ 97
          · rw [if_pos c6] at H
            have c6b0 : decide (97 ≤ a0) = true := decide_eq_true c6
            clear c6
            (first | rw [c6b0] | (simp only [i64_w, i32_w]; rw [c6b0]) | skip)
            have H' := Aside0.mk H
            clear H
            go_wp2
            go_meet
            case rel => exact ⟨_, (decide (a0 ≤ 102)), (by first | rfl | (simp; done) | (simp [*]; done)), H', ⟨by have := HJ1.out; first | omega | exact Nat.le_refl _⟩, by repeat (first | exact Drawn0.refl _ | apply Drawn0.step)⟩
          · rw [if_neg c6] at H
            have c6b0 : decide (97 ≤ a0) = false := decide_eq_false c6
            clear c6
            (first | rw [c6b0] | (simp only [i64_w, i32_w]; rw [c6b0]) | skip)
            have H' := Aside0.mk H
            clear H
            go_wp2
            go_meet
            case rel => exact ⟨_, (false), (by first | rfl | (simp; done) | (simp [*]; done)), H', ⟨by have := HJ1.out; first | omega | exact Nat.le_refl _⟩, by repeat (first | exact Drawn0.refl _ | apply Drawn0.step)⟩
        case rest =>
          clear HC5
          try clear c1
          try clear p2
          try clear c3
          try clear c3b0
          try clear c4
          try clear c6
          try clear c6b0
          try clear p2
          obtain ⟨kq, x13_4, rfl, HA, HJ4, ⟨mc4, rfl⟩⟩ := hcut
          cases kq with
          | zero => exact absurd HA.out (by simp [spec_lxHex.j1])
          | succ kj4 =>
            have H := HA.out
            clear HA
            simp only [spec_lxHex.j1] at H
            by_cases c7 : x13_4 = true
            · subst c7
              have H1 : (some (((a0 - 97) % 256) + 10)) = some r := by rw [if_pos rfl] at H; exact H
              clear H
              have H := H1
              clear H1
              obtain rfl := Option.some.inj H
              go_wp2
              go_ret
              exact ⟨by first | rfl | (simp; done) | (simp [*]; done), by repeat (first | exact Drawn0.refl _ | apply Drawn0.step)⟩
            · replace c7 := Bool.eq_false_iff.mpr c7
              subst c7
              have H1 : (if a0 ≥ 65 then (if a0 ≤ 70 then (some (((a0 - 65) % 256) + 10)) else (some (-1))) else (some (-1))) = some r := by rw [if_neg (show ¬ (false = true) by decide)] at H; exact H
              clear H
              have H := H1
              clear H1
              by_cases c8 : a0 ≥ 65
              · rw [if_pos c8] at H
                have c8b0 : decide (65 ≤ a0) = true := decide_eq_true c8
                clear c8
                by_cases c9 : a0 ≤ 70
                · rw [if_pos c9] at H
                  have c9b0 : decide (a0 ≤ 70) = true := decide_eq_true c9
                  clear c9
                  obtain rfl := Option.some.inj H
                  go_wp2
                  go_ret
                  exact ⟨by first | rfl | (simp; done) | (simp [*]; done), by repeat (first | exact Drawn0.refl _ | apply Drawn0.step)⟩
                · rw [if_neg c9] at H
                  have c9b0 : decide (a0 ≤ 70) = false := decide_eq_false c9
                  clear c9
                  obtain rfl := Option.some.inj H
                  go_wp2
                  go_ret
                  exact ⟨by first | rfl | (simp; done) | (simp [*]; done), by repeat (first | exact Drawn0.refl _ | apply Drawn0.step)⟩
              · rw [if_neg c8] at H
                have c8b0 : decide (65 ≤ a0) = false := decide_eq_false c8
                clear c8
                obtain rfl := Option.some.inj H
                go_wp2
                go_ret
                exact ⟨by first | rfl | (simp; done) | (simp [*]; done), by repeat (first | exact Drawn0.refl _ | apply Drawn0.step)⟩

end Go.Proofs.YtpjfjfloeejgiaaFmt.PFnPatternFirst
/- Contracts of leaf functions of package spec, in the form in which print.sh has written them for this claim (turned: cut to the functions that build). -/
namespace Go.Proofs.YtpjfjfloeejgiaaFmt.PFnPatternFirst
open Go.RowKit Go.Proofs.YtpjfjfloeejgiaaFmtW.PrintWords Go.Proofs.YtpjfjfloeejgiaaFmtW.PrintLast Go.Proofs.YtpjfjfloeejgiaaFmtW.PrintMore
attribute [local go_sem] max2_int min2_int max_two min_two max_three min_three max_four min_four   -- for this text's walks alone
set_option linter.unusedVariables false
set_option linter.unusedSimpArgs false

/-- A state of type 100 at block g of W; what its slices lead to came in by w0. -/
def IsS100 (w0 W : World) (g : Nat) (f0 : ByteArray) (f1 : List (S147)) (f2 : Int) : Prop := ∃ A1 c1, W.heap[g]? = some (.cells #[.string f0, .slice A1 f1.length c1, .int .i64 f2] 100 (0, 0)) ∧ w0.heap.size ≤ g ∧ Kd.C k147 w0 A1 f1.length f1
theorem IsS100.grown {w0 W : World} {g : Nat} {f0 : ByteArray} {f1 : List (S147)} {f2 : Int} {W1 : World} {row : Option Nat} (h : IsS100 w0 W g f0 f1 f2) (hw : W.grownBy W1 row) (hne : some g ≠ row) : IsS100 w0 W1 g f0 f1 f2 := by
  obtain ⟨A1, c1, hb, hg, hr1⟩ := h
  exact ⟨A1, c1, blk_grown hb hw hne, hg, hr1⟩
theorem IsS100.below {w0 W : World} {g : Nat} {f0 : ByteArray} {f1 : List (S147)} {f2 : Int} {W1 : World} (h : IsS100 w0 W g f0 f1 f2) (hw : Below W.heap.size W W1) : IsS100 w0 W1 g f0 f1 f2 := h.grown (grown_of_below hw none) (by simp)
theorem IsS100.drewN {w0 W : World} {g : Nat} {f0 : ByteArray} {f1 : List (S147)} {f2 : Int} (h : IsS100 w0 W g f0 f1 f2) (m : Nat) : IsS100 w0 (W.drewN m) g f0 f1 f2 := h
theorem IsS100.lt {w0 W : World} {g : Nat} {f0 : ByteArray} {f1 : List (S147)} {f2 : Int} (h : IsS100 w0 W g f0 f1 f2) : g < W.heap.size := by
  obtain ⟨A1, c1, hb, hg, hr1⟩ := h
  exact blk_lt hb
theorem IsS100.ge {w0 W : World} {g : Nat} {f0 : ByteArray} {f1 : List (S147)} {f2 : Int} (h : IsS100 w0 W g f0 f1 f2) : w0.heap.size ≤ g := by
  obtain ⟨A1, c1, hb, hg, hr1⟩ := h
  exact hg
theorem cellS100_0 {W : World} {g : Nat} {A1 : Option Addr} {c1 : Nat} {f0 : ByteArray} {f1 : List (S147)} {f2 : Int} (h : W.heap[g]? = some (.cells #[.string f0, .slice A1 f1.length c1, .int .i64 f2] 100 (0, 0))) : W.cell? ⟨g, 0, none⟩ = some (.string f0) := (blk_cell h 0).trans rfl
theorem cellS100_1 {W : World} {g : Nat} {A1 : Option Addr} {c1 : Nat} {f0 : ByteArray} {f1 : List (S147)} {f2 : Int} (h : W.heap[g]? = some (.cells #[.string f0, .slice A1 f1.length c1, .int .i64 f2] 100 (0, 0))) : W.cell? ⟨g, 1, none⟩ = some (.slice A1 f1.length c1) := (blk_cell h 1).trans rfl
theorem cellS100_2 {W : World} {g : Nat} {A1 : Option Addr} {c1 : Nat} {f0 : ByteArray} {f1 : List (S147)} {f2 : Int} (h : W.heap[g]? = some (.cells #[.string f0, .slice A1 f1.length c1, .int .i64 f2] 100 (0, 0))) : W.cell? ⟨g, 2, none⟩ = some (.int .i64 f2) := (blk_cell h 2).trans rfl
theorem IsS100.set_2 {w0 W : World} {g : Nat} {f0 : ByteArray} {f1 : List (S147)} {f2 : Int} (h : IsS100 w0 W g f0 f1 f2) (x : Int) : IsS100 w0 (W.setCell ⟨g, 2, none⟩ (.int .i64 x)) g f0 f1 x := by
  obtain ⟨A1, c1, hb, hg, hr1⟩ := h
  exact ⟨A1, c1, by simpa using blk_set hb 2 (.int .i64 x), hg, hr1⟩
/-! ### spec_ptMatcher_balanced: function 51 -/
mutual
def spec_ptMatcher_balanced.j0 : Nat → Int → Bool → ByteArray → List (S147) → Int → Int → List Bool → Int → Int → Int → Int → Option (Int × ByteArray × Int)
  | 0, _, _, _, _, _, _, _, _, _, _, _ => none
  | k + 1, x2, x26, x1000, x1001, x1002, x175000, x175001, x175002, x175003, x175004, x175005 => if x26 = true then (some ((-1), x1000, x1002)) else (spec_ptMatcher_balanced.l0 k 0 x2 x1000 x1001 x1002 x175000 x175001 x175002 x175003 x175004 x175005)
def spec_ptMatcher_balanced.l0 : Nat → Int → Int → ByteArray → List (S147) → Int → Int → List Bool → Int → Int → Int → Int → Option (Int × ByteArray × Int)
  | 0, _, _, _, _, _, _, _, _, _, _, _ => none
  | k + 1, x7, x8, x1000, x1001, x1002, x175000, x175001, x175002, x175003, x175004, x175005 => if x8 < (x1000.size : Int) then (if 0 ≤ x8 then (if (bt x1000 x8) = x175004 then (if (wrap64 (x7 + 1)) = 0 then (some (wrap64 (x8 + 1), x1000, x1002)) else (spec_ptMatcher_balanced.l0 k (wrap64 (x7 + 1)) (wrap64 (x8 + 1)) x1000 x1001 x1002 x175000 x175001 x175002 x175003 x175004 x175005)) else (if (bt x1000 x8) = x175005 then (if (wrap64 (x7 - 1)) = 0 then (some (wrap64 (x8 + 1), x1000, x1002)) else (spec_ptMatcher_balanced.l0 k (wrap64 (x7 - 1)) (wrap64 (x8 + 1)) x1000 x1001 x1002 x175000 x175001 x175002 x175003 x175004 x175005)) else (if x7 = 0 then (some (wrap64 (x8 + 1), x1000, x1002)) else (spec_ptMatcher_balanced.l0 k x7 (wrap64 (x8 + 1)) x1000 x1001 x1002 x175000 x175001 x175002 x175003 x175004 x175005)))) else (none)) else (some ((-1), x1000, x1002))
end
def spec_ptMatcher_balanced.f (k : Nat) (s0_0 : ByteArray) (s0_1 : List (S147)) (s0_2 : Int) (a1_0 : Int) (l1_1 : List Bool) (a1_2 : Int) (a1_3 : Int) (a1_4 : Int) (a1_5 : Int) (a2 : Int) : Option (Int × ByteArray × Int) := if a2 ≥ (s0_0.size : Int) then (spec_ptMatcher_balanced.j0 k a2 true s0_0 s0_1 s0_2 a1_0 l1_1 a1_2 a1_3 a1_4 a1_5) else (if 0 ≤ a2 then (if a2 < (s0_0.size : Int) then (spec_ptMatcher_balanced.j0 k a2 ((bt s0_0 a2) != a1_4) s0_0 s0_1 s0_2 a1_0 l1_1 a1_2 a1_3 a1_4 a1_5) else (none)) else (none))
set_option maxHeartbeats 8000000 in
set_option maxRecDepth 100000 in
theorem spec_ptMatcher_balanced.calls (k : Nat) (g : Nat) (s0_0 : ByteArray) (s0_1 : List (S147)) (s0_2 : Int) (a1_0 : Int) (A1_1 : Option Addr) (c1_1 : Nat) (l1_1 : List Bool) (a1_2 : Int) (a1_3 : Int) (a1_4 : Int) (a1_5 : Int) (a2 : Int) (r1 : Int) (r2 : ByteArray) (r3 : Int) (w0 w : World) (hI : IsS100 w0 w g s0_0 s0_1 s0_2) (hB : Below w0.heap.size w0 w) (hr1_1 : Kd.C Kd.bool w A1_1 l1_1.length l1_1) (hc1_1 : l1_1.length ≤ c1_1) (hf1_1 : ∀ ad, A1_1 = some ad → 0 < l1_1.length → ad.block ≠ g) (h : spec_ptMatcher_balanced.f k s0_0 s0_1 s0_2 a1_0 l1_1 a1_2 a1_3 a1_4 a1_5 a2 = some (r1, r2, r3)) :
    Calls Tryf.prog 51 #[.pointer (some ⟨g, 0, none⟩), .agg #[.int .i64 a1_0, .slice A1_1 l1_1.length c1_1, .int .u8 a1_2, .int .i64 a1_3, .int .u8 a1_4, .int .u8 a1_5], .int .i64 a2] w fun e w' => e = .returned (.int .i64 r1) ∧ IsS100 w0 w' g r2 s0_1 r3 ∧ Below w0.heap.size w0 w' ∧ KeepBut w w' g none := by
  have hu147 := Tryf.underlying147
  have HR1_1 := Aside0.mk hr1_1
  have HC1_1 := Aside0.mk hc1_1
  clear hr1_1 hc1_1
  have HI0 := Aside0.mk hI
  have HK := Aside0.mk (KeepBut.refl w g none)
  have HL := Aside0.mk hB.size
  clear hI
  have HW0 := Aside0.mk hB.size
  have HB := Aside0.mk hB
  clear hB
  have H : (if a2 ≥ (s0_0.size : Int) then (spec_ptMatcher_balanced.j0 k a2 true s0_0 s0_1 s0_2 a1_0 l1_1 a1_2 a1_3 a1_4 a1_5) else (if 0 ≤ a2 then (if a2 < (s0_0.size : Int) then (spec_ptMatcher_balanced.j0 k a2 ((bt s0_0 a2) != a1_4) s0_0 s0_1 s0_2 a1_0 l1_1 a1_2 a1_3 a1_4 a1_5) else (none)) else (none))) = some (r1, r2, r3) := h
  clear h
  have HC4 := Aside0.mk H
  clear H
  go_enter Tryf.func51, Tryf.ntmps51
  go_upto_region 1 with (first | ((with_reducible refine gate_dst (N := 4) rfl ?_); refine box_event ?hg (N := 4) ?hd (cs := #[.int .i64 a1_0, .slice A1_1 l1_1.length c1_1, .int .u8 a1_2, .int .i64 a1_3, .int .u8 a1_4, .int .u8 a1_5]) (t := 147) ?hr ?_; (case hd => rfl); (case hg => rfl); (case hr => first | (go_simp; done) | (go_simp; rfl)); intro gb174 hg w5 hbox hb; have n0_ := Aside0.mk (IsS100.below (by repeat (first | (with_reducible first | exact HI0.out | apply IsS100.alloc | apply IsS100.drewN | apply IsS100.drew | apply IsS100.set_0 | apply IsS100.set_2) | exact HI0.out)) hb); have n1_ := Aside0.mk (KeepBut.trans (by repeat (first | (with_reducible first | exact HK.out | apply KeepBut.set_ | apply keep_drewN | apply keep_drew | apply keep_alloc) | exact HK.out)) (KeepBut.of_below hb g none) (.inl rfl)); have n2_ := Aside0.mk (below_step (by repeat (first | (with_reducible first | exact HB.out | apply below_alloc | apply pw_below_drewN | apply below_drew1 | refine below_set ?_ (IsS100.ge HI0.out)) | exact HB.out)) hb); have n3_ := Aside0.mk (hbox); have n4_ := Aside0.mk ((by rw [hg]; exact (keep_size (w := w) (g := g) (row := none) (by repeat (first | (with_reducible first | exact HK.out | apply KeepBut.set_ | apply keep_drewN | apply keep_drew | apply keep_alloc) | exact HK.out))) : w.heap.size ≤ gb174)); have n5_ := Aside0.mk ((Nat.le_trans HW0.out (by rw [hg]; exact (keep_size (w := w) (g := g) (row := none) (by repeat (first | (with_reducible first | exact HK.out | apply KeepBut.set_ | apply keep_drewN | apply keep_drew | apply keep_alloc) | exact HK.out))) : w.heap.size ≤ gb174) : w0.heap.size ≤ gb174)); have n6_ := Aside0.mk ((by rw [hg]; exact Nat.ne_of_lt (IsS100.lt (show IsS100 w0 _ g s0_0 s0_1 s0_2 from by repeat (first | (with_reducible first | exact HI0.out | apply IsS100.alloc | apply IsS100.drewN | apply IsS100.drew | apply IsS100.set_0 | apply IsS100.set_2) | exact HI0.out))) : g ≠ gb174)); have n7_ := Aside0.mk ((by rw [hg]; exact Nat.ne_of_gt (IsS100.lt (show IsS100 w0 _ g s0_0 s0_1 s0_2 from by repeat (first | (with_reducible first | exact HI0.out | apply IsS100.alloc | apply IsS100.drewN | apply IsS100.drew | apply IsS100.set_0 | apply IsS100.set_2) | exact HI0.out))) : gb174 ≠ g)); clear HI0; clear HK; clear HB; have HI0 := n0_; have HK := n1_; have HB := n2_; have BK174 := n3_; have GW174 := n4_; have GE174 := n5_; have NB0_174 := n6_; have NB174_0 := n7_; clear n0_ n1_ n2_ n3_ n4_ n5_ n6_ n7_; clear hb hbox hg))
  repeat (go_quiet (first | ((with_reducible refine gate_dst (N := 4) rfl ?_); refine box_event ?hg (N := 4) ?hd (cs := #[.int .i64 a1_0, .slice A1_1 l1_1.length c1_1, .int .u8 a1_2, .int .i64 a1_3, .int .u8 a1_4, .int .u8 a1_5]) (t := 147) ?hr ?_; (case hd => rfl); (case hg => rfl); (case hr => first | (go_simp; done) | (go_simp; rfl)); intro gb174 hg w5 hbox hb; have n0_ := Aside0.mk (IsS100.below (by repeat (first | (with_reducible first | exact HI0.out | apply IsS100.alloc | apply IsS100.drewN | apply IsS100.drew | apply IsS100.set_0 | apply IsS100.set_2) | exact HI0.out)) hb); have n1_ := Aside0.mk (KeepBut.trans (by repeat (first | (with_reducible first | exact HK.out | apply KeepBut.set_ | apply keep_drewN | apply keep_drew | apply keep_alloc) | exact HK.out)) (KeepBut.of_below hb g none) (.inl rfl)); have n2_ := Aside0.mk (below_step (by repeat (first | (with_reducible first | exact HB.out | apply below_alloc | apply pw_below_drewN | apply below_drew1 | refine below_set ?_ (IsS100.ge HI0.out)) | exact HB.out)) hb); have n3_ := Aside0.mk (hbox); have n4_ := Aside0.mk ((by rw [hg]; exact (keep_size (w := w) (g := g) (row := none) (by repeat (first | (with_reducible first | exact HK.out | apply KeepBut.set_ | apply keep_drewN | apply keep_drew | apply keep_alloc) | exact HK.out))) : w.heap.size ≤ gb174)); have n5_ := Aside0.mk ((Nat.le_trans HW0.out (by rw [hg]; exact (keep_size (w := w) (g := g) (row := none) (by repeat (first | (with_reducible first | exact HK.out | apply KeepBut.set_ | apply keep_drewN | apply keep_drew | apply keep_alloc) | exact HK.out))) : w.heap.size ≤ gb174) : w0.heap.size ≤ gb174)); have n6_ := Aside0.mk ((by rw [hg]; exact Nat.ne_of_lt (IsS100.lt (show IsS100 w0 _ g s0_0 s0_1 s0_2 from by repeat (first | (with_reducible first | exact HI0.out | apply IsS100.alloc | apply IsS100.drewN | apply IsS100.drew | apply IsS100.set_0 | apply IsS100.set_2) | exact HI0.out))) : g ≠ gb174)); have n7_ := Aside0.mk ((by rw [hg]; exact Nat.ne_of_gt (IsS100.lt (show IsS100 w0 _ g s0_0 s0_1 s0_2 from by repeat (first | (with_reducible first | exact HI0.out | apply IsS100.alloc | apply IsS100.drewN | apply IsS100.drew | apply IsS100.set_0 | apply IsS100.set_2) | exact HI0.out))) : gb174 ≠ g)); clear HI0; clear HK; clear HB; have HI0 := n0_; have HK := n1_; have HB := n2_; have BK174 := n3_; have GW174 := n4_; have GE174 := n5_; have NB0_174 := n6_; have NB174_0 := n7_; clear n0_ n1_ n2_ n3_ n4_ n5_ n6_ n7_; clear hb hbox hg)); go_upto_region 1 with (first | ((with_reducible refine gate_dst (N := 4) rfl ?_); refine box_event ?hg (N := 4) ?hd (cs := #[.int .i64 a1_0, .slice A1_1 l1_1.length c1_1, .int .u8 a1_2, .int .i64 a1_3, .int .u8 a1_4, .int .u8 a1_5]) (t := 147) ?hr ?_; (case hd => rfl); (case hg => rfl); (case hr => first | (go_simp; done) | (go_simp; rfl)); intro gb174 hg w5 hbox hb; have n0_ := Aside0.mk (IsS100.below (by repeat (first | (with_reducible first | exact HI0.out | apply IsS100.alloc | apply IsS100.drewN | apply IsS100.drew | apply IsS100.set_0 | apply IsS100.set_2) | exact HI0.out)) hb); have n1_ := Aside0.mk (KeepBut.trans (by repeat (first | (with_reducible first | exact HK.out | apply KeepBut.set_ | apply keep_drewN | apply keep_drew | apply keep_alloc) | exact HK.out)) (KeepBut.of_below hb g none) (.inl rfl)); have n2_ := Aside0.mk (below_step (by repeat (first | (with_reducible first | exact HB.out | apply below_alloc | apply pw_below_drewN | apply below_drew1 | refine below_set ?_ (IsS100.ge HI0.out)) | exact HB.out)) hb); have n3_ := Aside0.mk (hbox); have n4_ := Aside0.mk ((by rw [hg]; exact (keep_size (w := w) (g := g) (row := none) (by repeat (first | (with_reducible first | exact HK.out | apply KeepBut.set_ | apply keep_drewN | apply keep_drew | apply keep_alloc) | exact HK.out))) : w.heap.size ≤ gb174)); have n5_ := Aside0.mk ((Nat.le_trans HW0.out (by rw [hg]; exact (keep_size (w := w) (g := g) (row := none) (by repeat (first | (with_reducible first | exact HK.out | apply KeepBut.set_ | apply keep_drewN | apply keep_drew | apply keep_alloc) | exact HK.out))) : w.heap.size ≤ gb174) : w0.heap.size ≤ gb174)); have n6_ := Aside0.mk ((by rw [hg]; exact Nat.ne_of_lt (IsS100.lt (show IsS100 w0 _ g s0_0 s0_1 s0_2 from by repeat (first | (with_reducible first | exact HI0.out | apply IsS100.alloc | apply IsS100.drewN | apply IsS100.drew | apply IsS100.set_0 | apply IsS100.set_2) | exact HI0.out))) : g ≠ gb174)); have n7_ := Aside0.mk ((by rw [hg]; exact Nat.ne_of_gt (IsS100.lt (show IsS100 w0 _ g s0_0 s0_1 s0_2 from by repeat (first | (with_reducible first | exact HI0.out | apply IsS100.alloc | apply IsS100.drewN | apply IsS100.drew | apply IsS100.set_0 | apply IsS100.set_2) | exact HI0.out))) : gb174 ≠ g)); clear HI0; clear HK; clear HB; have HI0 := n0_; have HK := n1_; have HB := n2_; have BK174 := n3_; have GW174 := n4_; have GE174 := n5_; have NB0_174 := n6_; have NB174_0 := n7_; clear n0_ n1_ n2_ n3_ n4_ n5_ n6_ n7_; clear hb hbox hg)))
  (try simp only [Act.put, List.setIfInBounds_toArray, List.set_cons_zero, List.set_cons_succ])
  go_cut [26] (fun v26 wc => ∃ (kq : Nat) (x26_3 : Bool), v26 = .bool x26_3 ∧ Aside0 (spec_ptMatcher_balanced.j0 kq a2 x26_3 s0_0 s0_1 s0_2 a1_0 l1_1 a1_2 a1_3 a1_4 a1_5 = some (r1, r2, r3)) ∧ Aside0 (kq ≤ k) ∧ Aside0 (wc.heap[gb174]? = some (.cells #[.int .i64 a1_0, (.slice A1_1 l1_1.length c1_1), .int .u8 a1_2, .int .i64 a1_3, .int .u8 a1_4, .int .u8 a1_5] 147 (0, 0))) ∧ Aside0 (IsS100 w0 wc g s0_0 s0_1 s0_2) ∧ Aside0 (KeepBut w wc g none) ∧ Aside0 (Below w0.heap.size w0 wc))
  case first =>
    have H := HC4.out
    clear HC4
    by_cases c6 : a2 ≥ (s0_0.size : Int)
    · rw [if_pos c6] at H
      have c6b0 : decide ((s0_0.size : Int) ≤ a2) = true := decide_eq_true c6
      clear c6
      (first | rw [c6b0] | (simp only [i64_w, i32_w]; rw [c6b0]) | skip)
      have H' := Aside0.mk H
      clear H
      obtain ⟨ASz7_1, cSz7_1, HGz7, hgz7, HSz7_1⟩ := HI0.out
      have hcz7_0 := cellS100_0 HGz7
      have hcz7_1 := cellS100_1 HGz7
      have hcz7_2 := cellS100_2 HGz7
      have hfz7_0 := blk_frozen HGz7 0
      have hfz7_2 := blk_frozen HGz7 2
      clear HGz7 hgz7
      go_wp2
      repeat (go_quiet (fail); try go_wp2)
      go_meet
      case rel => exact ⟨_, (true), (by first | rfl | (simp; done) | (simp [*]; done)), H', ⟨by first | omega | exact Nat.le_refl _⟩, ⟨by (with_reducible repeat (first | refine blk_drewN ?_ _ | refine blk_drew ?_ | refine blk_alloc ?_ _)); exact BK174.out⟩, ⟨by repeat (first | (with_reducible first | exact HI0.out | apply IsS100.alloc | apply IsS100.drewN | apply IsS100.drew | apply IsS100.set_0 | apply IsS100.set_2 | refine IsS100.far ?_ NB0_174.out _) | exact HI0.out)⟩, ⟨by repeat (first | (with_reducible first | exact HK.out | apply KeepBut.set_ | apply keep_drewN | apply keep_drew | apply keep_alloc | refine keep_far ?_ GW174.out _) | exact HK.out)⟩, ⟨by repeat (first | (with_reducible first | exact HB.out | apply below_alloc | apply pw_below_drewN | apply below_drew1 | refine below_set ?_ (IsS100.ge HI0.out) | refine below_set ?_ GE174.out) | exact HB.out)⟩⟩
    · rw [if_neg c6] at H
      have c6b0 : decide ((s0_0.size : Int) ≤ a2) = false := decide_eq_false c6
      clear c6
      (first | rw [c6b0] | (simp only [i64_w, i32_w]; rw [c6b0]) | skip)
      by_cases c8 : 0 ≤ a2
      · rw [if_pos c8] at H
        have c8b0 : decide (0 ≤ a2) = true := decide_eq_true c8
        clear c8
        by_cases c9 : a2 < (s0_0.size : Int)
        · rw [if_pos c9] at H
          have c9b0 : decide (a2 < (s0_0.size : Int)) = true := decide_eq_true c9
          clear c9
          have H' := Aside0.mk H
          clear H
          obtain ⟨ASz11_1, cSz11_1, HGz11, hgz11, HSz11_1⟩ := HI0.out
          have hcz11_0 := cellS100_0 HGz11
          have hcz11_1 := cellS100_1 HGz11
          have hcz11_2 := cellS100_2 HGz11
          have hfz11_0 := blk_frozen HGz11 0
          have hfz11_2 := blk_frozen HGz11 2
          clear HGz11 hgz11
          have p10 : 0 ≤ (a2 : Int) := of_decide_eq_true (by first | (with_reducible assumption) | assumption)
          have q10 : a2 < (s0_0.size : Int) := of_decide_eq_true (by first | (with_reducible assumption) | assumption)
          have hx10 := bt_at s0_0 a2
          replace p10 := eq_true p10
          replace q10 := eq_true q10
          have hnb12 := NB174_0.out
          have hnc12 := NB0_174.out
          have hcz13_0 : w5.cell? ⟨gb174, 0, none⟩ = some (.int .i64 a1_0) := (blk_cell BK174.out 0).trans rfl
          have hcz13_1 : w5.cell? ⟨gb174, 1, none⟩ = some (.slice A1_1 l1_1.length c1_1) := (blk_cell BK174.out 1).trans rfl
          have hcz13_2 : w5.cell? ⟨gb174, 2, none⟩ = some (.int .u8 a1_2) := (blk_cell BK174.out 2).trans rfl
          have hcz13_3 : w5.cell? ⟨gb174, 3, none⟩ = some (.int .i64 a1_3) := (blk_cell BK174.out 3).trans rfl
          have hcz13_4 : w5.cell? ⟨gb174, 4, none⟩ = some (.int .u8 a1_4) := (blk_cell BK174.out 4).trans rfl
          have hcz13_5 : w5.cell? ⟨gb174, 5, none⟩ = some (.int .u8 a1_5) := (blk_cell BK174.out 5).trans rfl
          have hfz13_0 := blk_frozen BK174.out 0
          have hfz13_1 := blk_frozen BK174.out 1
          have hfz13_2 := blk_frozen BK174.out 2
          have hfz13_3 := blk_frozen BK174.out 3
          have hfz13_4 := blk_frozen BK174.out 4
          have hfz13_5 := blk_frozen BK174.out 5
          go_wp2
          repeat (go_quiet (fail); try go_wp2)
          go_meet
          case rel => exact ⟨_, (((bt s0_0 a2) != a1_4)), (by first | rfl | (simp; done) | (simp [*]; done)), H', ⟨by first | omega | exact Nat.le_refl _⟩, ⟨by (with_reducible repeat (first | refine blk_drewN ?_ _ | refine blk_drew ?_ | refine blk_alloc ?_ _)); exact BK174.out⟩, ⟨by repeat (first | (with_reducible first | exact HI0.out | apply IsS100.alloc | apply IsS100.drewN | apply IsS100.drew | apply IsS100.set_0 | apply IsS100.set_2 | refine IsS100.far ?_ NB0_174.out _) | exact HI0.out)⟩, ⟨by repeat (first | (with_reducible first | exact HK.out | apply KeepBut.set_ | apply keep_drewN | apply keep_drew | apply keep_alloc | refine keep_far ?_ GW174.out _) | exact HK.out)⟩, ⟨by repeat (first | (with_reducible first | exact HB.out | apply below_alloc | apply pw_below_drewN | apply below_drew1 | refine below_set ?_ (IsS100.ge HI0.out) | refine below_set ?_ GE174.out) | exact HB.out)⟩⟩
        · rw [if_neg c9] at H
          exact absurd H (by simp)
      · rw [if_neg c8] at H
        exact absurd H (by simp)
  case rest =>
    clear HC4
    try clear c1
    try clear p1
    try clear q1
    try clear hx1
    try clear p2
    try clear c5
    try clear c6
    try clear c6b0
    try clear c8
    try clear c8b0
    try clear c9
    try clear c9b0
    try clear p10
    try clear q10
    try clear hx10
    try clear c12
    try clear hcz11_0
    try clear hcz11_1
    try clear hcz11_2
    try clear hcz13_0
    try clear hcz13_1
    try clear hcz13_2
    try clear hcz13_3
    try clear hcz13_4
    try clear hcz13_5
    try clear hcz7_0
    try clear hcz7_1
    try clear hcz7_2
    try clear hfz11_0
    try clear hfz11_2
    try clear hfz13_0
    try clear hfz13_1
    try clear hfz13_2
    try clear hfz13_3
    try clear hfz13_4
    try clear hfz13_5
    try clear hfz7_0
    try clear hfz7_2
    try clear p10
    try clear q10
    obtain ⟨kq, x26_3, rfl, HA, HJ3, BK174, HI0, HK, HB⟩ := hcut
    cases kq with
    | zero => exact absurd HA.out (by simp [spec_ptMatcher_balanced.j0])
    | succ kj3 =>
      have H := HA.out
      clear HA
      simp only [spec_ptMatcher_balanced.j0] at H
      by_cases c14 : x26_3 = true
      · subst c14
        have H1 : (some ((-1), s0_0, s0_2)) = some (r1, r2, r3) := by rw [if_pos rfl] at H; exact H
        clear H
        have H := H1
        clear H1
        simp only [Option.some.injEq, Prod.mk.injEq] at H
        obtain ⟨rfl, rfl, rfl⟩ := H
        go_wp2
        repeat (go_quiet (fail); try go_wp2)
        go_ret
        exact ⟨by first | rfl | (simp [errW_none, errW_some] <;> rfl) | (simp [*, errW_none, errW_some] <;> rfl), by repeat (first | (with_reducible first | exact HI0.out | apply IsS100.alloc | apply IsS100.drewN | apply IsS100.drew | apply IsS100.set_0 | apply IsS100.set_2 | refine IsS100.far ?_ NB0_174.out _) | exact HI0.out), by repeat (first | (with_reducible first | exact HB.out | apply below_alloc | apply pw_below_drewN | apply below_drew1 | refine below_set ?_ (IsS100.ge HI0.out) | refine below_set ?_ GE174.out) | exact HB.out), by repeat (first | (with_reducible first | exact HK.out | apply KeepBut.set_ | apply keep_drewN | apply keep_drew | apply keep_alloc | refine keep_far ?_ GW174.out _) | exact HK.out)⟩
      · replace c14 := Bool.eq_false_iff.mpr c14
        subst c14
        have H1 : (spec_ptMatcher_balanced.l0 kj3 0 a2 s0_0 s0_1 s0_2 a1_0 l1_1 a1_2 a1_3 a1_4 a1_5) = some (r1, r2, r3) := by rw [if_neg (show ¬ (false = true) by decide)] at H; exact H
        clear H
        have H := H1
        clear H1
        have H' := Aside0.mk H
        clear H
        go_wp2
        repeat (go_quiet (fail); try go_wp2)
        go_loopg [7, 8] kj3 (fun kq v7 v8 w' => ∃ (x7_2 : Int) (x8_2 : Int), v7 = .int .i64 x7_2 ∧ v8 = .int .i64 x8_2 ∧ Aside0 (spec_ptMatcher_balanced.l0 kq x7_2 x8_2 s0_0 s0_1 s0_2 a1_0 l1_1 a1_2 a1_3 a1_4 a1_5 = some (r1, r2, r3)) ∧ Aside0 (kq ≤ kj3) ∧ Aside0 (w'.heap[gb174]? = some (.cells #[.int .i64 a1_0, (.slice A1_1 l1_1.length c1_1), .int .u8 a1_2, .int .i64 a1_3, .int .u8 a1_4, .int .u8 a1_5] 147 (0, 0))) ∧ Aside0 (IsS100 w0 w' g s0_0 s0_1 s0_2) ∧ Aside0 (KeepBut w w' g none) ∧ Aside0 (Below w0.heap.size w0 w'))
        case atStart => exact ⟨(0), (a2), (by first | rfl | (simp; done) | (simp [*]; done)), (by first | rfl | (simp; done) | (simp [*]; done)), H', ⟨Nat.le_refl _⟩, ⟨by (with_reducible repeat (first | refine blk_drewN ?_ _ | refine blk_drew ?_ | refine blk_alloc ?_ _)); exact BK174.out⟩, ⟨by repeat (first | (with_reducible first | exact HI0.out | apply IsS100.alloc | apply IsS100.drewN | apply IsS100.drew | apply IsS100.set_0 | apply IsS100.set_2 | refine IsS100.far ?_ NB0_174.out _) | exact HI0.out)⟩, ⟨by repeat (first | (with_reducible first | exact HK.out | apply KeepBut.set_ | apply keep_drewN | apply keep_drew | apply keep_alloc | refine keep_far ?_ GW174.out _) | exact HK.out)⟩, ⟨by repeat (first | (with_reducible first | exact HB.out | apply below_alloc | apply pw_below_drewN | apply below_drew1 | refine below_set ?_ (IsS100.ge HI0.out) | refine below_set ?_ GE174.out) | exact HB.out)⟩⟩
        case round =>
          clear H'
          try clear c1
          try clear p1
          try clear q1
          try clear hx1
          try clear p2
          try clear c5
          try clear c6
          try clear c6b0
          try clear c8
          try clear c8b0
          try clear c9
          try clear c9b0
          try clear p10
          try clear q10
          try clear hx10
          try clear c12
          try clear c14
          try clear hcz11_0
          try clear hcz11_1
          try clear hcz11_2
          try clear hcz13_0
          try clear hcz13_1
          try clear hcz13_2
          try clear hcz13_3
          try clear hcz13_4
          try clear hcz13_5
          try clear hcz7_0
          try clear hcz7_1
          try clear hcz7_2
          try clear hfz11_0
          try clear hfz11_2
          try clear hfz13_0
          try clear hfz13_1
          try clear hfz13_2
          try clear hfz13_3
          try clear hfz13_4
          try clear hfz13_5
          try clear hfz7_0
          try clear hfz7_2
          try clear p1
          try clear p10
          try clear p2
          try clear q1
          try clear q10
          obtain ⟨x7_2, x8_2, rfl, rfl, HA, HK2, BK174, HI0, HK, HB⟩ := hrel
          cases gk with
          | zero => exact absurd HA.out (by simp [spec_ptMatcher_balanced.l0])
          | succ k2 =>
            have H := HA.out
            clear HA
            simp only [spec_ptMatcher_balanced.l0] at H
            by_cases c15 : x8_2 < (s0_0.size : Int)
            · rw [if_pos c15] at H
              have c15b0 : decide (x8_2 < (s0_0.size : Int)) = true := decide_eq_true c15
              clear c15
              by_cases c16 : 0 ≤ x8_2
              · rw [if_pos c16] at H
                have c16b0 : decide (0 ≤ x8_2) = true := decide_eq_true c16
                clear c16
                by_cases c18 : (bt s0_0 x8_2) = a1_4
                · rw [if_pos c18] at H
                  have c18b0 : ((bt s0_0 x8_2) == a1_4) = true := beq_iff_eq.mpr c18
                  have c18b1 : ((bt s0_0 x8_2) != a1_4) = false := bne_eq_false_iff_eq.mpr c18
                  clear c18
                  by_cases c19 : (wrap64 (x7_2 + 1)) = 0
                  · rw [if_pos c19] at H
                    have c19b0 : ((wrap64 (x7_2 + 1)) == 0) = true := beq_iff_eq.mpr c19
                    have c19b1 : ((wrap64 (x7_2 + 1)) != 0) = false := bne_eq_false_iff_eq.mpr c19
                    clear c19
                    simp only [Option.some.injEq, Prod.mk.injEq] at H
                    obtain ⟨rfl, rfl, rfl⟩ := H
                    obtain ⟨ASz20_1, cSz20_1, HGz20, hgz20, HSz20_1⟩ := HI0.out
                    have hcz20_0 := cellS100_0 HGz20
                    have hcz20_1 := cellS100_1 HGz20
                    have hcz20_2 := cellS100_2 HGz20
                    have hfz20_0 := blk_frozen HGz20 0
                    have hfz20_2 := blk_frozen HGz20 2
                    clear HGz20 hgz20
                    have p17 : 0 ≤ (x8_2 : Int) := of_decide_eq_true (by first | (with_reducible assumption) | assumption)
                    have q17 : x8_2 < (s0_0.size : Int) := of_decide_eq_true (by first | (with_reducible assumption) | assumption)
                    have hx17 := bt_at s0_0 x8_2
                    replace p17 := eq_true p17
                    replace q17 := eq_true q17
                    have hnb21 := NB174_0.out
                    have hnc21 := NB0_174.out
                    have hcz22_0 : wr.cell? ⟨gb174, 0, none⟩ = some (.int .i64 a1_0) := (blk_cell BK174.out 0).trans rfl
                    have hcz22_1 : wr.cell? ⟨gb174, 1, none⟩ = some (.slice A1_1 l1_1.length c1_1) := (blk_cell BK174.out 1).trans rfl
                    have hcz22_2 : wr.cell? ⟨gb174, 2, none⟩ = some (.int .u8 a1_2) := (blk_cell BK174.out 2).trans rfl
                    have hcz22_3 : wr.cell? ⟨gb174, 3, none⟩ = some (.int .i64 a1_3) := (blk_cell BK174.out 3).trans rfl
                    have hcz22_4 : wr.cell? ⟨gb174, 4, none⟩ = some (.int .u8 a1_4) := (blk_cell BK174.out 4).trans rfl
                    have hcz22_5 : wr.cell? ⟨gb174, 5, none⟩ = some (.int .u8 a1_5) := (blk_cell BK174.out 5).trans rfl
                    have hfz22_0 := blk_frozen BK174.out 0
                    have hfz22_1 := blk_frozen BK174.out 1
                    have hfz22_2 := blk_frozen BK174.out 2
                    have hfz22_3 := blk_frozen BK174.out 3
                    have hfz22_4 := blk_frozen BK174.out 4
                    have hfz22_5 := blk_frozen BK174.out 5
                    go_wp2
                    repeat (go_quiet (fail); try go_wp2)
                    go_ret
                    exact ⟨by first | rfl | (simp [errW_none, errW_some] <;> rfl) | (simp [*, errW_none, errW_some] <;> rfl), by repeat (first | (with_reducible first | exact HI0.out | apply IsS100.alloc | apply IsS100.drewN | apply IsS100.drew | apply IsS100.set_0 | apply IsS100.set_2 | refine IsS100.far ?_ NB0_174.out _) | exact HI0.out), by repeat (first | (with_reducible first | exact HB.out | apply below_alloc | apply pw_below_drewN | apply below_drew1 | refine below_set ?_ (IsS100.ge HI0.out) | refine below_set ?_ GE174.out) | exact HB.out), by repeat (first | (with_reducible first | exact HK.out | apply KeepBut.set_ | apply keep_drewN | apply keep_drew | apply keep_alloc | refine keep_far ?_ GW174.out _) | exact HK.out)⟩
                  · rw [if_neg c19] at H
                    have c19b0 : ((wrap64 (x7_2 + 1)) == 0) = false := beq_eq_false_iff_ne.mpr c19
                    have c19b1 : ((wrap64 (x7_2 + 1)) != 0) = true := bne_iff_ne.mpr c19
                    have H' := Aside0.mk H
                    clear H
                    obtain ⟨ASz23_1, cSz23_1, HGz23, hgz23, HSz23_1⟩ := HI0.out
                    have hcz23_0 := cellS100_0 HGz23
                    have hcz23_1 := cellS100_1 HGz23
                    have hcz23_2 := cellS100_2 HGz23
                    have hfz23_0 := blk_frozen HGz23 0
                    have hfz23_2 := blk_frozen HGz23 2
                    clear HGz23 hgz23
                    have p17 : 0 ≤ (x8_2 : Int) := of_decide_eq_true (by first | (with_reducible assumption) | assumption)
                    have q17 : x8_2 < (s0_0.size : Int) := of_decide_eq_true (by first | (with_reducible assumption) | assumption)
                    have hx17 := bt_at s0_0 x8_2
                    replace p17 := eq_true p17
                    replace q17 := eq_true q17
                    have hnb24 := NB174_0.out
                    have hnc24 := NB0_174.out
                    have hcz25_0 : wr.cell? ⟨gb174, 0, none⟩ = some (.int .i64 a1_0) := (blk_cell BK174.out 0).trans rfl
                    have hcz25_1 : wr.cell? ⟨gb174, 1, none⟩ = some (.slice A1_1 l1_1.length c1_1) := (blk_cell BK174.out 1).trans rfl
                    have hcz25_2 : wr.cell? ⟨gb174, 2, none⟩ = some (.int .u8 a1_2) := (blk_cell BK174.out 2).trans rfl
                    have hcz25_3 : wr.cell? ⟨gb174, 3, none⟩ = some (.int .i64 a1_3) := (blk_cell BK174.out 3).trans rfl
                    have hcz25_4 : wr.cell? ⟨gb174, 4, none⟩ = some (.int .u8 a1_4) := (blk_cell BK174.out 4).trans rfl
                    have hcz25_5 : wr.cell? ⟨gb174, 5, none⟩ = some (.int .u8 a1_5) := (blk_cell BK174.out 5).trans rfl
                    have hfz25_0 := blk_frozen BK174.out 0
                    have hfz25_1 := blk_frozen BK174.out 1
                    have hfz25_2 := blk_frozen BK174.out 2
                    have hfz25_3 := blk_frozen BK174.out 3
                    have hfz25_4 := blk_frozen BK174.out 4
                    have hfz25_5 := blk_frozen BK174.out 5
                    go_wp2
                    repeat (go_quiet (fail); try go_wp2)
                    go_roundg k2
                    case measure => have := HJ3.out; have := HK2.out; omega
                    case rel => exact ⟨(wrap64 (x7_2 + 1)), (wrap64 (x8_2 + 1)), (by first | rfl | (simp; done) | (simp [*]; done)), (by first | rfl | (simp; done) | (simp [*]; done)), H', ⟨by have := HJ3.out; have := HK2.out; omega⟩, ⟨by (with_reducible repeat (first | refine blk_drewN ?_ _ | refine blk_drew ?_ | refine blk_alloc ?_ _)); exact BK174.out⟩, ⟨by repeat (first | (with_reducible first | exact HI0.out | apply IsS100.alloc | apply IsS100.drewN | apply IsS100.drew | apply IsS100.set_0 | apply IsS100.set_2 | refine IsS100.far ?_ NB0_174.out _) | exact HI0.out)⟩, ⟨by repeat (first | (with_reducible first | exact HK.out | apply KeepBut.set_ | apply keep_drewN | apply keep_drew | apply keep_alloc | refine keep_far ?_ GW174.out _) | exact HK.out)⟩, ⟨by repeat (first | (with_reducible first | exact HB.out | apply below_alloc | apply pw_below_drewN | apply below_drew1 | refine below_set ?_ (IsS100.ge HI0.out) | refine below_set ?_ GE174.out) | exact HB.out)⟩⟩
                · rw [if_neg c18] at H
                  have c18b0 : ((bt s0_0 x8_2) == a1_4) = false := beq_eq_false_iff_ne.mpr c18
                  have c18b1 : ((bt s0_0 x8_2) != a1_4) = true := bne_iff_ne.mpr c18
                  by_cases c26 : (bt s0_0 x8_2) = a1_5
                  · rw [if_pos c26] at H
                    have c26b0 : ((bt s0_0 x8_2) == a1_5) = true := beq_iff_eq.mpr c26
                    have c26b1 : ((bt s0_0 x8_2) != a1_5) = false := bne_eq_false_iff_eq.mpr c26
                    clear c26
                    by_cases c27 : (wrap64 (x7_2 - 1)) = 0
                    · rw [if_pos c27] at H
                      have c27b0 : ((wrap64 (x7_2 - 1)) == 0) = true := beq_iff_eq.mpr c27
                      have c27b1 : ((wrap64 (x7_2 - 1)) != 0) = false := bne_eq_false_iff_eq.mpr c27
                      clear c27
                      simp only [Option.some.injEq, Prod.mk.injEq] at H
                      obtain ⟨rfl, rfl, rfl⟩ := H
                      obtain ⟨ASz28_1, cSz28_1, HGz28, hgz28, HSz28_1⟩ := HI0.out
                      have hcz28_0 := cellS100_0 HGz28
                      have hcz28_1 := cellS100_1 HGz28
                      have hcz28_2 := cellS100_2 HGz28
                      have hfz28_0 := blk_frozen HGz28 0
                      have hfz28_2 := blk_frozen HGz28 2
                      clear HGz28 hgz28
                      have p17 : 0 ≤ (x8_2 : Int) := of_decide_eq_true (by first | (with_reducible assumption) | assumption)
                      have q17 : x8_2 < (s0_0.size : Int) := of_decide_eq_true (by first | (with_reducible assumption) | assumption)
                      have hx17 := bt_at s0_0 x8_2
                      replace p17 := eq_true p17
                      replace q17 := eq_true q17
                      have hnb29 := NB174_0.out
                      have hnc29 := NB0_174.out
                      have hcz30_0 : wr.cell? ⟨gb174, 0, none⟩ = some (.int .i64 a1_0) := (blk_cell BK174.out 0).trans rfl
                      have hcz30_1 : wr.cell? ⟨gb174, 1, none⟩ = some (.slice A1_1 l1_1.length c1_1) := (blk_cell BK174.out 1).trans rfl
                      have hcz30_2 : wr.cell? ⟨gb174, 2, none⟩ = some (.int .u8 a1_2) := (blk_cell BK174.out 2).trans rfl
                      have hcz30_3 : wr.cell? ⟨gb174, 3, none⟩ = some (.int .i64 a1_3) := (blk_cell BK174.out 3).trans rfl
                      have hcz30_4 : wr.cell? ⟨gb174, 4, none⟩ = some (.int .u8 a1_4) := (blk_cell BK174.out 4).trans rfl
                      have hcz30_5 : wr.cell? ⟨gb174, 5, none⟩ = some (.int .u8 a1_5) := (blk_cell BK174.out 5).trans rfl
                      have hfz30_0 := blk_frozen BK174.out 0
                      have hfz30_1 := blk_frozen BK174.out 1
                      have hfz30_2 := blk_frozen BK174.out 2
                      have hfz30_3 := blk_frozen BK174.out 3
                      have hfz30_4 := blk_frozen BK174.out 4
                      have hfz30_5 := blk_frozen BK174.out 5
                      go_wp2
                      repeat (go_quiet (fail); try go_wp2)
                      go_ret
                      exact ⟨by first | rfl | (simp [errW_none, errW_some] <;> rfl) | (simp [*, errW_none, errW_some] <;> rfl), by repeat (first | (with_reducible first | exact HI0.out | apply IsS100.alloc | apply IsS100.drewN | apply IsS100.drew | apply IsS100.set_0 | apply IsS100.set_2 | refine IsS100.far ?_ NB0_174.out _) | exact HI0.out), by repeat (first | (with_reducible first | exact HB.out | apply below_alloc | apply pw_below_drewN | apply below_drew1 | refine below_set ?_ (IsS100.ge HI0.out) | refine below_set ?_ GE174.out) | exact HB.out), by repeat (first | (with_reducible first | exact HK.out | apply KeepBut.set_ | apply keep_drewN | apply keep_drew | apply keep_alloc | refine keep_far ?_ GW174.out _) | exact HK.out)⟩
                    · rw [if_neg c27] at H
                      have c27b0 : ((wrap64 (x7_2 - 1)) == 0) = false := beq_eq_false_iff_ne.mpr c27
                      have c27b1 : ((wrap64 (x7_2 - 1)) != 0) = true := bne_iff_ne.mpr c27
                      have H' := Aside0.mk H
                      clear H
                      obtain ⟨ASz31_1, cSz31_1, HGz31, hgz31, HSz31_1⟩ := HI0.out
                      have hcz31_0 := cellS100_0 HGz31
                      have hcz31_1 := cellS100_1 HGz31
                      have hcz31_2 := cellS100_2 HGz31
                      have hfz31_0 := blk_frozen HGz31 0
                      have hfz31_2 := blk_frozen HGz31 2
                      clear HGz31 hgz31
                      have p17 : 0 ≤ (x8_2 : Int) := of_decide_eq_true (by first | (with_reducible assumption) | assumption)
                      have q17 : x8_2 < (s0_0.size : Int) := of_decide_eq_true (by first | (with_reducible assumption) | assumption)
                      have hx17 := bt_at s0_0 x8_2
                      replace p17 := eq_true p17
                      replace q17 := eq_true q17
                      have hnb32 := NB174_0.out
                      have hnc32 := NB0_174.out
                      have hcz33_0 : wr.cell? ⟨gb174, 0, none⟩ = some (.int .i64 a1_0) := (blk_cell BK174.out 0).trans rfl
                      have hcz33_1 : wr.cell? ⟨gb174, 1, none⟩ = some (.slice A1_1 l1_1.length c1_1) := (blk_cell BK174.out 1).trans rfl
                      have hcz33_2 : wr.cell? ⟨gb174, 2, none⟩ = some (.int .u8 a1_2) := (blk_cell BK174.out 2).trans rfl
                      have hcz33_3 : wr.cell? ⟨gb174, 3, none⟩ = some (.int .i64 a1_3) := (blk_cell BK174.out 3).trans rfl
                      have hcz33_4 : wr.cell? ⟨gb174, 4, none⟩ = some (.int .u8 a1_4) := (blk_cell BK174.out 4).trans rfl
                      have hcz33_5 : wr.cell? ⟨gb174, 5, none⟩ = some (.int .u8 a1_5) := (blk_cell BK174.out 5).trans rfl
                      have hfz33_0 := blk_frozen BK174.out 0
                      have hfz33_1 := blk_frozen BK174.out 1
                      have hfz33_2 := blk_frozen BK174.out 2
                      have hfz33_3 := blk_frozen BK174.out 3
                      have hfz33_4 := blk_frozen BK174.out 4
                      have hfz33_5 := blk_frozen BK174.out 5
                      go_wp2
                      repeat (go_quiet (fail); try go_wp2)
                      go_roundg k2
                      case measure => have := HJ3.out; have := HK2.out; omega
                      case rel => exact ⟨(wrap64 (x7_2 - 1)), (wrap64 (x8_2 + 1)), (by first | rfl | (simp; done) | (simp [*]; done)), (by first | rfl | (simp; done) | (simp [*]; done)), H', ⟨by have := HJ3.out; have := HK2.out; omega⟩, ⟨by (with_reducible repeat (first | refine blk_drewN ?_ _ | refine blk_drew ?_ | refine blk_alloc ?_ _)); exact BK174.out⟩, ⟨by repeat (first | (with_reducible first | exact HI0.out | apply IsS100.alloc | apply IsS100.drewN | apply IsS100.drew | apply IsS100.set_0 | apply IsS100.set_2 | refine IsS100.far ?_ NB0_174.out _) | exact HI0.out)⟩, ⟨by repeat (first | (with_reducible first | exact HK.out | apply KeepBut.set_ | apply keep_drewN | apply keep_drew | apply keep_alloc | refine keep_far ?_ GW174.out _) | exact HK.out)⟩, ⟨by repeat (first | (with_reducible first | exact HB.out | apply below_alloc | apply pw_below_drewN | apply below_drew1 | refine below_set ?_ (IsS100.ge HI0.out) | refine below_set ?_ GE174.out) | exact HB.out)⟩⟩
                  · rw [if_neg c26] at H
                    have c26b0 : ((bt s0_0 x8_2) == a1_5) = false := beq_eq_false_iff_ne.mpr c26
                    have c26b1 : ((bt s0_0 x8_2) != a1_5) = true := bne_iff_ne.mpr c26
                    by_cases c34 : x7_2 = 0
                    · rw [if_pos c34] at H
                      have c34b0 : (x7_2 == 0) = true := beq_iff_eq.mpr c34
                      have c34b1 : (x7_2 != 0) = false := bne_eq_false_iff_eq.mpr c34
                      clear c34
                      simp only [Option.some.injEq, Prod.mk.injEq] at H
                      obtain ⟨rfl, rfl, rfl⟩ := H
                      obtain ⟨ASz35_1, cSz35_1, HGz35, hgz35, HSz35_1⟩ := HI0.out
                      have hcz35_0 := cellS100_0 HGz35
                      have hcz35_1 := cellS100_1 HGz35
                      have hcz35_2 := cellS100_2 HGz35
                      have hfz35_0 := blk_frozen HGz35 0
                      have hfz35_2 := blk_frozen HGz35 2
                      clear HGz35 hgz35
                      have p17 : 0 ≤ (x8_2 : Int) := of_decide_eq_true (by first | (with_reducible assumption) | assumption)
                      have q17 : x8_2 < (s0_0.size : Int) := of_decide_eq_true (by first | (with_reducible assumption) | assumption)
                      have hx17 := bt_at s0_0 x8_2
                      replace p17 := eq_true p17
                      replace q17 := eq_true q17
                      have hnb36 := NB174_0.out
                      have hnc36 := NB0_174.out
                      have hcz37_0 : wr.cell? ⟨gb174, 0, none⟩ = some (.int .i64 a1_0) := (blk_cell BK174.out 0).trans rfl
                      have hcz37_1 : wr.cell? ⟨gb174, 1, none⟩ = some (.slice A1_1 l1_1.length c1_1) := (blk_cell BK174.out 1).trans rfl
                      have hcz37_2 : wr.cell? ⟨gb174, 2, none⟩ = some (.int .u8 a1_2) := (blk_cell BK174.out 2).trans rfl
                      have hcz37_3 : wr.cell? ⟨gb174, 3, none⟩ = some (.int .i64 a1_3) := (blk_cell BK174.out 3).trans rfl
                      have hcz37_4 : wr.cell? ⟨gb174, 4, none⟩ = some (.int .u8 a1_4) := (blk_cell BK174.out 4).trans rfl
                      have hcz37_5 : wr.cell? ⟨gb174, 5, none⟩ = some (.int .u8 a1_5) := (blk_cell BK174.out 5).trans rfl
                      have hfz37_0 := blk_frozen BK174.out 0
                      have hfz37_1 := blk_frozen BK174.out 1
                      have hfz37_2 := blk_frozen BK174.out 2
                      have hfz37_3 := blk_frozen BK174.out 3
                      have hfz37_4 := blk_frozen BK174.out 4
                      have hfz37_5 := blk_frozen BK174.out 5
                      go_wp2
                      repeat (go_quiet (fail); try go_wp2)
                      go_ret
                      exact ⟨by first | rfl | (simp [errW_none, errW_some] <;> rfl) | (simp [*, errW_none, errW_some] <;> rfl), by repeat (first | (with_reducible first | exact HI0.out | apply IsS100.alloc | apply IsS100.drewN | apply IsS100.drew | apply IsS100.set_0 | apply IsS100.set_2 | refine IsS100.far ?_ NB0_174.out _) | exact HI0.out), by repeat (first | (with_reducible first | exact HB.out | apply below_alloc | apply pw_below_drewN | apply below_drew1 | refine below_set ?_ (IsS100.ge HI0.out) | refine below_set ?_ GE174.out) | exact HB.out), by repeat (first | (with_reducible first | exact HK.out | apply KeepBut.set_ | apply keep_drewN | apply keep_drew | apply keep_alloc | refine keep_far ?_ GW174.out _) | exact HK.out)⟩
                    · rw [if_neg c34] at H
                      have c34b0 : (x7_2 == 0) = false := beq_eq_false_iff_ne.mpr c34
                      have c34b1 : (x7_2 != 0) = true := bne_iff_ne.mpr c34
                      have H' := Aside0.mk H
                      clear H
                      obtain ⟨ASz38_1, cSz38_1, HGz38, hgz38, HSz38_1⟩ := HI0.out
                      have hcz38_0 := cellS100_0 HGz38
                      have hcz38_1 := cellS100_1 HGz38
                      have hcz38_2 := cellS100_2 HGz38
                      have hfz38_0 := blk_frozen HGz38 0
                      have hfz38_2 := blk_frozen HGz38 2
                      clear HGz38 hgz38
                      have p17 : 0 ≤ (x8_2 : Int) := of_decide_eq_true (by first | (with_reducible assumption) | assumption)
                      have q17 : x8_2 < (s0_0.size : Int) := of_decide_eq_true (by first | (with_reducible assumption) | assumption)
                      have hx17 := bt_at s0_0 x8_2
                      replace p17 := eq_true p17
                      replace q17 := eq_true q17
                      have hnb39 := NB174_0.out
                      have hnc39 := NB0_174.out
                      have hcz40_0 : wr.cell? ⟨gb174, 0, none⟩ = some (.int .i64 a1_0) := (blk_cell BK174.out 0).trans rfl
                      have hcz40_1 : wr.cell? ⟨gb174, 1, none⟩ = some (.slice A1_1 l1_1.length c1_1) := (blk_cell BK174.out 1).trans rfl
                      have hcz40_2 : wr.cell? ⟨gb174, 2, none⟩ = some (.int .u8 a1_2) := (blk_cell BK174.out 2).trans rfl
                      have hcz40_3 : wr.cell? ⟨gb174, 3, none⟩ = some (.int .i64 a1_3) := (blk_cell BK174.out 3).trans rfl
                      have hcz40_4 : wr.cell? ⟨gb174, 4, none⟩ = some (.int .u8 a1_4) := (blk_cell BK174.out 4).trans rfl
                      have hcz40_5 : wr.cell? ⟨gb174, 5, none⟩ = some (.int .u8 a1_5) := (blk_cell BK174.out 5).trans rfl
                      have hfz40_0 := blk_frozen BK174.out 0
                      have hfz40_1 := blk_frozen BK174.out 1
                      have hfz40_2 := blk_frozen BK174.out 2
                      have hfz40_3 := blk_frozen BK174.out 3
                      have hfz40_4 := blk_frozen BK174.out 4
                      have hfz40_5 := blk_frozen BK174.out 5
                      go_wp2
                      repeat (go_quiet (fail); try go_wp2)
                      go_roundg k2
                      case measure => have := HJ3.out; have := HK2.out; omega
                      case rel => exact ⟨(x7_2), (wrap64 (x8_2 + 1)), (by first | rfl | (simp; done) | (simp [*]; done)), (by first | rfl | (simp; done) | (simp [*]; done)), H', ⟨by have := HJ3.out; have := HK2.out; omega⟩, ⟨by (with_reducible repeat (first | refine blk_drewN ?_ _ | refine blk_drew ?_ | refine blk_alloc ?_ _)); exact BK174.out⟩, ⟨by repeat (first | (with_reducible first | exact HI0.out | apply IsS100.alloc | apply IsS100.drewN | apply IsS100.drew | apply IsS100.set_0 | apply IsS100.set_2 | refine IsS100.far ?_ NB0_174.out _) | exact HI0.out)⟩, ⟨by repeat (first | (with_reducible first | exact HK.out | apply KeepBut.set_ | apply keep_drewN | apply keep_drew | apply keep_alloc | refine keep_far ?_ GW174.out _) | exact HK.out)⟩, ⟨by repeat (first | (with_reducible first | exact HB.out | apply below_alloc | apply pw_below_drewN | apply below_drew1 | refine below_set ?_ (IsS100.ge HI0.out) | refine below_set ?_ GE174.out) | exact HB.out)⟩⟩
              · rw [if_neg c16] at H
                exact absurd H (by simp)
            · rw [if_neg c15] at H
              have c15b0 : decide (x8_2 < (s0_0.size : Int)) = false := decide_eq_false c15
              clear c15
              simp only [Option.some.injEq, Prod.mk.injEq] at H
              obtain ⟨rfl, rfl, rfl⟩ := H
              obtain ⟨ASz41_1, cSz41_1, HGz41, hgz41, HSz41_1⟩ := HI0.out
              have hcz41_0 := cellS100_0 HGz41
              have hcz41_1 := cellS100_1 HGz41
              have hcz41_2 := cellS100_2 HGz41
              have hfz41_0 := blk_frozen HGz41 0
              have hfz41_2 := blk_frozen HGz41 2
              clear HGz41 hgz41
              go_wp2
              repeat (go_quiet (fail); try go_wp2)
              go_ret
              exact ⟨by first | rfl | (simp [errW_none, errW_some] <;> rfl) | (simp [*, errW_none, errW_some] <;> rfl), by repeat (first | (with_reducible first | exact HI0.out | apply IsS100.alloc | apply IsS100.drewN | apply IsS100.drew | apply IsS100.set_0 | apply IsS100.set_2 | refine IsS100.far ?_ NB0_174.out _) | exact HI0.out), by repeat (first | (with_reducible first | exact HB.out | apply below_alloc | apply pw_below_drewN | apply below_drew1 | refine below_set ?_ (IsS100.ge HI0.out) | refine below_set ?_ GE174.out) | exact HB.out), by repeat (first | (with_reducible first | exact HK.out | apply KeepBut.set_ | apply keep_drewN | apply keep_drew | apply keep_alloc | refine keep_far ?_ GW174.out _) | exact HK.out)⟩

/-! ### spec_ptMatcher_has: function 60 -/
def spec_ptMatcher_has.f (s0_0 : ByteArray) (s0_1 : List (S147)) (s0_2 : Int) (a1_0 : Int) (l1_1 : List Bool) (a1_2 : Int) (a1_3 : Int) (a1_4 : Int) (a1_5 : Int) (a2 : Int) : Option (Bool × ByteArray × Int) := if a2 < (s0_0.size : Int) then (if 0 ≤ a2 then (if 0 ≤ (Go.bits .and .u8 (bt s0_0 a2) 127) then (if (Go.bits .and .u8 (bt s0_0 a2) 127) < (l1_1.length : Int) then (some (rdOf false l1_1 (Go.bits .and .u8 (bt s0_0 a2) 127), s0_0, s0_2)) else (none)) else (none)) else (none)) else (some (false, s0_0, s0_2))
set_option maxHeartbeats 8000000 in
set_option maxRecDepth 100000 in
theorem spec_ptMatcher_has.calls (g : Nat) (s0_0 : ByteArray) (s0_1 : List (S147)) (s0_2 : Int) (a1_0 : Int) (A1_1 : Option Addr) (c1_1 : Nat) (l1_1 : List Bool) (a1_2 : Int) (a1_3 : Int) (a1_4 : Int) (a1_5 : Int) (a2 : Int) (r1 : Bool) (r2 : ByteArray) (r3 : Int) (w0 w : World) (hI : IsS100 w0 w g s0_0 s0_1 s0_2) (hB : Below w0.heap.size w0 w) (hr1_1 : Kd.C Kd.bool w A1_1 l1_1.length l1_1) (hc1_1 : l1_1.length ≤ c1_1) (hf1_1 : ∀ ad, A1_1 = some ad → 0 < l1_1.length → ad.block ≠ g) (h : spec_ptMatcher_has.f s0_0 s0_1 s0_2 a1_0 l1_1 a1_2 a1_3 a1_4 a1_5 a2 = some (r1, r2, r3)) :
    Calls Tryf.prog 60 #[.pointer (some ⟨g, 0, none⟩), .agg #[.int .i64 a1_0, .slice A1_1 l1_1.length c1_1, .int .u8 a1_2, .int .i64 a1_3, .int .u8 a1_4, .int .u8 a1_5], .int .i64 a2] w fun e w' => e = .returned (.bool r1) ∧ IsS100 w0 w' g r2 s0_1 r3 ∧ Below w0.heap.size w0 w' ∧ KeepBut w w' g none := by
  have hu147 := Tryf.underlying147
  have HR1_1 := Aside0.mk hr1_1
  have HC1_1 := Aside0.mk hc1_1
  clear hr1_1 hc1_1
  have HI0 := Aside0.mk hI
  have HK := Aside0.mk (KeepBut.refl w g none)
  have HL := Aside0.mk hB.size
  clear hI
  have HW0 := Aside0.mk hB.size
  have HB := Aside0.mk hB
  clear hB
  have H : (if a2 < (s0_0.size : Int) then (if 0 ≤ a2 then (if 0 ≤ (Go.bits .and .u8 (bt s0_0 a2) 127) then (if (Go.bits .and .u8 (bt s0_0 a2) 127) < (l1_1.length : Int) then (some (rdOf false l1_1 (Go.bits .and .u8 (bt s0_0 a2) 127), s0_0, s0_2)) else (none)) else (none)) else (none)) else (some (false, s0_0, s0_2))) = some (r1, r2, r3) := h
  clear h
  by_cases c4 : a2 < (s0_0.size : Int)
  · rw [if_pos c4] at H
    have c4b0 : decide (a2 < (s0_0.size : Int)) = true := decide_eq_true c4
    clear c4
    by_cases c5 : 0 ≤ a2
    · rw [if_pos c5] at H
      have c5b0 : decide (0 ≤ a2) = true := decide_eq_true c5
      clear c5
      by_cases c7 : 0 ≤ (Go.bits .and .u8 (bt s0_0 a2) 127)
      · rw [if_pos c7] at H
        have c7b0 : decide (0 ≤ (Go.bits .and .u8 (bt s0_0 a2) 127)) = true := decide_eq_true c7
        clear c7
        by_cases c8 : (Go.bits .and .u8 (bt s0_0 a2) 127) < (l1_1.length : Int)
        · rw [if_pos c8] at H
          have c8b0 : decide ((Go.bits .and .u8 (bt s0_0 a2) 127) < (l1_1.length : Int)) = true := decide_eq_true c8
          clear c8
          simp only [Option.some.injEq, Prod.mk.injEq] at H
          obtain ⟨rfl, rfl, rfl⟩ := H
          go_enter Tryf.func60, Tryf.ntmps60
          go_wp2_with (first | ((with_reducible refine gate_dst (N := 4) rfl ?_); refine box_event ?hg (N := 4) ?hd (cs := #[.int .i64 a1_0, .slice A1_1 l1_1.length c1_1, .int .u8 a1_2, .int .i64 a1_3, .int .u8 a1_4, .int .u8 a1_5]) (t := 147) ?hr ?_; (case hd => rfl); (case hg => rfl); (case hr => first | (go_simp; done) | (go_simp; rfl)); intro gb175 hg w9 hbox hb; have n0_ := Aside0.mk (IsS100.below (by repeat (first | (with_reducible first | exact HI0.out | apply IsS100.alloc | apply IsS100.drewN | apply IsS100.drew | apply IsS100.set_0 | apply IsS100.set_2) | exact HI0.out)) hb); have n1_ := Aside0.mk (KeepBut.trans (by repeat (first | (with_reducible first | exact HK.out | apply KeepBut.set_ | apply keep_drewN | apply keep_drew | apply keep_alloc) | exact HK.out)) (KeepBut.of_below hb g none) (.inl rfl)); have n2_ := Aside0.mk (below_step (by repeat (first | (with_reducible first | exact HB.out | apply below_alloc | apply pw_below_drewN | apply below_drew1 | refine below_set ?_ (IsS100.ge HI0.out)) | exact HB.out)) hb); have n3_ := Aside0.mk (hbox); have n4_ := Aside0.mk ((by rw [hg]; exact (keep_size (w := w) (g := g) (row := none) (by repeat (first | (with_reducible first | exact HK.out | apply KeepBut.set_ | apply keep_drewN | apply keep_drew | apply keep_alloc) | exact HK.out))) : w.heap.size ≤ gb175)); have n5_ := Aside0.mk ((Nat.le_trans HW0.out (by rw [hg]; exact (keep_size (w := w) (g := g) (row := none) (by repeat (first | (with_reducible first | exact HK.out | apply KeepBut.set_ | apply keep_drewN | apply keep_drew | apply keep_alloc) | exact HK.out))) : w.heap.size ≤ gb175) : w0.heap.size ≤ gb175)); have n6_ := Aside0.mk ((by rw [hg]; exact Nat.ne_of_lt (IsS100.lt (show IsS100 w0 _ g s0_0 s0_1 s0_2 from by repeat (first | (with_reducible first | exact HI0.out | apply IsS100.alloc | apply IsS100.drewN | apply IsS100.drew | apply IsS100.set_0 | apply IsS100.set_2) | exact HI0.out))) : g ≠ gb175)); have n7_ := Aside0.mk ((by rw [hg]; exact Nat.ne_of_gt (IsS100.lt (show IsS100 w0 _ g s0_0 s0_1 s0_2 from by repeat (first | (with_reducible first | exact HI0.out | apply IsS100.alloc | apply IsS100.drewN | apply IsS100.drew | apply IsS100.set_0 | apply IsS100.set_2) | exact HI0.out))) : gb175 ≠ g)); clear HI0; clear HK; clear HB; have HI0 := n0_; have HK := n1_; have HB := n2_; have BK175 := n3_; have GW175 := n4_; have GE175 := n5_; have NB0_175 := n6_; have NB175_0 := n7_; clear n0_ n1_ n2_ n3_ n4_ n5_ n6_ n7_; clear hb hbox hg; obtain ⟨ASz10_1, cSz10_1, HGz10, hgz10, HSz10_1⟩ := HI0.out; have hcz10_0 := cellS100_0 HGz10; have hcz10_1 := cellS100_1 HGz10; have hcz10_2 := cellS100_2 HGz10; have hfz10_0 := blk_frozen HGz10 0; have hfz10_2 := blk_frozen HGz10 2; clear HGz10 hgz10; have hnb11 := NB175_0.out; have hnc11 := NB0_175.out; have hcz12_0 : w9.cell? ⟨gb175, 0, none⟩ = some (.int .i64 a1_0) := (blk_cell BK175.out 0).trans rfl; have hcz12_1 : w9.cell? ⟨gb175, 1, none⟩ = some (.slice A1_1 l1_1.length c1_1) := (blk_cell BK175.out 1).trans rfl; have hcz12_2 : w9.cell? ⟨gb175, 2, none⟩ = some (.int .u8 a1_2) := (blk_cell BK175.out 2).trans rfl; have hcz12_3 : w9.cell? ⟨gb175, 3, none⟩ = some (.int .i64 a1_3) := (blk_cell BK175.out 3).trans rfl; have hcz12_4 : w9.cell? ⟨gb175, 4, none⟩ = some (.int .u8 a1_4) := (blk_cell BK175.out 4).trans rfl; have hcz12_5 : w9.cell? ⟨gb175, 5, none⟩ = some (.int .u8 a1_5) := (blk_cell BK175.out 5).trans rfl; have hfz12_0 := blk_frozen BK175.out 0; have hfz12_1 := blk_frozen BK175.out 1; have hfz12_2 := blk_frozen BK175.out 2; have hfz12_3 := blk_frozen BK175.out 3; have hfz12_4 := blk_frozen BK175.out 4; have hfz12_5 := blk_frozen BK175.out 5; have p6 : 0 ≤ (a2 : Int) := of_decide_eq_true (by first | (with_reducible assumption) | assumption); have q6 : a2 < (s0_0.size : Int) := of_decide_eq_true (by first | (with_reducible assumption) | assumption); have hx6 := bt_at s0_0 a2; replace p6 := eq_true p6; replace q6 := eq_true q6; have p176 : 0 ≤ ((Go.bits .and .u8 (bt s0_0 a2) 127) : Int) := of_decide_eq_true (by first | (with_reducible assumption) | assumption); have q176 : (Go.bits .and .u8 (bt s0_0 a2) 127) < (l1_1.length : Int) := of_decide_eq_true (by first | (with_reducible assumption) | assumption); obtain ⟨ad176, e176, hx176_0⟩ := Kd.at_bool HR1_1.out (Go.bits .and .u8 (bt s0_0 a2) 127) p176 q176; cases e176; replace hx176_0 := keep_cell HK.out hx176_0 (by first | (rw [add_block]; exact hf1_1 _ rfl (by omega)) | exact hf1_1 _ rfl (by omega) | exact hf1_1 ad176 rfl (by omega)); replace p176 := eq_true p176; replace q176 := eq_true q176))
          repeat (go_quiet (first | ((with_reducible refine gate_dst (N := 4) rfl ?_); refine box_event ?hg (N := 4) ?hd (cs := #[.int .i64 a1_0, .slice A1_1 l1_1.length c1_1, .int .u8 a1_2, .int .i64 a1_3, .int .u8 a1_4, .int .u8 a1_5]) (t := 147) ?hr ?_; (case hd => rfl); (case hg => rfl); (case hr => first | (go_simp; done) | (go_simp; rfl)); intro gb175 hg w9 hbox hb; have n0_ := Aside0.mk (IsS100.below (by repeat (first | (with_reducible first | exact HI0.out | apply IsS100.alloc | apply IsS100.drewN | apply IsS100.drew | apply IsS100.set_0 | apply IsS100.set_2) | exact HI0.out)) hb); have n1_ := Aside0.mk (KeepBut.trans (by repeat (first | (with_reducible first | exact HK.out | apply KeepBut.set_ | apply keep_drewN | apply keep_drew | apply keep_alloc) | exact HK.out)) (KeepBut.of_below hb g none) (.inl rfl)); have n2_ := Aside0.mk (below_step (by repeat (first | (with_reducible first | exact HB.out | apply below_alloc | apply pw_below_drewN | apply below_drew1 | refine below_set ?_ (IsS100.ge HI0.out)) | exact HB.out)) hb); have n3_ := Aside0.mk (hbox); have n4_ := Aside0.mk ((by rw [hg]; exact (keep_size (w := w) (g := g) (row := none) (by repeat (first | (with_reducible first | exact HK.out | apply KeepBut.set_ | apply keep_drewN | apply keep_drew | apply keep_alloc) | exact HK.out))) : w.heap.size ≤ gb175)); have n5_ := Aside0.mk ((Nat.le_trans HW0.out (by rw [hg]; exact (keep_size (w := w) (g := g) (row := none) (by repeat (first | (with_reducible first | exact HK.out | apply KeepBut.set_ | apply keep_drewN | apply keep_drew | apply keep_alloc) | exact HK.out))) : w.heap.size ≤ gb175) : w0.heap.size ≤ gb175)); have n6_ := Aside0.mk ((by rw [hg]; exact Nat.ne_of_lt (IsS100.lt (show IsS100 w0 _ g s0_0 s0_1 s0_2 from by repeat (first | (with_reducible first | exact HI0.out | apply IsS100.alloc | apply IsS100.drewN | apply IsS100.drew | apply IsS100.set_0 | apply IsS100.set_2) | exact HI0.out))) : g ≠ gb175)); have n7_ := Aside0.mk ((by rw [hg]; exact Nat.ne_of_gt (IsS100.lt (show IsS100 w0 _ g s0_0 s0_1 s0_2 from by repeat (first | (with_reducible first | exact HI0.out | apply IsS100.alloc | apply IsS100.drewN | apply IsS100.drew | apply IsS100.set_0 | apply IsS100.set_2) | exact HI0.out))) : gb175 ≠ g)); clear HI0; clear HK; clear HB; have HI0 := n0_; have HK := n1_; have HB := n2_; have BK175 := n3_; have GW175 := n4_; have GE175 := n5_; have NB0_175 := n6_; have NB175_0 := n7_; clear n0_ n1_ n2_ n3_ n4_ n5_ n6_ n7_; clear hb hbox hg; obtain ⟨ASz10_1, cSz10_1, HGz10, hgz10, HSz10_1⟩ := HI0.out; have hcz10_0 := cellS100_0 HGz10; have hcz10_1 := cellS100_1 HGz10; have hcz10_2 := cellS100_2 HGz10; have hfz10_0 := blk_frozen HGz10 0; have hfz10_2 := blk_frozen HGz10 2; clear HGz10 hgz10; have hnb11 := NB175_0.out; have hnc11 := NB0_175.out; have hcz12_0 : w9.cell? ⟨gb175, 0, none⟩ = some (.int .i64 a1_0) := (blk_cell BK175.out 0).trans rfl; have hcz12_1 : w9.cell? ⟨gb175, 1, none⟩ = some (.slice A1_1 l1_1.length c1_1) := (blk_cell BK175.out 1).trans rfl; have hcz12_2 : w9.cell? ⟨gb175, 2, none⟩ = some (.int .u8 a1_2) := (blk_cell BK175.out 2).trans rfl; have hcz12_3 : w9.cell? ⟨gb175, 3, none⟩ = some (.int .i64 a1_3) := (blk_cell BK175.out 3).trans rfl; have hcz12_4 : w9.cell? ⟨gb175, 4, none⟩ = some (.int .u8 a1_4) := (blk_cell BK175.out 4).trans rfl; have hcz12_5 : w9.cell? ⟨gb175, 5, none⟩ = some (.int .u8 a1_5) := (blk_cell BK175.out 5).trans rfl; have hfz12_0 := blk_frozen BK175.out 0; have hfz12_1 := blk_frozen BK175.out 1; have hfz12_2 := blk_frozen BK175.out 2; have hfz12_3 := blk_frozen BK175.out 3; have hfz12_4 := blk_frozen BK175.out 4; have hfz12_5 := blk_frozen BK175.out 5; have p6 : 0 ≤ (a2 : Int) := of_decide_eq_true (by first | (with_reducible assumption) | assumption); have q6 : a2 < (s0_0.size : Int) := of_decide_eq_true (by first | (with_reducible assumption) | assumption); have hx6 := bt_at s0_0 a2; replace p6 := eq_true p6; replace q6 := eq_true q6; have p176 : 0 ≤ ((Go.bits .and .u8 (bt s0_0 a2) 127) : Int) := of_decide_eq_true (by first | (with_reducible assumption) | assumption); have q176 : (Go.bits .and .u8 (bt s0_0 a2) 127) < (l1_1.length : Int) := of_decide_eq_true (by first | (with_reducible assumption) | assumption); obtain ⟨ad176, e176, hx176_0⟩ := Kd.at_bool HR1_1.out (Go.bits .and .u8 (bt s0_0 a2) 127) p176 q176; cases e176; replace hx176_0 := keep_cell HK.out hx176_0 (by first | (rw [add_block]; exact hf1_1 _ rfl (by omega)) | exact hf1_1 _ rfl (by omega) | exact hf1_1 ad176 rfl (by omega)); replace p176 := eq_true p176; replace q176 := eq_true q176)); try go_wp2_with (first | ((with_reducible refine gate_dst (N := 4) rfl ?_); refine box_event ?hg (N := 4) ?hd (cs := #[.int .i64 a1_0, .slice A1_1 l1_1.length c1_1, .int .u8 a1_2, .int .i64 a1_3, .int .u8 a1_4, .int .u8 a1_5]) (t := 147) ?hr ?_; (case hd => rfl); (case hg => rfl); (case hr => first | (go_simp; done) | (go_simp; rfl)); intro gb175 hg w9 hbox hb; have n0_ := Aside0.mk (IsS100.below (by repeat (first | (with_reducible first | exact HI0.out | apply IsS100.alloc | apply IsS100.drewN | apply IsS100.drew | apply IsS100.set_0 | apply IsS100.set_2) | exact HI0.out)) hb); have n1_ := Aside0.mk (KeepBut.trans (by repeat (first | (with_reducible first | exact HK.out | apply KeepBut.set_ | apply keep_drewN | apply keep_drew | apply keep_alloc) | exact HK.out)) (KeepBut.of_below hb g none) (.inl rfl)); have n2_ := Aside0.mk (below_step (by repeat (first | (with_reducible first | exact HB.out | apply below_alloc | apply pw_below_drewN | apply below_drew1 | refine below_set ?_ (IsS100.ge HI0.out)) | exact HB.out)) hb); have n3_ := Aside0.mk (hbox); have n4_ := Aside0.mk ((by rw [hg]; exact (keep_size (w := w) (g := g) (row := none) (by repeat (first | (with_reducible first | exact HK.out | apply KeepBut.set_ | apply keep_drewN | apply keep_drew | apply keep_alloc) | exact HK.out))) : w.heap.size ≤ gb175)); have n5_ := Aside0.mk ((Nat.le_trans HW0.out (by rw [hg]; exact (keep_size (w := w) (g := g) (row := none) (by repeat (first | (with_reducible first | exact HK.out | apply KeepBut.set_ | apply keep_drewN | apply keep_drew | apply keep_alloc) | exact HK.out))) : w.heap.size ≤ gb175) : w0.heap.size ≤ gb175)); have n6_ := Aside0.mk ((by rw [hg]; exact Nat.ne_of_lt (IsS100.lt (show IsS100 w0 _ g s0_0 s0_1 s0_2 from by repeat (first | (with_reducible first | exact HI0.out | apply IsS100.alloc | apply IsS100.drewN | apply IsS100.drew | apply IsS100.set_0 | apply IsS100.set_2) | exact HI0.out))) : g ≠ gb175)); have n7_ := Aside0.mk ((by rw [hg]; exact Nat.ne_of_gt (IsS100.lt (show IsS100 w0 _ g s0_0 s0_1 s0_2 from by repeat (first | (with_reducible first | exact HI0.out | apply IsS100.alloc | apply IsS100.drewN | apply IsS100.drew | apply IsS100.set_0 | apply IsS100.set_2) | exact HI0.out))) : gb175 ≠ g)); clear HI0; clear HK; clear HB; have HI0 := n0_; have HK := n1_; have HB := n2_; have BK175 := n3_; have GW175 := n4_; have GE175 := n5_; have NB0_175 := n6_; have NB175_0 := n7_; clear n0_ n1_ n2_ n3_ n4_ n5_ n6_ n7_; clear hb hbox hg; obtain ⟨ASz10_1, cSz10_1, HGz10, hgz10, HSz10_1⟩ := HI0.out; have hcz10_0 := cellS100_0 HGz10; have hcz10_1 := cellS100_1 HGz10; have hcz10_2 := cellS100_2 HGz10; have hfz10_0 := blk_frozen HGz10 0; have hfz10_2 := blk_frozen HGz10 2; clear HGz10 hgz10; have hnb11 := NB175_0.out; have hnc11 := NB0_175.out; have hcz12_0 : w9.cell? ⟨gb175, 0, none⟩ = some (.int .i64 a1_0) := (blk_cell BK175.out 0).trans rfl; have hcz12_1 : w9.cell? ⟨gb175, 1, none⟩ = some (.slice A1_1 l1_1.length c1_1) := (blk_cell BK175.out 1).trans rfl; have hcz12_2 : w9.cell? ⟨gb175, 2, none⟩ = some (.int .u8 a1_2) := (blk_cell BK175.out 2).trans rfl; have hcz12_3 : w9.cell? ⟨gb175, 3, none⟩ = some (.int .i64 a1_3) := (blk_cell BK175.out 3).trans rfl; have hcz12_4 : w9.cell? ⟨gb175, 4, none⟩ = some (.int .u8 a1_4) := (blk_cell BK175.out 4).trans rfl; have hcz12_5 : w9.cell? ⟨gb175, 5, none⟩ = some (.int .u8 a1_5) := (blk_cell BK175.out 5).trans rfl; have hfz12_0 := blk_frozen BK175.out 0; have hfz12_1 := blk_frozen BK175.out 1; have hfz12_2 := blk_frozen BK175.out 2; have hfz12_3 := blk_frozen BK175.out 3; have hfz12_4 := blk_frozen BK175.out 4; have hfz12_5 := blk_frozen BK175.out 5; have p6 : 0 ≤ (a2 : Int) := of_decide_eq_true (by first | (with_reducible assumption) | assumption); have q6 : a2 < (s0_0.size : Int) := of_decide_eq_true (by first | (with_reducible assumption) | assumption); have hx6 := bt_at s0_0 a2; replace p6 := eq_true p6; replace q6 := eq_true q6; have p176 : 0 ≤ ((Go.bits .and .u8 (bt s0_0 a2) 127) : Int) := of_decide_eq_true (by first | (with_reducible assumption) | assumption); have q176 : (Go.bits .and .u8 (bt s0_0 a2) 127) < (l1_1.length : Int) := of_decide_eq_true (by first | (with_reducible assumption) | assumption); obtain ⟨ad176, e176, hx176_0⟩ := Kd.at_bool HR1_1.out (Go.bits .and .u8 (bt s0_0 a2) 127) p176 q176; cases e176; replace hx176_0 := keep_cell HK.out hx176_0 (by first | (rw [add_block]; exact hf1_1 _ rfl (by omega)) | exact hf1_1 _ rfl (by omega) | exact hf1_1 ad176 rfl (by omega)); replace p176 := eq_true p176; replace q176 := eq_true q176)))
          go_ret
          exact ⟨by first | rfl | (simp [errW_none, errW_some] <;> rfl) | (simp [*, errW_none, errW_some] <;> rfl), by repeat (first | (with_reducible first | exact HI0.out | apply IsS100.alloc | apply IsS100.drewN | apply IsS100.drew | apply IsS100.set_0 | apply IsS100.set_2 | refine IsS100.far ?_ NB0_175.out _) | exact HI0.out), by repeat (first | (with_reducible first | exact HB.out | apply below_alloc | apply pw_below_drewN | apply below_drew1 | refine below_set ?_ (IsS100.ge HI0.out) | refine below_set ?_ GE175.out) | exact HB.out), by repeat (first | (with_reducible first | exact HK.out | apply KeepBut.set_ | apply keep_drewN | apply keep_drew | apply keep_alloc | refine keep_far ?_ GW175.out _) | exact HK.out)⟩
        · rw [if_neg c8] at H
          exact absurd H (by simp)
      · rw [if_neg c7] at H
        exact absurd H (by simp)
    · rw [if_neg c5] at H
      exact absurd H (by simp)
  · rw [if_neg c4] at H
    have c4b0 : decide (a2 < (s0_0.size : Int)) = false := decide_eq_false c4
    clear c4
    simp only [Option.some.injEq, Prod.mk.injEq] at H
    obtain ⟨rfl, rfl, rfl⟩ := H
    go_enter Tryf.func60, Tryf.ntmps60
    go_wp2_with (first | ((with_reducible refine gate_dst (N := 4) rfl ?_); refine box_event ?hg (N := 4) ?hd (cs := #[.int .i64 a1_0, .slice A1_1 l1_1.length c1_1, .int .u8 a1_2, .int .i64 a1_3, .int .u8 a1_4, .int .u8 a1_5]) (t := 147) ?hr ?_; (case hd => rfl); (case hg => rfl); (case hr => first | (go_simp; done) | (go_simp; rfl)); intro gb175 hg w13 hbox hb; have n0_ := Aside0.mk (IsS100.below (by repeat (first | (with_reducible first | exact HI0.out | apply IsS100.alloc | apply IsS100.drewN | apply IsS100.drew | apply IsS100.set_0 | apply IsS100.set_2) | exact HI0.out)) hb); have n1_ := Aside0.mk (KeepBut.trans (by repeat (first | (with_reducible first | exact HK.out | apply KeepBut.set_ | apply keep_drewN | apply keep_drew | apply keep_alloc) | exact HK.out)) (KeepBut.of_below hb g none) (.inl rfl)); have n2_ := Aside0.mk (below_step (by repeat (first | (with_reducible first | exact HB.out | apply below_alloc | apply pw_below_drewN | apply below_drew1 | refine below_set ?_ (IsS100.ge HI0.out)) | exact HB.out)) hb); have n3_ := Aside0.mk (hbox); have n4_ := Aside0.mk ((by rw [hg]; exact (keep_size (w := w) (g := g) (row := none) (by repeat (first | (with_reducible first | exact HK.out | apply KeepBut.set_ | apply keep_drewN | apply keep_drew | apply keep_alloc) | exact HK.out))) : w.heap.size ≤ gb175)); have n5_ := Aside0.mk ((Nat.le_trans HW0.out (by rw [hg]; exact (keep_size (w := w) (g := g) (row := none) (by repeat (first | (with_reducible first | exact HK.out | apply KeepBut.set_ | apply keep_drewN | apply keep_drew | apply keep_alloc) | exact HK.out))) : w.heap.size ≤ gb175) : w0.heap.size ≤ gb175)); have n6_ := Aside0.mk ((by rw [hg]; exact Nat.ne_of_lt (IsS100.lt (show IsS100 w0 _ g s0_0 s0_1 s0_2 from by repeat (first | (with_reducible first | exact HI0.out | apply IsS100.alloc | apply IsS100.drewN | apply IsS100.drew | apply IsS100.set_0 | apply IsS100.set_2) | exact HI0.out))) : g ≠ gb175)); have n7_ := Aside0.mk ((by rw [hg]; exact Nat.ne_of_gt (IsS100.lt (show IsS100 w0 _ g s0_0 s0_1 s0_2 from by repeat (first | (with_reducible first | exact HI0.out | apply IsS100.alloc | apply IsS100.drewN | apply IsS100.drew | apply IsS100.set_0 | apply IsS100.set_2) | exact HI0.out))) : gb175 ≠ g)); clear HI0; clear HK; clear HB; have HI0 := n0_; have HK := n1_; have HB := n2_; have BK175 := n3_; have GW175 := n4_; have GE175 := n5_; have NB0_175 := n6_; have NB175_0 := n7_; clear n0_ n1_ n2_ n3_ n4_ n5_ n6_ n7_; clear hb hbox hg; obtain ⟨ASz14_1, cSz14_1, HGz14, hgz14, HSz14_1⟩ := HI0.out; have hcz14_0 := cellS100_0 HGz14; have hcz14_1 := cellS100_1 HGz14; have hcz14_2 := cellS100_2 HGz14; have hfz14_0 := blk_frozen HGz14 0; have hfz14_2 := blk_frozen HGz14 2; clear HGz14 hgz14))
    repeat (go_quiet (first | ((with_reducible refine gate_dst (N := 4) rfl ?_); refine box_event ?hg (N := 4) ?hd (cs := #[.int .i64 a1_0, .slice A1_1 l1_1.length c1_1, .int .u8 a1_2, .int .i64 a1_3, .int .u8 a1_4, .int .u8 a1_5]) (t := 147) ?hr ?_; (case hd => rfl); (case hg => rfl); (case hr => first | (go_simp; done) | (go_simp; rfl)); intro gb175 hg w13 hbox hb; have n0_ := Aside0.mk (IsS100.below (by repeat (first | (with_reducible first | exact HI0.out | apply IsS100.alloc | apply IsS100.drewN | apply IsS100.drew | apply IsS100.set_0 | apply IsS100.set_2) | exact HI0.out)) hb); have n1_ := Aside0.mk (KeepBut.trans (by repeat (first | (with_reducible first | exact HK.out | apply KeepBut.set_ | apply keep_drewN | apply keep_drew | apply keep_alloc) | exact HK.out)) (KeepBut.of_below hb g none) (.inl rfl)); have n2_ := Aside0.mk (below_step (by repeat (first | (with_reducible first | exact HB.out | apply below_alloc | apply pw_below_drewN | apply below_drew1 | refine below_set ?_ (IsS100.ge HI0.out)) | exact HB.out)) hb); have n3_ := Aside0.mk (hbox); have n4_ := Aside0.mk ((by rw [hg]; exact (keep_size (w := w) (g := g) (row := none) (by repeat (first | (with_reducible first | exact HK.out | apply KeepBut.set_ | apply keep_drewN | apply keep_drew | apply keep_alloc) | exact HK.out))) : w.heap.size ≤ gb175)); have n5_ := Aside0.mk ((Nat.le_trans HW0.out (by rw [hg]; exact (keep_size (w := w) (g := g) (row := none) (by repeat (first | (with_reducible first | exact HK.out | apply KeepBut.set_ | apply keep_drewN | apply keep_drew | apply keep_alloc) | exact HK.out))) : w.heap.size ≤ gb175) : w0.heap.size ≤ gb175)); have n6_ := Aside0.mk ((by rw [hg]; exact Nat.ne_of_lt (IsS100.lt (show IsS100 w0 _ g s0_0 s0_1 s0_2 from by repeat (first | (with_reducible first | exact HI0.out | apply IsS100.alloc | apply IsS100.drewN | apply IsS100.drew | apply IsS100.set_0 | apply IsS100.set_2) | exact HI0.out))) : g ≠ gb175)); have n7_ := Aside0.mk ((by rw [hg]; exact Nat.ne_of_gt (IsS100.lt (show IsS100 w0 _ g s0_0 s0_1 s0_2 from by repeat (first | (with_reducible first | exact HI0.out | apply IsS100.alloc | apply IsS100.drewN | apply IsS100.drew | apply IsS100.set_0 | apply IsS100.set_2) | exact HI0.out))) : gb175 ≠ g)); clear HI0; clear HK; clear HB; have HI0 := n0_; have HK := n1_; have HB := n2_; have BK175 := n3_; have GW175 := n4_; have GE175 := n5_; have NB0_175 := n6_; have NB175_0 := n7_; clear n0_ n1_ n2_ n3_ n4_ n5_ n6_ n7_; clear hb hbox hg; obtain ⟨ASz14_1, cSz14_1, HGz14, hgz14, HSz14_1⟩ := HI0.out; have hcz14_0 := cellS100_0 HGz14; have hcz14_1 := cellS100_1 HGz14; have hcz14_2 := cellS100_2 HGz14; have hfz14_0 := blk_frozen HGz14 0; have hfz14_2 := blk_frozen HGz14 2; clear HGz14 hgz14)); try go_wp2_with (first | ((with_reducible refine gate_dst (N := 4) rfl ?_); refine box_event ?hg (N := 4) ?hd (cs := #[.int .i64 a1_0, .slice A1_1 l1_1.length c1_1, .int .u8 a1_2, .int .i64 a1_3, .int .u8 a1_4, .int .u8 a1_5]) (t := 147) ?hr ?_; (case hd => rfl); (case hg => rfl); (case hr => first | (go_simp; done) | (go_simp; rfl)); intro gb175 hg w13 hbox hb; have n0_ := Aside0.mk (IsS100.below (by repeat (first | (with_reducible first | exact HI0.out | apply IsS100.alloc | apply IsS100.drewN | apply IsS100.drew | apply IsS100.set_0 | apply IsS100.set_2) | exact HI0.out)) hb); have n1_ := Aside0.mk (KeepBut.trans (by repeat (first | (with_reducible first | exact HK.out | apply KeepBut.set_ | apply keep_drewN | apply keep_drew | apply keep_alloc) | exact HK.out)) (KeepBut.of_below hb g none) (.inl rfl)); have n2_ := Aside0.mk (below_step (by repeat (first | (with_reducible first | exact HB.out | apply below_alloc | apply pw_below_drewN | apply below_drew1 | refine below_set ?_ (IsS100.ge HI0.out)) | exact HB.out)) hb); have n3_ := Aside0.mk (hbox); have n4_ := Aside0.mk ((by rw [hg]; exact (keep_size (w := w) (g := g) (row := none) (by repeat (first | (with_reducible first | exact HK.out | apply KeepBut.set_ | apply keep_drewN | apply keep_drew | apply keep_alloc) | exact HK.out))) : w.heap.size ≤ gb175)); have n5_ := Aside0.mk ((Nat.le_trans HW0.out (by rw [hg]; exact (keep_size (w := w) (g := g) (row := none) (by repeat (first | (with_reducible first | exact HK.out | apply KeepBut.set_ | apply keep_drewN | apply keep_drew | apply keep_alloc) | exact HK.out))) : w.heap.size ≤ gb175) : w0.heap.size ≤ gb175)); have n6_ := Aside0.mk ((by rw [hg]; exact Nat.ne_of_lt (IsS100.lt (show IsS100 w0 _ g s0_0 s0_1 s0_2 from by repeat (first | (with_reducible first | exact HI0.out | apply IsS100.alloc | apply IsS100.drewN | apply IsS100.drew | apply IsS100.set_0 | apply IsS100.set_2) | exact HI0.out))) : g ≠ gb175)); have n7_ := Aside0.mk ((by rw [hg]; exact Nat.ne_of_gt (IsS100.lt (show IsS100 w0 _ g s0_0 s0_1 s0_2 from by repeat (first | (with_reducible first | exact HI0.out | apply IsS100.alloc | apply IsS100.drewN | apply IsS100.drew | apply IsS100.set_0 | apply IsS100.set_2) | exact HI0.out))) : gb175 ≠ g)); clear HI0; clear HK; clear HB; have HI0 := n0_; have HK := n1_; have HB := n2_; have BK175 := n3_; have GW175 := n4_; have GE175 := n5_; have NB0_175 := n6_; have NB175_0 := n7_; clear n0_ n1_ n2_ n3_ n4_ n5_ n6_ n7_; clear hb hbox hg; obtain ⟨ASz14_1, cSz14_1, HGz14, hgz14, HSz14_1⟩ := HI0.out; have hcz14_0 := cellS100_0 HGz14; have hcz14_1 := cellS100_1 HGz14; have hcz14_2 := cellS100_2 HGz14; have hfz14_0 := blk_frozen HGz14 0; have hfz14_2 := blk_frozen HGz14 2; clear HGz14 hgz14)))
    go_ret
    exact ⟨by first | rfl | (simp [errW_none, errW_some] <;> rfl) | (simp [*, errW_none, errW_some] <;> rfl), by repeat (first | (with_reducible first | exact HI0.out | apply IsS100.alloc | apply IsS100.drewN | apply IsS100.drew | apply IsS100.set_0 | apply IsS100.set_2 | refine IsS100.far ?_ NB0_175.out _) | exact HI0.out), by repeat (first | (with_reducible first | exact HB.out | apply below_alloc | apply pw_below_drewN | apply below_drew1 | refine below_set ?_ (IsS100.ge HI0.out) | refine below_set ?_ GE175.out) | exact HB.out), by repeat (first | (with_reducible first | exact HK.out | apply KeepBut.set_ | apply keep_drewN | apply keep_drew | apply keep_alloc | refine keep_far ?_ GW175.out _) | exact HK.out)⟩

-- NOT PRINTED: function 52 (spec_ptMatcher_repeated)

-- NOT PRINTED: function 31 (spec_ptMatcher_match)

-- NOT PRINTED: function 24 (spec_ptFind)

-- NOT PRINTED: function 11 (spec_FirstMatch)

end Go.Proofs.YtpjfjfloeejgiaaFmt.PFnPatternFirst
/- Contracts of leaf functions of package spec, in the form in which print.sh has written them for this claim (turned: cut to the functions that build). -/
namespace Go.Proofs.YtpjfjfloeejgiaaFmt.PFnPatternFirst
open Go.RowKit Go.Proofs.YtpjfjfloeejgiaaFmtW.PrintWords Go.Proofs.YtpjfjfloeejgiaaFmtW.PrintLast Go.Proofs.YtpjfjfloeejgiaaFmtW.PrintMore
attribute [local go_sem] max2_int min2_int max_two min_two max_three min_three max_four min_four   -- for this text's walks alone
set_option linter.unusedVariables false
set_option linter.unusedSimpArgs false

/-! ### spec_ptInClass: function 62 -/
def spec_ptInClass.j0 : Nat → Int → Int → Bool → Bool → Bool → Option (Bool × Bool)
  | 0, _, _, _, _, _ => none
  | k + 1, x0, x1, x6, x7, x8 => if x0 = 97 then (if x6 = true then (some (true, true)) else (some (x7, true))) else (if x0 = 99 then (if x1 < 32 then (some (true, true)) else (some ((x1 == 127), true))) else (if x0 = 100 then ((spec_lxIsDigit.f x1).bind fun t129 => (some (t129, true))) else (if x0 = 108 then (some (x6, true)) else (if x0 = 112 then (if x8 = true then (if x6 = true then (some (false, true)) else (if x7 = true then (some (false, true)) else ((spec_lxIsDigit.f x1).bind fun t130 => (some (!t130, true))))) else (some (false, true))) else (if x0 = 115 then (if x1 = 32 then (some (true, true)) else (if x1 ≥ 9 then (some (decide (x1 ≤ 13), true)) else (some (false, true)))) else (if x0 = 117 then (some (x7, true)) else (if x0 = 119 then (if x6 = true then (some (true, true)) else (if x7 = true then (some (true, true)) else ((spec_lxIsDigit.f x1).bind fun t131 => (some (t131, true))))) else (if x0 = 120 then ((spec_lxHex.f k x1).bind fun t132 => (some (decide (t132 ≥ 0), true))) else (if x0 = 122 then (some ((x1 == 0), true)) else (some (false, false)))))))))))
def spec_ptInClass.f (k : Nat) (a0 : Int) (a1 : Int) : Option (Bool × Bool) := if a1 ≥ 97 then (if a1 ≥ 65 then (if a1 > 32 then (spec_ptInClass.j0 k a0 a1 (decide (a1 ≤ 122)) (decide (a1 ≤ 90)) (decide (a1 < 127))) else (spec_ptInClass.j0 k a0 a1 (decide (a1 ≤ 122)) (decide (a1 ≤ 90)) false)) else (if a1 > 32 then (spec_ptInClass.j0 k a0 a1 (decide (a1 ≤ 122)) false (decide (a1 < 127))) else (spec_ptInClass.j0 k a0 a1 (decide (a1 ≤ 122)) false false))) else (if a1 ≥ 65 then (if a1 > 32 then (spec_ptInClass.j0 k a0 a1 false (decide (a1 ≤ 90)) (decide (a1 < 127))) else (spec_ptInClass.j0 k a0 a1 false (decide (a1 ≤ 90)) false)) else (if a1 > 32 then (spec_ptInClass.j0 k a0 a1 false false (decide (a1 < 127))) else (spec_ptInClass.j0 k a0 a1 false false false)))
set_option maxHeartbeats 8000000 in
set_option maxRecDepth 100000 in
theorem spec_ptInClass.calls (k : Nat) (a0 : Int) (a1 : Int) (r1 : Bool) (r2 : Bool) (w : World) (h : spec_ptInClass.f k a0 a1 = some (r1, r2)) :
    Calls Tryf.prog 62 #[.int .u8 a0, .int .u8 a1] w fun e w' => e = .returned (.tuple #[.bool r1, .bool r2]) ∧ Drawn0 w w' := by
  have H : (if a1 ≥ 97 then (if a1 ≥ 65 then (if a1 > 32 then (spec_ptInClass.j0 k a0 a1 (decide (a1 ≤ 122)) (decide (a1 ≤ 90)) (decide (a1 < 127))) else (spec_ptInClass.j0 k a0 a1 (decide (a1 ≤ 122)) (decide (a1 ≤ 90)) false)) else (if a1 > 32 then (spec_ptInClass.j0 k a0 a1 (decide (a1 ≤ 122)) false (decide (a1 < 127))) else (spec_ptInClass.j0 k a0 a1 (decide (a1 ≤ 122)) false false))) else (if a1 ≥ 65 then (if a1 > 32 then (spec_ptInClass.j0 k a0 a1 false (decide (a1 ≤ 90)) (decide (a1 < 127))) else (spec_ptInClass.j0 k a0 a1 false (decide (a1 ≤ 90)) false)) else (if a1 > 32 then (spec_ptInClass.j0 k a0 a1 false false (decide (a1 < 127))) else (spec_ptInClass.j0 k a0 a1 false false false)))) = some (r1, r2) := h
  clear h
  have HC3 := Aside0.mk H
  clear H
  go_enter Tryf.func62, Tryf.ntmps62
  go_upto_region 1 with (fail)
  go_cut [6, 7, 8] (fun v6 v7 v8 wc => ∃ (kq : Nat) (x6_2 : Bool) (x7_2 : Bool) (x8_2 : Bool), v6 = .bool x6_2 ∧ v7 = .bool x7_2 ∧ v8 = .bool x8_2 ∧ Aside0 (spec_ptInClass.j0 kq a0 a1 x6_2 x7_2 x8_2 = some (r1, r2)) ∧ Aside0 (kq ≤ k) ∧ Drawn0 w wc)
  case first =>
    have H := HC3.out
    clear HC3
    by_cases c4 : a1 ≥ 97
    · rw [if_pos c4] at H
      have c4b0 : decide (97 ≤ a1) = true := decide_eq_true c4
      clear c4
      (first | rw [c4b0] | (simp only [i64_w, i32_w]; rw [c4b0]) | skip)
      by_cases c5 : a1 ≥ 65
      · rw [if_pos c5] at H
        have c5b0 : decide (65 ≤ a1) = true := decide_eq_true c5
        clear c5
        by_cases c6 : a1 > 32
        · rw [if_pos c6] at H
          have c6b0 : decide (32 < a1) = true := decide_eq_true c6
          clear c6
          have H' := Aside0.mk H
          clear H
          go_wp2
          go_meet
          case rel => exact ⟨_, (decide (a1 ≤ 122)), (decide (a1 ≤ 90)), (decide (a1 < 127)), (by first | rfl | (simp; done) | (simp [*]; done)), (by first | rfl | (simp; done) | (simp [*]; done)), (by first | rfl | (simp; done) | (simp [*]; done)), H', ⟨by first | omega | exact Nat.le_refl _⟩, by repeat (first | exact Drawn0.refl _ | apply Drawn0.step)⟩
        · rw [if_neg c6] at H
          have c6b0 : decide (32 < a1) = false := decide_eq_false c6
          clear c6
          have H' := Aside0.mk H
          clear H
          go_wp2
          go_meet
          case rel => exact ⟨_, (decide (a1 ≤ 122)), (decide (a1 ≤ 90)), (false), (by first | rfl | (simp; done) | (simp [*]; done)), (by first | rfl | (simp; done) | (simp [*]; done)), (by first | rfl | (simp; done) | (simp [*]; done)), H', ⟨by first | omega | exact Nat.le_refl _⟩, by repeat (first | exact Drawn0.refl _ | apply Drawn0.step)⟩
      · rw [if_neg c5] at H
        have c5b0 : decide (65 ≤ a1) = false := decide_eq_false c5
        clear c5
        by_cases c7 : a1 > 32
        · rw [if_pos c7] at H
          have c7b0 : decide (32 < a1) = true := decide_eq_true c7
          clear c7
          have H' := Aside0.mk H
          clear H
          go_wp2
          go_meet
          case rel => exact ⟨_, (decide (a1 ≤ 122)), (false), (decide (a1 < 127)), (by first | rfl | (simp; done) | (simp [*]; done)), (by first | rfl | (simp; done) | (simp [*]; done)), (by first | rfl | (simp; done) | (simp [*]; done)), H', ⟨by first | omega | exact Nat.le_refl _⟩, by repeat (first | exact Drawn0.refl _ | apply Drawn0.step)⟩
        · rw [if_neg c7] at H
          have c7b0 : decide (32 < a1) = false := decide_eq_false c7
          clear c7
          have H' := Aside0.mk H
          clear H
          go_wp2
          go_meet
          case rel => exact ⟨_, (decide (a1 ≤ 122)), (false), (false), (by first | rfl | (simp; done) | (simp [*]; done)), (by first | rfl | (simp; done) | (simp [*]; done)), (by first | rfl | (simp; done) | (simp [*]; done)), H', ⟨by first | omega | exact Nat.le_refl _⟩, by repeat (first | exact Drawn0.refl _ | apply Drawn0.step)⟩
    · rw [if_neg c4] at H
      have c4b0 : decide (97 ≤ a1) = false := decide_eq_false c4
      clear c4
      (first | rw [c4b0] | (simp only [i64_w, i32_w]; rw [c4b0]) | skip)
      by_cases c8 : a1 ≥ 65
      · rw [if_pos c8] at H
        have c8b0 : decide (65 ≤ a1) = true := decide_eq_true c8
        clear c8
        by_cases c9 : a1 > 32
        · rw [if_pos c9] at H
          have c9b0 : decide (32 < a1) = true := decide_eq_true c9
          clear c9
          have H' := Aside0.mk H
          clear H
          go_wp2
          go_meet
          case rel => exact ⟨_, (false), (decide (a1 ≤ 90)), (decide (a1 < 127)), (by first | rfl | (simp; done) | (simp [*]; done)), (by first | rfl | (simp; done) | (simp [*]; done)), (by first | rfl | (simp; done) | (simp [*]; done)), H', ⟨by first | omega | exact Nat.le_refl _⟩, by repeat (first | exact Drawn0.refl _ | apply Drawn0.step)⟩
        · rw [if_neg c9] at H
          have c9b0 : decide (32 < a1) = false := decide_eq_false c9
          clear c9
          have H' := Aside0.mk H
          clear H
          go_wp2
          go_meet
          case rel => exact ⟨_, (false), (decide (a1 ≤ 90)), (false), (by first | rfl | (simp; done) | (simp [*]; done)), (by first | rfl | (simp; done) | (simp [*]; done)), (by first | rfl | (simp; done) | (simp [*]; done)), H', ⟨by first | omega | exact Nat.le_refl _⟩, by repeat (first | exact Drawn0.refl _ | apply Drawn0.step)⟩
      · rw [if_neg c8] at H
        have c8b0 : decide (65 ≤ a1) = false := decide_eq_false c8
        clear c8
        by_cases c10 : a1 > 32
        · rw [if_pos c10] at H
          have c10b0 : decide (32 < a1) = true := decide_eq_true c10
          clear c10
          have H' := Aside0.mk H
          clear H
          go_wp2
          go_meet
          case rel => exact ⟨_, (false), (false), (decide (a1 < 127)), (by first | rfl | (simp; done) | (simp [*]; done)), (by first | rfl | (simp; done) | (simp [*]; done)), (by first | rfl | (simp; done) | (simp [*]; done)), H', ⟨by first | omega | exact Nat.le_refl _⟩, by repeat (first | exact Drawn0.refl _ | apply Drawn0.step)⟩
        · rw [if_neg c10] at H
          have c10b0 : decide (32 < a1) = false := decide_eq_false c10
          clear c10
          have H' := Aside0.mk H
          clear H
          go_wp2
          go_meet
          case rel => exact ⟨_, (false), (false), (false), (by first | rfl | (simp; done) | (simp [*]; done)), (by first | rfl | (simp; done) | (simp [*]; done)), (by first | rfl | (simp; done) | (simp [*]; done)), H', ⟨by first | omega | exact Nat.le_refl _⟩, by repeat (first | exact Drawn0.refl _ | apply Drawn0.step)⟩
  case rest =>
    clear HC3
    try clear c1
    try clear p2
    try clear c4
    try clear c4b0
    try clear c5
    try clear c5b0
    try clear c6
    try clear c6b0
    try clear c7
    try clear c7b0
    try clear c8
    try clear c8b0
    try clear c9
    try clear c9b0
    try clear c10
    try clear c10b0
    obtain ⟨kq, x6_2, x7_2, x8_2, rfl, rfl, rfl, HA, HJ2, ⟨mc2, rfl⟩⟩ := hcut
    cases kq with
    | zero => exact absurd HA.out (by simp [spec_ptInClass.j0])
    | succ kj2 =>
      have H := HA.out
      clear HA
      simp only [spec_ptInClass.j0] at H
      by_cases c11 : a0 = 97
      · rw [if_pos c11] at H
        have c11b0 : (a0 == 97) = true := beq_iff_eq.mpr c11
        have c11b1 : (a0 != 97) = false := bne_eq_false_iff_eq.mpr c11
        clear c11
        by_cases c12 : x6_2 = true
        · subst c12
          have H1 : (some (true, true)) = some (r1, r2) := by rw [if_pos rfl] at H; exact H
          clear H
          have H := H1
          clear H1
          simp only [Option.some.injEq, Prod.mk.injEq] at H
          obtain ⟨rfl, rfl⟩ := H
          go_wp2
          go_ret2
          exact ⟨by first | rfl | (simp; done) | (simp [*]; done), by repeat (first | exact Drawn0.refl _ | apply Drawn0.step)⟩
        · replace c12 := Bool.eq_false_iff.mpr c12
          subst c12
          have H1 : (some (x7_2, true)) = some (r1, r2) := by rw [if_neg (show ¬ (false = true) by decide)] at H; exact H
          clear H
          have H := H1
          clear H1
          simp only [Option.some.injEq, Prod.mk.injEq] at H
          obtain ⟨rfl, rfl⟩ := H
          go_wp2
          go_ret2
          exact ⟨by first | rfl | (simp; done) | (simp [*]; done), by repeat (first | exact Drawn0.refl _ | apply Drawn0.step)⟩
      · rw [if_neg c11] at H
        have c11b0 : (a0 == 97) = false := beq_eq_false_iff_ne.mpr c11
        have c11b1 : (a0 != 97) = true := bne_iff_ne.mpr c11
        by_cases c13 : a0 = 99
        · rw [if_pos c13] at H
          have c13b0 : (a0 == 99) = true := beq_iff_eq.mpr c13
          have c13b1 : (a0 != 99) = false := bne_eq_false_iff_eq.mpr c13
          clear c13
          by_cases c14 : a1 < 32
          · rw [if_pos c14] at H
            have c14b0 : decide (a1 < 32) = true := decide_eq_true c14
            clear c14
            simp only [Option.some.injEq, Prod.mk.injEq] at H
            obtain ⟨rfl, rfl⟩ := H
            go_wp2
            go_ret2
            exact ⟨by first | rfl | (simp; done) | (simp [*]; done), by repeat (first | exact Drawn0.refl _ | apply Drawn0.step)⟩
          · rw [if_neg c14] at H
            have c14b0 : decide (a1 < 32) = false := decide_eq_false c14
            clear c14
            simp only [Option.some.injEq, Prod.mk.injEq] at H
            obtain ⟨rfl, rfl⟩ := H
            go_wp2
            go_ret2
            exact ⟨by first | rfl | (simp; done) | (simp [*]; done), by repeat (first | exact Drawn0.refl _ | apply Drawn0.step)⟩
        · rw [if_neg c13] at H
          have c13b0 : (a0 == 99) = false := beq_eq_false_iff_ne.mpr c13
          have c13b1 : (a0 != 99) = true := bne_iff_ne.mpr c13
          by_cases c15 : a0 = 100
          · rw [if_pos c15] at H
            have c15b0 : (a0 == 100) = true := beq_iff_eq.mpr c15
            have c15b1 : (a0 != 100) = false := bne_eq_false_iff_eq.mpr c15
            clear c15
            replace H := Option.bind_eq_some_iff.mp H
            obtain ⟨t129, A160, H⟩ := H
            replace H : (some (t129, true)) = some (r1, r2) := H
            have A16 := Aside0.mk A160
            clear A160
            simp only [Option.some.injEq, Prod.mk.injEq] at H
            obtain ⟨rfl, rfl⟩ := H
            go_wp2_with (first | ((with_reducible refine gate_callee (f := 55) rfl ?_); refine goesL_ (some 45) rfl rfl Tryf.func55 (by kernel_rfl) rfl #[.int .u8 a1] rfl (by (try simp only [List.map_toArray, List.map_cons, List.map_nil]); first | done | rfl | (simp only [List.length_drop, List.length_take]; rfl)) ?_; (with_reducible refine (spec_lxIsDigit.calls a1 t129 _ A16.out).mono ?_); rintro e w' ⟨rfl, ⟨nd, rfl⟩⟩; refine ⟨_, rfl, ?_⟩))
            go_ret2
            exact ⟨by first | rfl | (simp; done) | (simp [*]; done), by repeat (first | exact Drawn0.refl _ | apply Drawn0.step)⟩
          · rw [if_neg c15] at H
            have c15b0 : (a0 == 100) = false := beq_eq_false_iff_ne.mpr c15
            have c15b1 : (a0 != 100) = true := bne_iff_ne.mpr c15
            by_cases c17 : a0 = 108
            · rw [if_pos c17] at H
              have c17b0 : (a0 == 108) = true := beq_iff_eq.mpr c17
              have c17b1 : (a0 != 108) = false := bne_eq_false_iff_eq.mpr c17
              clear c17
              simp only [Option.some.injEq, Prod.mk.injEq] at H
              obtain ⟨rfl, rfl⟩ := H
              go_wp2
              go_ret2
              exact ⟨by first | rfl | (simp; done) | (simp [*]; done), by repeat (first | exact Drawn0.refl _ | apply Drawn0.step)⟩
            · rw [if_neg c17] at H
              have c17b0 : (a0 == 108) = false := beq_eq_false_iff_ne.mpr c17
              have c17b1 : (a0 != 108) = true := bne_iff_ne.mpr c17
              by_cases c18 : a0 = 112
              · rw [if_pos c18] at H
                have c18b0 : (a0 == 112) = true := beq_iff_eq.mpr c18
                have c18b1 : (a0 != 112) = false := bne_eq_false_iff_eq.mpr c18
                clear c18
                by_cases c19 : x8_2 = true
                · subst c19
                  have H1 : (if x6_2 = true then (some (false, true)) else (if x7_2 = true then (some (false, true)) else ((spec_lxIsDigit.f a1).bind fun t130 => (some (!t130, true))))) = some (r1, r2) := by rw [if_pos rfl] at H; exact H
                  clear H
                  have H := H1
                  clear H1
                  by_cases c20 : x6_2 = true
                  · subst c20
                    have H1 : (some (false, true)) = some (r1, r2) := by rw [if_pos rfl] at H; exact H
                    clear H
                    have H := H1
                    clear H1
                    simp only [Option.some.injEq, Prod.mk.injEq] at H
                    obtain ⟨rfl, rfl⟩ := H
                    go_wp2
                    go_ret2
                    exact ⟨by first | rfl | (simp; done) | (simp [*]; done), by repeat (first | exact Drawn0.refl _ | apply Drawn0.step)⟩
                  · replace c20 := Bool.eq_false_iff.mpr c20
                    subst c20
                    have H1 : (if x7_2 = true then (some (false, true)) else ((spec_lxIsDigit.f a1).bind fun t130 => (some (!t130, true)))) = some (r1, r2) := by rw [if_neg (show ¬ (false = true) by decide)] at H; exact H
                    clear H
                    have H := H1
                    clear H1
                    by_cases c21 : x7_2 = true
                    · subst c21
                      have H1 : (some (false, true)) = some (r1, r2) := by rw [if_pos rfl] at H; exact H
                      clear H
                      have H := H1
                      clear H1
                      simp only [Option.some.injEq, Prod.mk.injEq] at H
                      obtain ⟨rfl, rfl⟩ := H
                      go_wp2
                      go_ret2
                      exact ⟨by first | rfl | (simp; done) | (simp [*]; done), by repeat (first | exact Drawn0.refl _ | apply Drawn0.step)⟩
                    · replace c21 := Bool.eq_false_iff.mpr c21
                      subst c21
                      have H1 : ((spec_lxIsDigit.f a1).bind fun t130 => (some (!t130, true))) = some (r1, r2) := by rw [if_neg (show ¬ (false = true) by decide)] at H; exact H
                      clear H
                      have H := H1
                      clear H1
                      replace H := Option.bind_eq_some_iff.mp H
                      obtain ⟨t130, A220, H⟩ := H
                      replace H : (some (!t130, true)) = some (r1, r2) := H
                      have A22 := Aside0.mk A220
                      clear A220
                      simp only [Option.some.injEq, Prod.mk.injEq] at H
                      obtain ⟨rfl, rfl⟩ := H
                      go_wp2_with (first | (go_at_call 55; (with_reducible refine (spec_lxIsDigit.calls a1 t130 _ A22.out).mono ?_); rintro e w' ⟨rfl, ⟨nd, rfl⟩⟩))
                      go_ret2
                      exact ⟨by first | rfl | (simp; done) | (simp [*]; done), by repeat (first | exact Drawn0.refl _ | apply Drawn0.step)⟩
                · replace c19 := Bool.eq_false_iff.mpr c19
                  subst c19
                  have H1 : (some (false, true)) = some (r1, r2) := by rw [if_neg (show ¬ (false = true) by decide)] at H; exact H
                  clear H
                  have H := H1
                  clear H1
                  simp only [Option.some.injEq, Prod.mk.injEq] at H
                  obtain ⟨rfl, rfl⟩ := H
                  go_wp2
                  go_ret2
                  exact ⟨by first | rfl | (simp; done) | (simp [*]; done), by repeat (first | exact Drawn0.refl _ | apply Drawn0.step)⟩
              · rw [if_neg c18] at H
                have c18b0 : (a0 == 112) = false := beq_eq_false_iff_ne.mpr c18
                have c18b1 : (a0 != 112) = true := bne_iff_ne.mpr c18
                by_cases c23 : a0 = 115
                · rw [if_pos c23] at H
                  have c23b0 : (a0 == 115) = true := beq_iff_eq.mpr c23
                  have c23b1 : (a0 != 115) = false := bne_eq_false_iff_eq.mpr c23
                  clear c23
                  by_cases c24 : a1 = 32
                  · rw [if_pos c24] at H
                    have c24b0 : (a1 == 32) = true := beq_iff_eq.mpr c24
                    have c24b1 : (a1 != 32) = false := bne_eq_false_iff_eq.mpr c24
                    clear c24
                    simp only [Option.some.injEq, Prod.mk.injEq] at H
                    obtain ⟨rfl, rfl⟩ := H
                    go_wp2
                    go_ret2
                    exact ⟨by first | rfl | (simp; done) | (simp [*]; done), by repeat (first | exact Drawn0.refl _ | apply Drawn0.step)⟩
                  · rw [if_neg c24] at H
                    have c24b0 : (a1 == 32) = false := beq_eq_false_iff_ne.mpr c24
                    have c24b1 : (a1 != 32) = true := bne_iff_ne.mpr c24
                    by_cases c25 : a1 ≥ 9
                    · rw [if_pos c25] at H
                      have c25b0 : decide (9 ≤ a1) = true := decide_eq_true c25
                      clear c25
                      simp only [Option.some.injEq, Prod.mk.injEq] at H
                      obtain ⟨rfl, rfl⟩ := H
                      go_wp2
                      go_ret2
                      exact ⟨by first | rfl | (simp; done) | (simp [*]; done), by repeat (first | exact Drawn0.refl _ | apply Drawn0.step)⟩
                    · rw [if_neg c25] at H
                      have c25b0 : decide (9 ≤ a1) = false := decide_eq_false c25
                      clear c25
                      simp only [Option.some.injEq, Prod.mk.injEq] at H
                      obtain ⟨rfl, rfl⟩ := H
                      go_wp2
                      go_ret2
                      exact ⟨by first | rfl | (simp; done) | (simp [*]; done), by repeat (first | exact Drawn0.refl _ | apply Drawn0.step)⟩
                · rw [if_neg c23] at H
                  have c23b0 : (a0 == 115) = false := beq_eq_false_iff_ne.mpr c23
                  have c23b1 : (a0 != 115) = true := bne_iff_ne.mpr c23
                  by_cases c26 : a0 = 117
                  · rw [if_pos c26] at H
                    have c26b0 : (a0 == 117) = true := beq_iff_eq.mpr c26
                    have c26b1 : (a0 != 117) = false := bne_eq_false_iff_eq.mpr c26
                    clear c26
                    simp only [Option.some.injEq, Prod.mk.injEq] at H
                    obtain ⟨rfl, rfl⟩ := H
                    go_wp2
                    go_ret2
                    exact ⟨by first | rfl | (simp; done) | (simp [*]; done), by repeat (first | exact Drawn0.refl _ | apply Drawn0.step)⟩
                  · rw [if_neg c26] at H
                    have c26b0 : (a0 == 117) = false := beq_eq_false_iff_ne.mpr c26
                    have c26b1 : (a0 != 117) = true := bne_iff_ne.mpr c26
                    by_cases c27 : a0 = 119
                    · rw [if_pos c27] at H
                      have c27b0 : (a0 == 119) = true := beq_iff_eq.mpr c27
                      have c27b1 : (a0 != 119) = false := bne_eq_false_iff_eq.mpr c27
                      clear c27
                      by_cases c28 : x6_2 = true
                      · subst c28
                        have H1 : (some (true, true)) = some (r1, r2) := by rw [if_pos rfl] at H; exact H
                        clear H
                        have H := H1
                        clear H1
                        simp only [Option.some.injEq, Prod.mk.injEq] at H
                        obtain ⟨rfl, rfl⟩ := H
                        go_wp2
                        go_ret2
                        exact ⟨by first | rfl | (simp; done) | (simp [*]; done), by repeat (first | exact Drawn0.refl _ | apply Drawn0.step)⟩
                      · replace c28 := Bool.eq_false_iff.mpr c28
                        subst c28
                        have H1 : (if x7_2 = true then (some (true, true)) else ((spec_lxIsDigit.f a1).bind fun t131 => (some (t131, true)))) = some (r1, r2) := by rw [if_neg (show ¬ (false = true) by decide)] at H; exact H
                        clear H
                        have H := H1
                        clear H1
                        by_cases c29 : x7_2 = true
                        · subst c29
                          have H1 : (some (true, true)) = some (r1, r2) := by rw [if_pos rfl] at H; exact H
                          clear H
                          have H := H1
                          clear H1
                          simp only [Option.some.injEq, Prod.mk.injEq] at H
                          obtain ⟨rfl, rfl⟩ := H
                          go_wp2
                          go_ret2
                          exact ⟨by first | rfl | (simp; done) | (simp [*]; done), by repeat (first | exact Drawn0.refl _ | apply Drawn0.step)⟩
                        · replace c29 := Bool.eq_false_iff.mpr c29
                          subst c29
                          have H1 : ((spec_lxIsDigit.f a1).bind fun t131 => (some (t131, true))) = some (r1, r2) := by rw [if_neg (show ¬ (false = true) by decide)] at H; exact H
                          clear H
                          have H := H1
                          clear H1
                          replace H := Option.bind_eq_some_iff.mp H
                          obtain ⟨t131, A300, H⟩ := H
                          replace H : (some (t131, true)) = some (r1, r2) := H
                          have A30 := Aside0.mk A300
                          clear A300
                          simp only [Option.some.injEq, Prod.mk.injEq] at H
                          obtain ⟨rfl, rfl⟩ := H
                          go_wp2_with (first | (go_at_call 55; (with_reducible refine (spec_lxIsDigit.calls a1 t131 _ A30.out).mono ?_); rintro e w' ⟨rfl, ⟨nd, rfl⟩⟩))
                          go_ret2
                          exact ⟨by first | rfl | (simp; done) | (simp [*]; done), by repeat (first | exact Drawn0.refl _ | apply Drawn0.step)⟩
                    · rw [if_neg c27] at H
                      have c27b0 : (a0 == 119) = false := beq_eq_false_iff_ne.mpr c27
                      have c27b1 : (a0 != 119) = true := bne_iff_ne.mpr c27
                      by_cases c31 : a0 = 120
                      · rw [if_pos c31] at H
                        have c31b0 : (a0 == 120) = true := beq_iff_eq.mpr c31
                        have c31b1 : (a0 != 120) = false := bne_eq_false_iff_eq.mpr c31
                        clear c31
                        replace H := Option.bind_eq_some_iff.mp H
                        obtain ⟨t132, A320, H⟩ := H
                        replace H : (some (decide (t132 ≥ 0), true)) = some (r1, r2) := H
                        have A32 := Aside0.mk A320
                        clear A320
                        simp only [Option.some.injEq, Prod.mk.injEq] at H
                        obtain ⟨rfl, rfl⟩ := H
                        go_wp2_with (first | ((with_reducible refine gate_callee (f := 63) rfl ?_); refine goesL_ (some 93) rfl rfl Tryf.func63 (by kernel_rfl) rfl #[.int .u8 a1] rfl (by (try simp only [List.map_toArray, List.map_cons, List.map_nil]); first | done | rfl | (simp only [List.length_drop, List.length_take]; rfl)) ?_; (with_reducible refine (spec_lxHex.calls kj2 a1 t132 _ A32.out).mono ?_); rintro e w' ⟨rfl, ⟨nd, rfl⟩⟩; refine ⟨_, rfl, ?_⟩))
                        go_ret2
                        exact ⟨by first | rfl | (simp; done) | (simp [*]; done), by repeat (first | exact Drawn0.refl _ | apply Drawn0.step)⟩
                      · rw [if_neg c31] at H
                        have c31b0 : (a0 == 120) = false := beq_eq_false_iff_ne.mpr c31
                        have c31b1 : (a0 != 120) = true := bne_iff_ne.mpr c31
                        by_cases c33 : a0 = 122
                        · rw [if_pos c33] at H
                          have c33b0 : (a0 == 122) = true := beq_iff_eq.mpr c33
                          have c33b1 : (a0 != 122) = false := bne_eq_false_iff_eq.mpr c33
                          clear c33
                          simp only [Option.some.injEq, Prod.mk.injEq] at H
                          obtain ⟨rfl, rfl⟩ := H
                          go_wp2
                          go_ret2
                          exact ⟨by first | rfl | (simp; done) | (simp [*]; done), by repeat (first | exact Drawn0.refl _ | apply Drawn0.step)⟩
                        · rw [if_neg c33] at H
                          have c33b0 : (a0 == 122) = false := beq_eq_false_iff_ne.mpr c33
                          have c33b1 : (a0 != 122) = true := bne_iff_ne.mpr c33
                          simp only [Option.some.injEq, Prod.mk.injEq] at H
                          obtain ⟨rfl, rfl⟩ := H
                          go_wp2
                          go_ret2
                          exact ⟨by first | rfl | (simp; done) | (simp [*]; done), by repeat (first | exact Drawn0.refl _ | apply Drawn0.step)⟩
end Go.Proofs.YtpjfjfloeejgiaaFmt.PFnPatternFirst
/- Contracts of leaf functions of package spec, in the form in which print.sh has written them for this claim (turned: cut to the functions that build). -/
namespace Go.Proofs.YtpjfjfloeejgiaaFmt.PFnPatternFirst
open Go.RowKit Go.Proofs.YtpjfjfloeejgiaaFmtW.PrintWords Go.Proofs.YtpjfjfloeejgiaaFmtW.PrintLast Go.Proofs.YtpjfjfloeejgiaaFmtW.PrintMore
attribute [local go_sem] max2_int min2_int max_two min_two max_three min_three max_four min_four   -- for this text's walks alone
set_option linter.unusedVariables false
set_option linter.unusedSimpArgs false

/-! ### spec_ptSingle: function 49 -/

/-! ### spec_ptWith: function 50 -/
def spec_ptWith.l0 : Nat → Int → List (S74) → Int → Int → Option ((List (S74)))
  | 0, _, _, _, _ => none
  | k + 1, x1, x7, x164000, x164001 => if (x7.length : Int) < x1 then (if x7.length < 8796093022208 then (spec_ptWith.l0 k x1 (x7 ++ [(⟨0, 0⟩ : S74)]) x164000 x164001) else (none)) else (if 0 ≤ (wrap64 (x1 - 1)) then (if (wrap64 (x1 - 1)) < (x7.length : Int) then (some (x7.set ((wrap64 (x1 - 1)) : Int).toNat (⟨x164000, x164001⟩ : S74))) else (none)) else (none))
def spec_ptWith.f (k : Nat) (l0 : List (S74)) (a1 : Int) (a2_0 : Int) (a2_1 : Int) : Option ((List (S74))) := (some (([] : List (S74)) : List (S74))).bind fun y164 => (if y164.length + l0.length < 8796093022208 then (spec_ptWith.l0 k a1 (y164 ++ l0) a2_0 a2_1) else (none))
set_option maxHeartbeats 8000000 in
set_option maxRecDepth 100000 in
theorem spec_ptWith.calls (k : Nat) (A0 : Option Addr) (c0 : Nat) (l0 : List (S74)) (a1 : Int) (a2_0 : Int) (a2_1 : Int) (r : List (S74)) (w : World) (hr0 : Kd.C k74 w A0 l0.length l0) (hc0 : l0.length ≤ c0) (h : spec_ptWith.f k l0 a1 a2_0 a2_1 = some r) :
    Calls Tryf.prog 50 #[.slice A0 l0.length c0, .int .i64 a1, .agg #[.int .i64 a2_0, .int .i64 a2_1]] w fun e w' => ∃ v0_ : Value, e = .returned (v0_) ∧ Kd.R k74 74 w' w.heap.size (fun _ => True) v0_ r ∧ Below w.heap.size w w' := by
  have hu74 := Tryf.underlying74
  have HR0 := Aside0.mk hr0
  have HC0 := Aside0.mk hc0
  clear hr0 hc0
  have HB := Aside0.mk (Below.refl w.heap.size w)
  have H : ((some (([] : List (S74)) : List (S74))).bind fun y164 => (if y164.length + l0.length < 8796093022208 then (spec_ptWith.l0 k a1 (y164 ++ l0) a2_0 a2_1) else (none))) = some r := h
  clear h
  obtain ⟨y164, hy164⟩ : ∃ y_ : List (S74), y_ = (([] : List (S74))) := ⟨_, rfl⟩
  replace H : (if y164.length + l0.length < 8796093022208 then (spec_ptWith.l0 k a1 (y164 ++ l0) a2_0 a2_1) else (none)) = some r := by first | (rw [hy164]; with_reducible exact H) | (have H2_ := (Option.bind_some _ _).symm.trans H; rw [hy164]; with_reducible exact H2_) | (have H2_ := (Option.bind_some _ _).symm.trans H; with_reducible exact H2_) | with_reducible exact H | (rw [hy164]; exact H) | exact H
  have Ny164 := Aside0.mk hy164
  clear hy164
  by_cases c4 : y164.length + l0.length < 8796093022208
  · rw [if_pos c4] at H
    have LMc4 := Aside0.mk c4
    clear c4
    obtain ⟨y167, hy167⟩ : ∃ y_ : List (S74), y_ = (y164 ++ l0) := ⟨_, rfl⟩
    replace H : (spec_ptWith.l0 k a1 y167 a2_0 a2_1) = some r := by first | (rw [hy167]; with_reducible exact H) | (have H2_ := (Option.bind_some _ _).symm.trans H; rw [hy167]; with_reducible exact H2_) | (have H2_ := (Option.bind_some _ _).symm.trans H; with_reducible exact H2_) | with_reducible exact H | (rw [hy167]; exact H) | exact H
    have Ny167 := Aside0.mk hy167
    clear hy167
    have H' := Aside0.mk H
    clear H
    go_enter Tryf.func50, Tryf.ntmps50
    go_wp2_with (first | ((with_reducible refine gate_dst (N := 5) rfl ?_); refine box_event ?hg (N := 5) ?hd (cs := #[.int .i64 a2_0, .int .i64 a2_1]) (t := 74) ?hr ?_; (case hd => rfl); (case hg => rfl); (case hr => first | (go_simp; done) | (go_simp; rfl)); intro gb163 hg w5 hbox hb; have n0_ := Aside0.mk (below_step (by repeat (first | (with_reducible first | exact HB.out | apply below_alloc | apply pw_below_drewN | apply below_drew1) | exact HB.out)) hb); have n1_ := Aside0.mk (hbox); have n2_ := Aside0.mk ((by rw [hg]; exact (below_size (by repeat (first | (with_reducible first | exact HB.out | apply below_alloc | apply pw_below_drewN | apply below_drew1) | exact HB.out))) : w.heap.size ≤ gb163)); have n3_ := Aside0.mk ((by rw [hg]; exact (below_size (by repeat (first | (with_reducible first | exact HB.out | apply below_alloc | apply pw_below_drewN | apply below_drew1) | exact HB.out))) : w.heap.size ≤ gb163)); clear HB; have HB := n0_; have BK163 := n1_; have GW163 := n2_; have GE163 := n3_; clear n0_ n1_ n2_ n3_; clear hb hbox hg) | ((with_reducible refine gate_dst (N := 8) rfl ?_); refine Kd.R_lit k74 _ 74 ?hg (N := 8) ?hd (xs := ([] : List (S74))) (inner := []) (ok := fun _ => True) (okp := fun _ => True) ?hr ?hp (fun _ hk => hk) trivial (Below.refl _ _) (Nat.le_refl _) (by simp) ?_; (case hd => rfl); (case hg => rfl); (case hr => first | (go_simp; done) | (go_simp; rfl)); (case hp => exact (Reps.none _ _)); intro v165 w6 ho7 hb hg_ hnew_; clear hg_ hnew_; (first | rw [← Ny164.out] at ho7 | (simp only [Int.reduceToNat] at ho7; rw [← Ny164.out] at ho7)); have n0_ := Aside0.mk (Kd.R_lower (Kd.R_newB ho7 (g := gb163) (o := .cells #[.int .i64 a2_0, .int .i64 a2_1] 74 (0, 0)) (by (with_reducible repeat (first | refine blk_drewN ?_ _ | refine blk_drew ?_ | refine blk_alloc ?_ _)); exact BK163.out)) (below_size (by repeat (first | (with_reducible first | exact HB.out | apply below_alloc | apply pw_below_drewN | apply below_drew1 | refine below_set ?_ GE163.out) | exact HB.out)))); have n1_ := Aside0.mk (blk_below (g := gb163) (o := .cells #[.int .i64 a2_0, .int .i64 a2_1] 74 (0, 0)) (by (with_reducible repeat (first | refine blk_drewN ?_ _ | refine blk_drew ?_ | refine blk_alloc ?_ _)); exact BK163.out) hb); have n2_ := Aside0.mk (below_step (by repeat (first | (with_reducible first | exact HB.out | apply below_alloc | apply pw_below_drewN | apply below_drew1 | refine below_set ?_ GE163.out) | exact HB.out)) hb); clear BK163; clear HB; have HO166 := n0_; have BK163 := n1_; have HB := n2_; clear n0_ n1_ n2_; clear hb ho7) | ((with_reducible refine gate_builtin (b := .append) (xs := #[.tmp 8, .tmp 9]) rfl ?_); at_builtin; refine Kd.R_append_rows k74 (w0 := w) w.heap.size rfl (.tmp 8) (.tmp 9) 51 74 (.agg #[(.int .i64 0), (.int .i64 0)]) 16 rfl Tryf.underlying51 info74 rfl (by decide) (by omega) v165 y164 l0 _ _ _ (fun k_ => k_ ≠ gb163) (fun _ => False) rfl rfl ?aO ?aR (fun _ _ h => h) (fun _ h => h.elim) ?aF ?aB ?aS ?aL ?_; (case aR => repeat (first | exact (Kd.C_below HR0.out HB.out) | (with_reducible refine Kd.C_alloc ?_ _) | (with_reducible refine Kd.C_drewN ?_ _) | (with_reducible refine Kd.C_drew ?_))); (case aB => exact (by repeat (first | (with_reducible first | exact HB.out | apply below_alloc | apply pw_below_drewN | apply below_drew1 | refine below_set ?_ GE163.out) | exact HB.out))); (case aF => exact (fun k_ hk => Kd.freshB (g := gb163) (o := .cells #[.int .i64 a2_0, .int .i64 a2_1] 74 (0, 0)) (by (with_reducible repeat (first | refine blk_drewN ?_ _ | refine blk_drew ?_ | refine blk_alloc ?_ _)); exact BK163.out) k_ hk)); (case aO => exact (by (with_reducible repeat (first | apply Kd.R_alloc | apply Kd.R_drewN | apply Kd.R_drew)); exact Kd.R_mono HO166.out (fun _ hk => hk.2))); (case aS => exact (below_size (by repeat (first | (with_reducible first | exact HB.out | apply below_alloc | apply pw_below_drewN | apply below_drew1 | refine below_set ?_ GE163.out) | exact HB.out)))); (case aL => have := LMc4.out; omega); intro v168 w8 ho hb hg hat; rw [← Ny167.out] at ho; have n0_ := Aside0.mk (blk_grown (g := gb163) (o := .cells #[.int .i64 a2_0, .int .i64 a2_1] 74 (0, 0)) (by (with_reducible repeat (first | refine blk_drewN ?_ _ | refine blk_drew ?_ | refine blk_alloc ?_ _)); exact BK163.out) hg (Kd.R_away HO166.out (fun _ hk => hk.2))); have n1_ := Aside0.mk (hb); have n2_ := Aside0.mk (ho); clear BK163; clear HB; clear HO166; have BK163 := n0_; have HB := n1_; have HO169 := n2_; clear n0_ n1_ n2_; clear ho hb hg hat))
    go_loopg [7] k (fun kq v7 w' => ∃ (x7_1 : List (S74)), Aside0 (spec_ptWith.l0 kq a1 x7_1 a2_0 a2_1 = some r) ∧ Aside0 (kq ≤ k) ∧ Aside0 (Kd.R k74 74 w' w.heap.size (fun k_ => k_ ≠ gb163) v7 x7_1) ∧ Aside0 (w'.heap[gb163]? = some (.cells #[.int .i64 a2_0, .int .i64 a2_1] 74 (0, 0))) ∧ Aside0 (Below w.heap.size w w'))
    case atStart => exact ⟨(y167), H', ⟨Nat.le_refl _⟩, ⟨by (with_reducible repeat (first | apply Kd.R_alloc | apply Kd.R_drewN | apply Kd.R_drew)); exact HO169.out⟩, ⟨by (with_reducible repeat (first | refine blk_drewN ?_ _ | refine blk_drew ?_ | refine blk_alloc ?_ _)); exact BK163.out⟩, ⟨by repeat (first | (with_reducible first | exact HB.out | apply below_alloc | apply pw_below_drewN | apply below_drew1 | refine below_set ?_ GE163.out) | exact HB.out)⟩⟩
    case round =>
      clear H'
      try clear p2
      try clear c4
      try clear c5
      obtain ⟨x7_1, HA, HK1, HO_7, BK163, HB⟩ := hrel
      cases gk with
      | zero => exact absurd HA.out (by simp [spec_ptWith.l0])
      | succ k1 =>
        have H := HA.out
        clear HA
        simp only [spec_ptWith.l0] at H
        by_cases c9 : (x7_1.length : Int) < a1
        · rw [if_pos c9] at H
          have c9b0 : decide ((x7_1.length : Int) < a1) = true := decide_eq_true c9
          clear c9
          by_cases c10 : x7_1.length < 8796093022208
          · rw [if_pos c10] at H
            have LMc10 := Aside0.mk c10
            clear c10
            obtain ⟨y170, hy170⟩ : ∃ y_ : List (S74), y_ = (x7_1 ++ [(⟨0, 0⟩ : S74)]) := ⟨_, rfl⟩
            replace H : (spec_ptWith.l0 k1 a1 y170 a2_0 a2_1) = some r := by first | (rw [hy170]; with_reducible exact H) | (have H2_ := (Option.bind_some _ _).symm.trans H; rw [hy170]; with_reducible exact H2_) | (have H2_ := (Option.bind_some _ _).symm.trans H; with_reducible exact H2_) | with_reducible exact H | (rw [hy170]; exact H) | exact H
            have Ny170 := Aside0.mk hy170
            clear hy170
            have H' := Aside0.mk H
            clear H
            obtain ⟨Ao11, co11, eo11⟩ := Kd.R_slice HO_7.out
            subst eo11
            go_wp2_with (first | ((with_reducible refine gate_builtin (b := .append) (xs := #[.tmp 15, .tmp 17]) rfl ?_); at_builtin; refine Kd.R_append k74 (w0 := w) w.heap.size rfl (.tmp 15) (.tmp 17) 51 74 (.agg #[(.int .i64 0), (.int .i64 0)]) 16 rfl Tryf.underlying51 info74 rfl (by decide) (by omega) (.slice Ao11 x7_1.length co11) x7_1 (⟨0, 0⟩ : S74) [.int .i64 0, .int .i64 0] (fun k_ => k_ ≠ gb163) (fun _ => False) rfl rfl ?aP (fun _ hk => hk.elim) ?aF ?aO ?aB ?aS ?aL ?_; (case aP => exact k74_mkM _ _ _ (⟨0, 0⟩ : S74)); (case aB => exact (by repeat (first | (with_reducible first | exact HB.out | apply below_alloc | apply pw_below_drewN | apply below_drew1 | refine below_set ?_ GE163.out) | exact HB.out))); (case aF => exact (fun k_ hk => Kd.freshB (g := gb163) (o := .cells #[.int .i64 a2_0, .int .i64 a2_1] 74 (0, 0)) (by (with_reducible repeat (first | refine blk_drewN ?_ _ | refine blk_drew ?_ | refine blk_alloc ?_ _)); exact BK163.out) k_ hk)); (case aO => exact (by (with_reducible repeat (first | apply Kd.R_alloc | apply Kd.R_drewN | apply Kd.R_drew)); exact HO_7.out)); (case aS => exact (below_size (by repeat (first | (with_reducible first | exact HB.out | apply below_alloc | apply pw_below_drewN | apply below_drew1 | refine below_set ?_ GE163.out) | exact HB.out)))); (case aL => have := LMc10.out; omega); intro v171 w12 ho hb hg hat; rw [← Ny170.out] at ho; have n0_ := Aside0.mk (blk_grown (g := gb163) (o := .cells #[.int .i64 a2_0, .int .i64 a2_1] 74 (0, 0)) (by (with_reducible repeat (first | refine blk_drewN ?_ _ | refine blk_drew ?_ | refine blk_alloc ?_ _)); exact BK163.out) hg (Kd.R_away HO_7.out (fun _ hk => hk))); have n1_ := Aside0.mk (hb); have n2_ := Aside0.mk (ho); clear BK163; clear HB; clear HO_7; have BK163 := n0_; have HB := n1_; have HO172 := n2_; clear n0_ n1_ n2_; clear ho hb hg hat))
            go_roundg k1
            case measure => have := HK1.out; omega
            case rel => exact ⟨(y170), H', ⟨by have := HK1.out; omega⟩, ⟨by (with_reducible repeat (first | apply Kd.R_alloc | apply Kd.R_drewN | apply Kd.R_drew)); exact HO172.out⟩, ⟨by (with_reducible repeat (first | refine blk_drewN ?_ _ | refine blk_drew ?_ | refine blk_alloc ?_ _)); exact BK163.out⟩, ⟨by repeat (first | (with_reducible first | exact HB.out | apply below_alloc | apply pw_below_drewN | apply below_drew1 | refine below_set ?_ GE163.out) | exact HB.out)⟩⟩
          · rw [if_neg c10] at H
            exact absurd H (by simp)
        · rw [if_neg c9] at H
          have c9b0 : decide ((x7_1.length : Int) < a1) = false := decide_eq_false c9
          clear c9
          obtain ⟨ji13, hji13⟩ : ∃ j_ : Int, (wrap64 (a1 - 1)) = j_ := ⟨_, rfl⟩
          replace H : (if 0 ≤ (ji13) then (if (ji13) < (x7_1.length : Int) then (some (x7_1.set ((ji13) : Int).toNat (⟨a2_0, a2_1⟩ : S74))) else (none)) else (none)) = some r := by first | (rw [hji13] at H; exact H) | (simp only [hji13] at H ⊢; exact H)
          have hji13w : (IntKind.i64.wrap (a1 - 1)) = ji13 := (i64_w _).trans hji13
          by_cases c14 : 0 ≤ (ji13)
          · rw [if_pos c14] at H
            have c14b0 : decide (0 ≤ (ji13)) = true := decide_eq_true c14
            clear c14
            by_cases c15 : (ji13) < (x7_1.length : Int)
            · rw [if_pos c15] at H
              have c15b0 : decide ((ji13) < (x7_1.length : Int)) = true := decide_eq_true c15
              clear c15
              obtain ⟨y173, hy173⟩ : ∃ y_ : List (S74), y_ = (x7_1.set ((ji13) : Int).toNat (⟨a2_0, a2_1⟩ : S74)) := ⟨_, rfl⟩
              replace H : (some y173) = some r := by first | (rw [hy173]; with_reducible exact H) | (have H2_ := (Option.bind_some _ _).symm.trans H; rw [hy173]; with_reducible exact H2_) | (have H2_ := (Option.bind_some _ _).symm.trans H; with_reducible exact H2_) | with_reducible exact H | (rw [hy173]; exact H) | exact H
              have Ny173 := Aside0.mk hy173
              clear hy173
              obtain rfl := Option.some.inj H
              obtain ⟨Ao17, co17, eo17⟩ := Kd.R_slice HO_7.out
              subst eo17
              have hcz18_0 : wr.cell? ⟨gb163, 0, none⟩ = some (.int .i64 a2_0) := (blk_cell BK163.out 0).trans rfl
              have hcz18_1 : wr.cell? ⟨gb163, 1, none⟩ = some (.int .i64 a2_1) := (blk_cell BK163.out 1).trans rfl
              have hfz18_0 := blk_frozen BK163.out 0
              have hfz18_1 := blk_frozen BK163.out 1
              have p16 : 0 ≤ ((ji13) : Int) := of_decide_eq_true (by first | (with_reducible assumption) | assumption)
              have q16 : ((ji13) : Int) < ((x7_1.length : Int) : Int) := of_decide_eq_true (by first | (with_reducible assumption) | assumption)
              obtain ⟨go16, co16, eo16, gb16, gl16, cl16, HG16⟩ := Kd.R_form HO_7.out (by omega)
              (first | cases eo16 | (injection eo16 with ea_ en_ ec_; (first | subst ea_ | (injection ea_ with ea_; subst ea_)); subst ec_; clear en_))
              have GB16 := Aside0.mk gb16
              have GG16 := Aside0.mk HG16
              clear gb16 gl16 HG16
              obtain ⟨ce16, hcl16, hM16, hcc16, hfr16⟩ := Kd.R_elem HO_7.out z74 ((ji13) : Int) p16 q16
              obtain rfl := k74_openM hM16
              have hx16_0 : wr.cell? ⟨go16, ((ji13) : Int).toNat * 2, none⟩ = some (.int .i64 ((rd_T74 x7_1 (ji13)).f0)) := hcc16 0 _ rfl
              have hx16_1 : wr.cell? ⟨go16, ((ji13) : Int).toNat * 2 + 1, none⟩ = some (.int .i64 ((rd_T74 x7_1 (ji13)).f1)) := hcc16 1 _ rfl
              have hf16_0 : wr.frozen? ⟨go16, ((ji13) : Int).toNat * 2, none⟩ = false := hfr16 0
              have hf16_1 : wr.frozen? ⟨go16, ((ji13) : Int).toNat * 2 + 1, none⟩ = false := hfr16 1
              clear hcl16 hcc16 hfr16 hM16
              replace p16 := eq_true p16
              replace q16 := eq_true q16
              have HX19 := Aside0.mk (show Kd.R k74 74 wr w.heap.size (fun k_ => k_ ≠ gb163) (.slice (some ⟨go16, 0, none⟩) x7_1.length co17) x7_1 from (by (with_reducible repeat (first | apply Kd.R_alloc | apply Kd.R_drewN | apply Kd.R_drew)); exact HO_7.out))
              obtain ⟨ce19, hcl19, hM19, hcc19, hfr19⟩ := Kd.R_elem HX19.out z74 ((ji13) : Int) (of_decide_eq_true (by first | (with_reducible assumption) | assumption)) (by have h_ : ((ji13) : Int) < ((x7_1.length : Int) : Int) := of_decide_eq_true (by first | (with_reducible assumption) | assumption); first | exact h_ | (have e_ := (Kd.R_reads' HO_7.out).1; omega) | simpa using h_)
              obtain rfl := k74_openM hM19
              have HP19 := Kd.R_seg HX19.out ((ji13) : Int) (of_decide_eq_true (by first | (with_reducible assumption) | assumption)) (by have h_ : ((ji13) : Int) < ((x7_1.length : Int) : Int) := of_decide_eq_true (by first | (with_reducible assumption) | assumption); first | exact h_ | (have e_ := (Kd.R_reads' HO_7.out).1; omega) | simpa using h_) (seg := [.int .i64 a2_0, .int .i64 a2_1]) (j := 0) hcl19 hcc19 (show 2 ≤ 2 from by decide) (x' := (⟨a2_0, a2_1⟩ : S74)) (k74_mkM _ _ _ (⟨a2_0, a2_1⟩ : S74) ) (fun _ hk => hk)
              have hx19_0 := hcc19 0 _ rfl
              (try simp only [show (k74).sz = 2 from rfl, Nat.mul_one, Nat.add_zero] at hx19_0)
              have hf19_0 := hfr19 0
              (try simp only [show (k74).sz = 2 from rfl, Nat.mul_one, Nat.add_zero] at hf19_0)
              have hx19_1 := hcc19 1 _ rfl
              (try simp only [show (k74).sz = 2 from rfl, Nat.mul_one, Nat.add_zero] at hx19_1)
              have hf19_1 := hfr19 1
              (try simp only [show (k74).sz = 2 from rfl, Nat.mul_one, Nat.add_zero] at hf19_1)
              clear hcl19 hcc19 hfr19 hM19
              go_wp2_with (first | ((with_reducible refine gate_store (t := 74) (p := 23) rfl ?_); refine store_event (t := 74) (p := 23) (v := ?vo_w20) (w1 := ((wr.setCell ⟨go16, ((ji13) : Int).toNat * 2, none⟩ (.int .i64 a2_0)).setCell ⟨go16, ((ji13) : Int).toNat * 2 + 1, none⟩ (.int .i64 a2_1))) ?hg ?ho ?hn ?hr ?_; (case ho => rfl); (case hg => rfl); (case hn => rfl); (case hr => first | (go_simp; done) | (go_simp; rfl)); intro w20 hw; have hg : wr.grownBy w20 (some go16) := (by rw [hw]; exact HP19.2); have hp_ : Kd.R k74 74 w20 w.heap.size (fun k_ => k_ ≠ gb163) (.slice (some ⟨go16, 0, none⟩) x7_1.length co17) y173 := (by rw [hw, Ny173.out]; exact HP19.1); clear HP19; have n0_ := Aside0.mk (hp_); have n1_ := Aside0.mk (blk_grown (g := gb163) (o := .cells #[.int .i64 a2_0, .int .i64 a2_1] 74 (0, 0)) (by (with_reducible repeat (first | refine blk_drewN ?_ _ | refine blk_drew ?_ | refine blk_alloc ?_ _)); exact BK163.out) hg (Kd.R_away HO_7.out (fun _ hk => hk))); have n2_ := Aside0.mk ((by rw [hw]; exact below_set (below_set (HB.out) GB16.out) GB16.out : Below w.heap.size w w20)); clear HO_7; clear BK163; clear HB; have HO_7 := n0_; have BK163 := n1_; have HB := n2_; clear n0_ n1_ n2_; clear hg hw hp_))
              go_ret
              exact ⟨_, by first | rfl | (simp [errW_none, errW_some] <;> rfl) | (simp only [← hji13]; first | rfl | (simp [errW_none, errW_some] <;> rfl)) | (simp [*, errW_none, errW_some] <;> rfl), by (with_reducible repeat (first | apply Kd.R_alloc | apply Kd.R_drewN | apply Kd.R_drew)); exact Kd.R_mono HO_7.out (fun _ hk => trivial), by repeat (first | (with_reducible first | exact HB.out | apply below_alloc | apply pw_below_drewN | apply below_drew1 | refine below_set ?_ GE163.out) | exact HB.out)⟩
            · rw [if_neg c15] at H
              exact absurd H (by simp)
          · rw [if_neg c14] at H
            exact absurd H (by simp)
  · rw [if_neg c4] at H
    exact absurd H (by simp)

end Go.Proofs.YtpjfjfloeejgiaaFmt.PFnPatternFirst
