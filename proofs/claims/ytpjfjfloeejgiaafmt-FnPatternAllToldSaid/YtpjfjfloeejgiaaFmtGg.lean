/- Joined texts of this seat: MatA, MatB, MatC. -/
import Derived.Test.YtpjfjfloeejgiaaFmtGc
/- The classes' own Matches: a letter's class. -/
set_option linter.unusedVariables false
set_option linter.unusedSimpArgs false
namespace Go.Proofs.YtpjfjfloeejgiaaFmt.Mat
open Go.RowKit Go.Proofs.YtpjfjfloeejgiaaFmtW.PrintWords

def btw (a b ch : Int) : Bool := decide (a ≤ ch) && decide (ch ≤ b)
section
variable {w : World} {g : Nat} {ch : Int}
set_option maxHeartbeats 4000000 in
set_option maxRecDepth 100000 in
theorem sing_a (h : w.cell? ⟨g, 0, none⟩ = some (.int .i64 97)) :
    Calls Tryf.prog 81 #[.pointer (some ⟨g, 0, none⟩), .int .i64 ch] w fun e w' => e = .returned (.bool (btw 65 90 ch || btw 97 122 ch)) ∧ w = w' := by
  go_enter Tryf.func81, Tryf.ntmps81
  go_wp2
  all_goals
    go_ret
    refine ⟨congrArg Ending.returned (Eq.trans (show _ = Value.bool _ from rfl) (congrArg Value.bool ?_)), rfl⟩
    all_goals
      (refine Bool.eq_iff_iff.2 ?_) <;> (try simp only [beq_iff_eq, beq_eq_false_iff_ne, ne_eq] at *) <;> simp only [btw, Bool.or_eq_true, Bool.and_eq_true, decide_eq_true_eq, beq_iff_eq, Bool.not_eq_true', Bool.or_eq_false_iff, Bool.and_eq_false_iff, decide_eq_false_iff_not, beq_eq_false_iff_ne, Bool.not_or, Bool.not_and, Bool.false_eq_true, true_iff, false_iff, reduceCtorEq] <;> omega
set_option maxHeartbeats 4000000 in
set_option maxRecDepth 100000 in
theorem sing_A (h : w.cell? ⟨g, 0, none⟩ = some (.int .i64 65)) :
    Calls Tryf.prog 81 #[.pointer (some ⟨g, 0, none⟩), .int .i64 ch] w fun e w' => e = .returned (.bool (!(btw 65 90 ch || btw 97 122 ch))) ∧ w = w' := by
  go_enter Tryf.func81, Tryf.ntmps81
  go_wp2
  all_goals
    go_ret
    refine ⟨congrArg Ending.returned (Eq.trans (show _ = Value.bool _ from rfl) (congrArg Value.bool ?_)), rfl⟩
    all_goals
      (refine Bool.eq_iff_iff.2 ?_) <;> (try simp only [beq_iff_eq, beq_eq_false_iff_ne, ne_eq] at *) <;> simp only [btw, Bool.or_eq_true, Bool.and_eq_true, decide_eq_true_eq, beq_iff_eq, Bool.not_eq_true', Bool.or_eq_false_iff, Bool.and_eq_false_iff, decide_eq_false_iff_not, beq_eq_false_iff_ne, Bool.not_or, Bool.not_and, Bool.false_eq_true, true_iff, false_iff, reduceCtorEq] <;> omega
set_option maxHeartbeats 4000000 in
set_option maxRecDepth 100000 in
theorem sing_c (h : w.cell? ⟨g, 0, none⟩ = some (.int .i64 99)) :
    Calls Tryf.prog 81 #[.pointer (some ⟨g, 0, none⟩), .int .i64 ch] w fun e w' => e = .returned (.bool (btw 0 31 ch || ch == 127)) ∧ w = w' := by
  go_enter Tryf.func81, Tryf.ntmps81
  go_wp2
  all_goals
    go_ret
    refine ⟨congrArg Ending.returned (Eq.trans (show _ = Value.bool _ from rfl) (congrArg Value.bool ?_)), rfl⟩
    all_goals
      (refine Bool.eq_iff_iff.2 ?_) <;> (try simp only [beq_iff_eq, beq_eq_false_iff_ne, ne_eq] at *) <;> simp only [btw, Bool.or_eq_true, Bool.and_eq_true, decide_eq_true_eq, beq_iff_eq, Bool.not_eq_true', Bool.or_eq_false_iff, Bool.and_eq_false_iff, decide_eq_false_iff_not, beq_eq_false_iff_ne, Bool.not_or, Bool.not_and, Bool.false_eq_true, true_iff, false_iff, reduceCtorEq] <;> omega
set_option maxHeartbeats 4000000 in
set_option maxRecDepth 100000 in
theorem sing_C (h : w.cell? ⟨g, 0, none⟩ = some (.int .i64 67)) :
    Calls Tryf.prog 81 #[.pointer (some ⟨g, 0, none⟩), .int .i64 ch] w fun e w' => e = .returned (.bool (!(btw 0 31 ch || ch == 127))) ∧ w = w' := by
  go_enter Tryf.func81, Tryf.ntmps81
  go_wp2
  all_goals
    go_ret
    refine ⟨congrArg Ending.returned (Eq.trans (show _ = Value.bool _ from rfl) (congrArg Value.bool ?_)), rfl⟩
    all_goals
      (refine Bool.eq_iff_iff.2 ?_) <;> (try simp only [beq_iff_eq, beq_eq_false_iff_ne, ne_eq] at *) <;> simp only [btw, Bool.or_eq_true, Bool.and_eq_true, decide_eq_true_eq, beq_iff_eq, Bool.not_eq_true', Bool.or_eq_false_iff, Bool.and_eq_false_iff, decide_eq_false_iff_not, beq_eq_false_iff_ne, Bool.not_or, Bool.not_and, Bool.false_eq_true, true_iff, false_iff, reduceCtorEq] <;> omega
set_option maxHeartbeats 4000000 in
set_option maxRecDepth 100000 in
theorem sing_d (h : w.cell? ⟨g, 0, none⟩ = some (.int .i64 100)) :
    Calls Tryf.prog 81 #[.pointer (some ⟨g, 0, none⟩), .int .i64 ch] w fun e w' => e = .returned (.bool (btw 48 57 ch)) ∧ w = w' := by
  go_enter Tryf.func81, Tryf.ntmps81
  go_wp2
  all_goals
    go_ret
    refine ⟨congrArg Ending.returned (Eq.trans (show _ = Value.bool _ from rfl) (congrArg Value.bool ?_)), rfl⟩
    all_goals
      (refine Bool.eq_iff_iff.2 ?_) <;> (try simp only [beq_iff_eq, beq_eq_false_iff_ne, ne_eq] at *) <;> simp only [btw, Bool.or_eq_true, Bool.and_eq_true, decide_eq_true_eq, beq_iff_eq, Bool.not_eq_true', Bool.or_eq_false_iff, Bool.and_eq_false_iff, decide_eq_false_iff_not, beq_eq_false_iff_ne, Bool.not_or, Bool.not_and, Bool.false_eq_true, true_iff, false_iff, reduceCtorEq] <;> omega
set_option maxHeartbeats 4000000 in
set_option maxRecDepth 100000 in
theorem sing_D (h : w.cell? ⟨g, 0, none⟩ = some (.int .i64 68)) :
    Calls Tryf.prog 81 #[.pointer (some ⟨g, 0, none⟩), .int .i64 ch] w fun e w' => e = .returned (.bool (!(btw 48 57 ch))) ∧ w = w' := by
  go_enter Tryf.func81, Tryf.ntmps81
  go_wp2
  all_goals
    go_ret
    refine ⟨congrArg Ending.returned (Eq.trans (show _ = Value.bool _ from rfl) (congrArg Value.bool ?_)), rfl⟩
    all_goals
      (refine Bool.eq_iff_iff.2 ?_) <;> (try simp only [beq_iff_eq, beq_eq_false_iff_ne, ne_eq] at *) <;> simp only [btw, Bool.or_eq_true, Bool.and_eq_true, decide_eq_true_eq, beq_iff_eq, Bool.not_eq_true', Bool.or_eq_false_iff, Bool.and_eq_false_iff, decide_eq_false_iff_not, beq_eq_false_iff_ne, Bool.not_or, Bool.not_and, Bool.false_eq_true, true_iff, false_iff, reduceCtorEq] <;> omega
set_option maxHeartbeats 4000000 in
set_option maxRecDepth 100000 in
theorem sing_l (h : w.cell? ⟨g, 0, none⟩ = some (.int .i64 108)) :
    Calls Tryf.prog 81 #[.pointer (some ⟨g, 0, none⟩), .int .i64 ch] w fun e w' => e = .returned (.bool (btw 97 122 ch)) ∧ w = w' := by
  go_enter Tryf.func81, Tryf.ntmps81
  go_wp2
  all_goals
    go_ret
    refine ⟨congrArg Ending.returned (Eq.trans (show _ = Value.bool _ from rfl) (congrArg Value.bool ?_)), rfl⟩
    all_goals
      (refine Bool.eq_iff_iff.2 ?_) <;> (try simp only [beq_iff_eq, beq_eq_false_iff_ne, ne_eq] at *) <;> simp only [btw, Bool.or_eq_true, Bool.and_eq_true, decide_eq_true_eq, beq_iff_eq, Bool.not_eq_true', Bool.or_eq_false_iff, Bool.and_eq_false_iff, decide_eq_false_iff_not, beq_eq_false_iff_ne, Bool.not_or, Bool.not_and, Bool.false_eq_true, true_iff, false_iff, reduceCtorEq] <;> omega
set_option maxHeartbeats 4000000 in
set_option maxRecDepth 100000 in
theorem sing_L (h : w.cell? ⟨g, 0, none⟩ = some (.int .i64 76)) :
    Calls Tryf.prog 81 #[.pointer (some ⟨g, 0, none⟩), .int .i64 ch] w fun e w' => e = .returned (.bool (!(btw 97 122 ch))) ∧ w = w' := by
  go_enter Tryf.func81, Tryf.ntmps81
  go_wp2
  all_goals
    go_ret
    refine ⟨congrArg Ending.returned (Eq.trans (show _ = Value.bool _ from rfl) (congrArg Value.bool ?_)), rfl⟩
    all_goals
      (refine Bool.eq_iff_iff.2 ?_) <;> (try simp only [beq_iff_eq, beq_eq_false_iff_ne, ne_eq] at *) <;> simp only [btw, Bool.or_eq_true, Bool.and_eq_true, decide_eq_true_eq, beq_iff_eq, Bool.not_eq_true', Bool.or_eq_false_iff, Bool.and_eq_false_iff, decide_eq_false_iff_not, beq_eq_false_iff_ne, Bool.not_or, Bool.not_and, Bool.false_eq_true, true_iff, false_iff, reduceCtorEq] <;> omega
set_option maxHeartbeats 4000000 in
set_option maxRecDepth 100000 in
theorem sing_p (h : w.cell? ⟨g, 0, none⟩ = some (.int .i64 112)) :
    Calls Tryf.prog 81 #[.pointer (some ⟨g, 0, none⟩), .int .i64 ch] w fun e w' => e = .returned (.bool (btw 33 47 ch || btw 58 64 ch || btw 91 96 ch || btw 123 126 ch)) ∧ w = w' := by
  go_enter Tryf.func81, Tryf.ntmps81
  go_wp2
  all_goals
    go_ret
    refine ⟨congrArg Ending.returned (Eq.trans (show _ = Value.bool _ from rfl) (congrArg Value.bool ?_)), rfl⟩
    all_goals
      (refine Bool.eq_iff_iff.2 ?_) <;> (try simp only [beq_iff_eq, beq_eq_false_iff_ne, ne_eq] at *) <;> simp only [btw, Bool.or_eq_true, Bool.and_eq_true, decide_eq_true_eq, beq_iff_eq, Bool.not_eq_true', Bool.or_eq_false_iff, Bool.and_eq_false_iff, decide_eq_false_iff_not, beq_eq_false_iff_ne, Bool.not_or, Bool.not_and, Bool.false_eq_true, true_iff, false_iff, reduceCtorEq] <;> omega
set_option maxHeartbeats 4000000 in
set_option maxRecDepth 100000 in
theorem sing_P (h : w.cell? ⟨g, 0, none⟩ = some (.int .i64 80)) :
    Calls Tryf.prog 81 #[.pointer (some ⟨g, 0, none⟩), .int .i64 ch] w fun e w' => e = .returned (.bool (!(btw 33 47 ch || btw 58 64 ch || btw 91 96 ch || btw 123 126 ch))) ∧ w = w' := by
  go_enter Tryf.func81, Tryf.ntmps81
  go_wp2
  all_goals
    go_ret
    refine ⟨congrArg Ending.returned (Eq.trans (show _ = Value.bool _ from rfl) (congrArg Value.bool ?_)), rfl⟩
    all_goals
      (refine Bool.eq_iff_iff.2 ?_) <;> (try simp only [beq_iff_eq, beq_eq_false_iff_ne, ne_eq] at *) <;> simp only [btw, Bool.or_eq_true, Bool.and_eq_true, decide_eq_true_eq, beq_iff_eq, Bool.not_eq_true', Bool.or_eq_false_iff, Bool.and_eq_false_iff, decide_eq_false_iff_not, beq_eq_false_iff_ne, Bool.not_or, Bool.not_and, Bool.false_eq_true, true_iff, false_iff, reduceCtorEq] <;> omega
set_option maxHeartbeats 4000000 in
set_option maxRecDepth 100000 in
theorem sing_s (h : w.cell? ⟨g, 0, none⟩ = some (.int .i64 115)) :
    Calls Tryf.prog 81 #[.pointer (some ⟨g, 0, none⟩), .int .i64 ch] w fun e w' => e = .returned (.bool (ch == 32 || ch == 12 || ch == 10 || ch == 13 || ch == 9 || ch == 11)) ∧ w = w' := by
  go_enter Tryf.func81, Tryf.ntmps81
  go_wp2
  all_goals
    go_ret
    refine ⟨congrArg Ending.returned (Eq.trans (show _ = Value.bool _ from rfl) (congrArg Value.bool ?_)), rfl⟩
    all_goals
      (refine Bool.eq_iff_iff.2 ?_) <;> (try simp only [beq_iff_eq, beq_eq_false_iff_ne, ne_eq] at *) <;> simp only [btw, Bool.or_eq_true, Bool.and_eq_true, decide_eq_true_eq, beq_iff_eq, Bool.not_eq_true', Bool.or_eq_false_iff, Bool.and_eq_false_iff, decide_eq_false_iff_not, beq_eq_false_iff_ne, Bool.not_or, Bool.not_and, Bool.false_eq_true, true_iff, false_iff, reduceCtorEq] <;> omega
set_option maxHeartbeats 4000000 in
set_option maxRecDepth 100000 in
theorem sing_S (h : w.cell? ⟨g, 0, none⟩ = some (.int .i64 83)) :
    Calls Tryf.prog 81 #[.pointer (some ⟨g, 0, none⟩), .int .i64 ch] w fun e w' => e = .returned (.bool (!(ch == 32 || ch == 12 || ch == 10 || ch == 13 || ch == 9 || ch == 11))) ∧ w = w' := by
  go_enter Tryf.func81, Tryf.ntmps81
  go_wp2
  all_goals
    go_ret
    refine ⟨congrArg Ending.returned (Eq.trans (show _ = Value.bool _ from rfl) (congrArg Value.bool ?_)), rfl⟩
    all_goals
      (refine Bool.eq_iff_iff.2 ?_) <;> (try simp only [beq_iff_eq, beq_eq_false_iff_ne, ne_eq] at *) <;> simp only [btw, Bool.or_eq_true, Bool.and_eq_true, decide_eq_true_eq, beq_iff_eq, Bool.not_eq_true', Bool.or_eq_false_iff, Bool.and_eq_false_iff, decide_eq_false_iff_not, beq_eq_false_iff_ne, Bool.not_or, Bool.not_and, Bool.false_eq_true, true_iff, false_iff, reduceCtorEq] <;> omega
set_option maxHeartbeats 4000000 in
set_option maxRecDepth 100000 in
theorem sing_u (h : w.cell? ⟨g, 0, none⟩ = some (.int .i64 117)) :
    Calls Tryf.prog 81 #[.pointer (some ⟨g, 0, none⟩), .int .i64 ch] w fun e w' => e = .returned (.bool (btw 65 90 ch)) ∧ w = w' := by
  go_enter Tryf.func81, Tryf.ntmps81
  go_wp2
  all_goals
    go_ret
    refine ⟨congrArg Ending.returned (Eq.trans (show _ = Value.bool _ from rfl) (congrArg Value.bool ?_)), rfl⟩
    all_goals
      (refine Bool.eq_iff_iff.2 ?_) <;> (try simp only [beq_iff_eq, beq_eq_false_iff_ne, ne_eq] at *) <;> simp only [btw, Bool.or_eq_true, Bool.and_eq_true, decide_eq_true_eq, beq_iff_eq, Bool.not_eq_true', Bool.or_eq_false_iff, Bool.and_eq_false_iff, decide_eq_false_iff_not, beq_eq_false_iff_ne, Bool.not_or, Bool.not_and, Bool.false_eq_true, true_iff, false_iff, reduceCtorEq] <;> omega
set_option maxHeartbeats 4000000 in
set_option maxRecDepth 100000 in
theorem sing_U (h : w.cell? ⟨g, 0, none⟩ = some (.int .i64 85)) :
    Calls Tryf.prog 81 #[.pointer (some ⟨g, 0, none⟩), .int .i64 ch] w fun e w' => e = .returned (.bool (!(btw 65 90 ch))) ∧ w = w' := by
  go_enter Tryf.func81, Tryf.ntmps81
  go_wp2
  all_goals
    go_ret
    refine ⟨congrArg Ending.returned (Eq.trans (show _ = Value.bool _ from rfl) (congrArg Value.bool ?_)), rfl⟩
    all_goals
      (refine Bool.eq_iff_iff.2 ?_) <;> (try simp only [beq_iff_eq, beq_eq_false_iff_ne, ne_eq] at *) <;> simp only [btw, Bool.or_eq_true, Bool.and_eq_true, decide_eq_true_eq, beq_iff_eq, Bool.not_eq_true', Bool.or_eq_false_iff, Bool.and_eq_false_iff, decide_eq_false_iff_not, beq_eq_false_iff_ne, Bool.not_or, Bool.not_and, Bool.false_eq_true, true_iff, false_iff, reduceCtorEq] <;> omega
set_option maxHeartbeats 4000000 in
set_option maxRecDepth 100000 in
theorem sing_w (h : w.cell? ⟨g, 0, none⟩ = some (.int .i64 119)) :
    Calls Tryf.prog 81 #[.pointer (some ⟨g, 0, none⟩), .int .i64 ch] w fun e w' => e = .returned (.bool (btw 48 57 ch || btw 65 90 ch || btw 97 122 ch)) ∧ w = w' := by
  go_enter Tryf.func81, Tryf.ntmps81
  go_wp2
  all_goals
    go_ret
    refine ⟨congrArg Ending.returned (Eq.trans (show _ = Value.bool _ from rfl) (congrArg Value.bool ?_)), rfl⟩
    all_goals
      (refine Bool.eq_iff_iff.2 ?_) <;> (try simp only [beq_iff_eq, beq_eq_false_iff_ne, ne_eq] at *) <;> simp only [btw, Bool.or_eq_true, Bool.and_eq_true, decide_eq_true_eq, beq_iff_eq, Bool.not_eq_true', Bool.or_eq_false_iff, Bool.and_eq_false_iff, decide_eq_false_iff_not, beq_eq_false_iff_ne, Bool.not_or, Bool.not_and, Bool.false_eq_true, true_iff, false_iff, reduceCtorEq] <;> omega
set_option maxHeartbeats 4000000 in
set_option maxRecDepth 100000 in
theorem sing_W (h : w.cell? ⟨g, 0, none⟩ = some (.int .i64 87)) :
    Calls Tryf.prog 81 #[.pointer (some ⟨g, 0, none⟩), .int .i64 ch] w fun e w' => e = .returned (.bool (!(btw 48 57 ch || btw 65 90 ch || btw 97 122 ch))) ∧ w = w' := by
  go_enter Tryf.func81, Tryf.ntmps81
  go_wp2
  all_goals
    go_ret
    refine ⟨congrArg Ending.returned (Eq.trans (show _ = Value.bool _ from rfl) (congrArg Value.bool ?_)), rfl⟩
    all_goals
      (refine Bool.eq_iff_iff.2 ?_) <;> (try simp only [beq_iff_eq, beq_eq_false_iff_ne, ne_eq] at *) <;> simp only [btw, Bool.or_eq_true, Bool.and_eq_true, decide_eq_true_eq, beq_iff_eq, Bool.not_eq_true', Bool.or_eq_false_iff, Bool.and_eq_false_iff, decide_eq_false_iff_not, beq_eq_false_iff_ne, Bool.not_or, Bool.not_and, Bool.false_eq_true, true_iff, false_iff, reduceCtorEq] <;> omega
set_option maxHeartbeats 4000000 in
set_option maxRecDepth 100000 in
theorem sing_x (h : w.cell? ⟨g, 0, none⟩ = some (.int .i64 120)) :
    Calls Tryf.prog 81 #[.pointer (some ⟨g, 0, none⟩), .int .i64 ch] w fun e w' => e = .returned (.bool (btw 48 57 ch || btw 97 102 ch || btw 65 70 ch)) ∧ w = w' := by
  go_enter Tryf.func81, Tryf.ntmps81
  go_wp2
  all_goals
    go_ret
    refine ⟨congrArg Ending.returned (Eq.trans (show _ = Value.bool _ from rfl) (congrArg Value.bool ?_)), rfl⟩
    all_goals
      (refine Bool.eq_iff_iff.2 ?_) <;> (try simp only [beq_iff_eq, beq_eq_false_iff_ne, ne_eq] at *) <;> simp only [btw, Bool.or_eq_true, Bool.and_eq_true, decide_eq_true_eq, beq_iff_eq, Bool.not_eq_true', Bool.or_eq_false_iff, Bool.and_eq_false_iff, decide_eq_false_iff_not, beq_eq_false_iff_ne, Bool.not_or, Bool.not_and, Bool.false_eq_true, true_iff, false_iff, reduceCtorEq] <;> omega
set_option maxHeartbeats 4000000 in
set_option maxRecDepth 100000 in
theorem sing_X (h : w.cell? ⟨g, 0, none⟩ = some (.int .i64 88)) :
    Calls Tryf.prog 81 #[.pointer (some ⟨g, 0, none⟩), .int .i64 ch] w fun e w' => e = .returned (.bool (!(btw 48 57 ch || btw 97 102 ch || btw 65 70 ch))) ∧ w = w' := by
  go_enter Tryf.func81, Tryf.ntmps81
  go_wp2
  all_goals
    go_ret
    refine ⟨congrArg Ending.returned (Eq.trans (show _ = Value.bool _ from rfl) (congrArg Value.bool ?_)), rfl⟩
    all_goals
      (refine Bool.eq_iff_iff.2 ?_) <;> (try simp only [beq_iff_eq, beq_eq_false_iff_ne, ne_eq] at *) <;> simp only [btw, Bool.or_eq_true, Bool.and_eq_true, decide_eq_true_eq, beq_iff_eq, Bool.not_eq_true', Bool.or_eq_false_iff, Bool.and_eq_false_iff, decide_eq_false_iff_not, beq_eq_false_iff_ne, Bool.not_or, Bool.not_and, Bool.false_eq_true, true_iff, false_iff, reduceCtorEq] <;> omega
set_option maxHeartbeats 4000000 in
set_option maxRecDepth 100000 in
theorem sing_z (h : w.cell? ⟨g, 0, none⟩ = some (.int .i64 122)) :
    Calls Tryf.prog 81 #[.pointer (some ⟨g, 0, none⟩), .int .i64 ch] w fun e w' => e = .returned (.bool (ch == 0)) ∧ w = w' := by
  go_enter Tryf.func81, Tryf.ntmps81
  go_wp2
  all_goals
    go_ret
    refine ⟨congrArg Ending.returned (Eq.trans (show _ = Value.bool _ from rfl) (congrArg Value.bool ?_)), rfl⟩
    all_goals
      (refine Bool.eq_iff_iff.2 ?_) <;> (try simp only [beq_iff_eq, beq_eq_false_iff_ne, ne_eq] at *) <;> simp only [btw, Bool.or_eq_true, Bool.and_eq_true, decide_eq_true_eq, beq_iff_eq, Bool.not_eq_true', Bool.or_eq_false_iff, Bool.and_eq_false_iff, decide_eq_false_iff_not, beq_eq_false_iff_ne, Bool.not_or, Bool.not_and, Bool.false_eq_true, true_iff, false_iff, reduceCtorEq] <;> omega
set_option maxHeartbeats 4000000 in
set_option maxRecDepth 100000 in
theorem sing_Z (h : w.cell? ⟨g, 0, none⟩ = some (.int .i64 90)) :
    Calls Tryf.prog 81 #[.pointer (some ⟨g, 0, none⟩), .int .i64 ch] w fun e w' => e = .returned (.bool (!(ch == 0))) ∧ w = w' := by
  go_enter Tryf.func81, Tryf.ntmps81
  go_wp2
  all_goals
    go_ret
    refine ⟨congrArg Ending.returned (Eq.trans (show _ = Value.bool _ from rfl) (congrArg Value.bool ?_)), rfl⟩
    all_goals
      (refine Bool.eq_iff_iff.2 ?_) <;> (try simp only [beq_iff_eq, beq_eq_false_iff_ne, ne_eq] at *) <;> simp only [btw, Bool.or_eq_true, Bool.and_eq_true, decide_eq_true_eq, beq_iff_eq, Bool.not_eq_true', Bool.or_eq_false_iff, Bool.and_eq_false_iff, decide_eq_false_iff_not, beq_eq_false_iff_ne, Bool.not_or, Bool.not_and, Bool.false_eq_true, true_iff, false_iff, reduceCtorEq] <;> omega
set_option maxHeartbeats 4000000 in
set_option maxRecDepth 100000 in
theorem sing_other {c : Int} (h : w.cell? ⟨g, 0, none⟩ = some (.int .i64 c)) (n97 : c ≠ 97) (n65 : c ≠ 65) (n99 : c ≠ 99) (n67 : c ≠ 67) (n100 : c ≠ 100) (n68 : c ≠ 68) (n108 : c ≠ 108) (n76 : c ≠ 76) (n112 : c ≠ 112) (n80 : c ≠ 80) (n115 : c ≠ 115) (n83 : c ≠ 83) (n117 : c ≠ 117) (n85 : c ≠ 85) (n119 : c ≠ 119) (n87 : c ≠ 87) (n120 : c ≠ 120) (n88 : c ≠ 88) (n122 : c ≠ 122) (n90 : c ≠ 90) :
    Calls Tryf.prog 81 #[.pointer (some ⟨g, 0, none⟩), .int .i64 ch] w fun e w' => e = .returned (.bool (ch == c)) ∧ w = w' := by
  have b97 : (c == 97) = false := beq_eq_false_iff_ne.mpr n97
  have b65 : (c == 65) = false := beq_eq_false_iff_ne.mpr n65
  have b99 : (c == 99) = false := beq_eq_false_iff_ne.mpr n99
  have b67 : (c == 67) = false := beq_eq_false_iff_ne.mpr n67
  have b100 : (c == 100) = false := beq_eq_false_iff_ne.mpr n100
  have b68 : (c == 68) = false := beq_eq_false_iff_ne.mpr n68
  have b108 : (c == 108) = false := beq_eq_false_iff_ne.mpr n108
  have b76 : (c == 76) = false := beq_eq_false_iff_ne.mpr n76
  have b112 : (c == 112) = false := beq_eq_false_iff_ne.mpr n112
  have b80 : (c == 80) = false := beq_eq_false_iff_ne.mpr n80
  have b115 : (c == 115) = false := beq_eq_false_iff_ne.mpr n115
  have b83 : (c == 83) = false := beq_eq_false_iff_ne.mpr n83
  have b117 : (c == 117) = false := beq_eq_false_iff_ne.mpr n117
  have b85 : (c == 85) = false := beq_eq_false_iff_ne.mpr n85
  have b119 : (c == 119) = false := beq_eq_false_iff_ne.mpr n119
  have b87 : (c == 87) = false := beq_eq_false_iff_ne.mpr n87
  have b120 : (c == 120) = false := beq_eq_false_iff_ne.mpr n120
  have b88 : (c == 88) = false := beq_eq_false_iff_ne.mpr n88
  have b122 : (c == 122) = false := beq_eq_false_iff_ne.mpr n122
  have b90 : (c == 90) = false := beq_eq_false_iff_ne.mpr n90
  clear n97 n65 n99 n67 n100 n68 n108 n76 n112 n80 n115 n83 n117 n85 n119 n87 n120 n88 n122 n90
  go_enter Tryf.func81, Tryf.ntmps81
  go_wp2
  go_ret
  exact ⟨rfl, rfl⟩
end
/-- A lower letter's class. -/
def singl (l ch : Int) : Option Bool :=
  if l = 97 then some (btw 65 90 ch || btw 97 122 ch)
  else if l = 99 then some (btw 0 31 ch || ch == 127)
  else if l = 100 then some (btw 48 57 ch)
  else if l = 108 then some (btw 97 122 ch)
  else if l = 112 then some (btw 33 47 ch || btw 58 64 ch || btw 91 96 ch || btw 123 126 ch)
  else if l = 115 then some (ch == 32 || ch == 12 || ch == 10 || ch == 13 || ch == 9 || ch == 11)
  else if l = 117 then some (btw 65 90 ch)
  else if l = 119 then some (btw 48 57 ch || btw 65 90 ch || btw 97 122 ch)
  else if l = 120 then some (btw 48 57 ch || btw 97 102 ch || btw 65 70 ch)
  else if l = 122 then some (ch == 0)
  else none
/-- A letter's class; an upper letter's is the contrary. -/
def sing (c ch : Int) : Bool :=
  if 65 ≤ c ∧ c ≤ 90 then (match singl (c + 32) ch with | some b => !b | none => ch == c) else (match singl c ch with | some b => b | none => ch == c)
section
variable {w : World} {g : Nat} {ch : Int}
theorem sing_any {c : Int} (h : w.cell? ⟨g, 0, none⟩ = some (.int .i64 c)) :
    Calls Tryf.prog 81 #[.pointer (some ⟨g, 0, none⟩), .int .i64 ch] w fun e w' => e = .returned (.bool (sing c ch)) ∧ w = w' := by
  by_cases n97 : c = 97
  · subst n97; exact sing_a h
  by_cases n65 : c = 65
  · subst n65; exact sing_A h
  by_cases n99 : c = 99
  · subst n99; exact sing_c h
  by_cases n67 : c = 67
  · subst n67; exact sing_C h
  by_cases n100 : c = 100
  · subst n100; exact sing_d h
  by_cases n68 : c = 68
  · subst n68; exact sing_D h
  by_cases n108 : c = 108
  · subst n108; exact sing_l h
  by_cases n76 : c = 76
  · subst n76; exact sing_L h
  by_cases n112 : c = 112
  · subst n112; exact sing_p h
  by_cases n80 : c = 80
  · subst n80; exact sing_P h
  by_cases n115 : c = 115
  · subst n115; exact sing_s h
  by_cases n83 : c = 83
  · subst n83; exact sing_S h
  by_cases n117 : c = 117
  · subst n117; exact sing_u h
  by_cases n85 : c = 85
  · subst n85; exact sing_U h
  by_cases n119 : c = 119
  · subst n119; exact sing_w h
  by_cases n87 : c = 87
  · subst n87; exact sing_W h
  by_cases n120 : c = 120
  · subst n120; exact sing_x h
  by_cases n88 : c = 88
  · subst n88; exact sing_X h
  by_cases n122 : c = 122
  · subst n122; exact sing_z h
  by_cases n90 : c = 90
  · subst n90; exact sing_Z h
  have hs : sing c ch = (ch == c) := by
    have h1 : singl (c + 32) ch = none ∨ ¬ (65 ≤ c ∧ c ≤ 90) := by
      by_cases hu : 65 ≤ c ∧ c ≤ 90
      · left
        unfold singl
        rw [if_neg (by omega)]
        rw [if_neg (by omega)]
        rw [if_neg (by omega)]
        rw [if_neg (by omega)]
        rw [if_neg (by omega)]
        rw [if_neg (by omega)]
        rw [if_neg (by omega)]
        rw [if_neg (by omega)]
        rw [if_neg (by omega)]
        rw [if_neg (by omega)]
      · right; exact hu
    have h2 : singl c ch = none := by
      unfold singl
      rw [if_neg (by omega)]
      rw [if_neg (by omega)]
      rw [if_neg (by omega)]
      rw [if_neg (by omega)]
      rw [if_neg (by omega)]
      rw [if_neg (by omega)]
      rw [if_neg (by omega)]
      rw [if_neg (by omega)]
      rw [if_neg (by omega)]
      rw [if_neg (by omega)]
    unfold sing
    rcases h1 with h1 | h1
    · rw [h1, h2]; split <;> rfl
    · rw [if_neg h1, h2]
  rw [hs]
  exact sing_other h n97 n65 n99 n67 n100 n68 n108 n76 n112 n80 n115 n83 n117 n85 n119 n87 n120 n88 n122 n90
end
end Go.Proofs.YtpjfjfloeejgiaaFmt.Mat
/- The classes' own Matches: a character, the dot, a range. -/
set_option linter.unusedVariables false
set_option linter.unusedSimpArgs false
namespace Go.Proofs.YtpjfjfloeejgiaaFmt.Mat
open Go.RowKit Go.Proofs.YtpjfjfloeejgiaaFmtW.PrintWords Go.Proofs.YtpjfjfloeejgiaaFmt.Cls

section
variable {w : World} {g base : Nat} {ok : Nat → Prop} {ch : Int}
set_option maxHeartbeats 4000000 in
theorem chr_any {c : Int} (h : w.cell? ⟨g, 0, none⟩ = some (.int .i64 c)) :
    Calls Tryf.prog 80 #[.pointer (some ⟨g, 0, none⟩), .int .i64 ch] w fun e w' => e = .returned (.bool (c == ch)) ∧ w = w' := by
  go_enter Tryf.func80, Tryf.ntmps80
  go_wp2
  go_ret
  exact ⟨rfl, rfl⟩
set_option maxHeartbeats 4000000 in
theorem dot_any : Calls Tryf.prog 82 #[.pointer (some ⟨g, 0, none⟩), .int .i64 ch] w fun e w' => e = .returned (.bool true) ∧ w = w' := by
  go_enter Tryf.func82, Tryf.ntmps82
  go_wp2
  go_ret
  exact ⟨rfl, rfl⟩
theorem ta127 (x : Value) (w : World) : (Instr.typeAssert (.iface 127 x) 112 127 true).run Tryf.prog w = .ok (.tuple #[x, .bool true]) w := by kernel_rfl
set_option maxHeartbeats 4000000 in
theorem rng_any {gb ge : Nat} {b e : Int} (h0 : w.cell? ⟨g, 0, none⟩ = some (.iface 127 (.pointer (some ⟨gb, 0, none⟩)))) (h1 : w.cell? ⟨g, 1, none⟩ = some (.iface 127 (.pointer (some ⟨ge, 0, none⟩)))) (hb : w.cell? ⟨gb, 0, none⟩ = some (.int .i64 b)) (he : w.cell? ⟨ge, 0, none⟩ = some (.int .i64 e)) :
    Calls Tryf.prog 84 #[.pointer (some ⟨g, 0, none⟩), .int .i64 ch] w fun e' w' => e' = .returned (.bool (decide (b ≤ ch) && decide (ch ≤ e))) ∧ w = w' := by
  have t1 := ta127 (.pointer (some ⟨gb, 0, none⟩))
  have t2 := ta127 (.pointer (some ⟨ge, 0, none⟩))
  go_enter Tryf.func84, Tryf.ntmps84
  go_wp2
  all_goals
    go_ret
    refine ⟨congrArg Ending.returned (Eq.trans (show _ = Value.bool _ from rfl) (congrArg Value.bool ?_)), rfl⟩
    refine Bool.eq_iff_iff.2 ?_
    simp only [Bool.and_eq_true, decide_eq_true_eq, Bool.false_eq_true, true_iff, false_iff, reduceCtorEq] <;> omega
end
end Go.Proofs.YtpjfjfloeejgiaaFmt.Mat
/- The classes' own Matches: a set; any class. -/
set_option linter.unusedVariables false
set_option linter.unusedSimpArgs false
namespace Go.Proofs.YtpjfjfloeejgiaaFmt.Mat
open Go.RowKit Go.Proofs.YtpjfjfloeejgiaaFmtW.PrintWords Go.Proofs.YtpjfjfloeejgiaaFmt.Cls

/-- At the head of the loop over a set. -/
def AtSet (g : Nat) (ch : Int) (r L cs : Nat) (R : Nat → World → Prop) (k : Nat) (a : Act) (w : World) : Prop :=
  a.tmps.size = 29 ∧ a.defers = [] ∧ (a.tmps.getD 0 undef = .pointer (some ⟨g, 0, none⟩) ∧ a.tmps.getD 1 undef = .int .i64 ch ∧ a.tmps.getD 10 undef = .slice (some ⟨r, 0, none⟩) L cs ∧ a.tmps.getD 11 undef = .int .i64 (L : Int) ∧ a.tmps.getD 12 undef = .int .i64 ((L - k : Nat) : Int)) ∧ R k w
set_option maxRecDepth 100000 in
theorem AtSet.open_ {g : Nat} {ch : Int} {r L cs : Nat} {R : Nat → World → Prop} {k : Nat} {a : Act} {w : World} (h : AtSet g ch r L cs R k a w) : (∃ u : Nat → Value, a = ⟨#[.pointer (some ⟨g, 0, none⟩), .int .i64 ch, u 2, u 3, u 4, u 5, u 6, u 7, u 8, u 9, .slice (some ⟨r, 0, none⟩) L cs, .int .i64 (L : Int), .int .i64 ((L - k : Nat) : Int), u 13, u 14, u 15, u 16, u 17, u 18, u 19, u 20, u 21, u 22, u 23, u 24, u 25, u 26, u 27, u 28], []⟩) ∧ R k w := by
  obtain ⟨tmps, defers⟩ := a
  obtain ⟨hs, hd, ⟨h0, h1, h10, h11, h12⟩, hR⟩ := h
  refine ⟨⟨fun i => tmps.getD i undef, ?_⟩, hR⟩
  have hd' : defers = [] := hd
  subst hd'
  have k0 : tmps.getD 0 undef = .pointer (some ⟨g, 0, none⟩) := h0
  have k1 : tmps.getD 1 undef = .int .i64 ch := h1
  have k10 : tmps.getD 10 undef = .slice (some ⟨r, 0, none⟩) L cs := h10
  have k11 : tmps.getD 11 undef = .int .i64 (L : Int) := h11
  have k12 : tmps.getD 12 undef = .int .i64 ((L - k : Nat) : Int) := h12
  have h := frame_lit 29 tmps hs
  have h2 : ((List.range 29).map (fun i => tmps.getD i undef)).toArray = #[tmps.getD 0 undef, tmps.getD 1 undef, tmps.getD 2 undef, tmps.getD 3 undef, tmps.getD 4 undef, tmps.getD 5 undef, tmps.getD 6 undef, tmps.getD 7 undef, tmps.getD 8 undef, tmps.getD 9 undef, tmps.getD 10 undef, tmps.getD 11 undef, tmps.getD 12 undef, tmps.getD 13 undef, tmps.getD 14 undef, tmps.getD 15 undef, tmps.getD 16 undef, tmps.getD 17 undef, tmps.getD 18 undef, tmps.getD 19 undef, tmps.getD 20 undef, tmps.getD 21 undef, tmps.getD 22 undef, tmps.getD 23 undef, tmps.getD 24 undef, tmps.getD 25 undef, tmps.getD 26 undef, tmps.getD 27 undef, tmps.getD 28 undef] := rfl
  rw [h2] at h
  rw [k0, k1, k10, k11, k12] at h
  exact congrArg (fun t => Act.mk t []) h
/-- At the head of the loop over nothing. -/
def AtNil (g : Nat) (ch : Int) (A : Option Addr) (cs : Nat) (R : Nat → World → Prop) (k : Nat) (a : Act) (w : World) : Prop :=
  a.tmps.size = 29 ∧ a.defers = [] ∧ (a.tmps.getD 0 undef = .pointer (some ⟨g, 0, none⟩) ∧ a.tmps.getD 1 undef = .int .i64 ch ∧ a.tmps.getD 10 undef = .slice A 0 cs ∧ a.tmps.getD 11 undef = .int .i64 0 ∧ a.tmps.getD 12 undef = .int .i64 0) ∧ R k w
set_option maxRecDepth 100000 in
theorem AtNil.open_ {g : Nat} {ch : Int} {A : Option Addr} {cs : Nat} {R : Nat → World → Prop} {k : Nat} {a : Act} {w : World} (h : AtNil g ch A cs R k a w) : (∃ u : Nat → Value, a = ⟨#[.pointer (some ⟨g, 0, none⟩), .int .i64 ch, u 2, u 3, u 4, u 5, u 6, u 7, u 8, u 9, .slice A 0 cs, .int .i64 0, .int .i64 0, u 13, u 14, u 15, u 16, u 17, u 18, u 19, u 20, u 21, u 22, u 23, u 24, u 25, u 26, u 27, u 28], []⟩) ∧ R k w := by
  obtain ⟨tmps, defers⟩ := a
  obtain ⟨hs, hd, ⟨h0, h1, h10, h11, h12⟩, hR⟩ := h
  refine ⟨⟨fun i => tmps.getD i undef, ?_⟩, hR⟩
  have hd' : defers = [] := hd
  subst hd'
  have k0 : tmps.getD 0 undef = .pointer (some ⟨g, 0, none⟩) := h0
  have k1 : tmps.getD 1 undef = .int .i64 ch := h1
  have k10 : tmps.getD 10 undef = .slice A 0 cs := h10
  have k11 : tmps.getD 11 undef = .int .i64 0 := h11
  have k12 : tmps.getD 12 undef = .int .i64 0 := h12
  have h := frame_lit 29 tmps hs
  have h2 : ((List.range 29).map (fun i => tmps.getD i undef)).toArray = #[tmps.getD 0 undef, tmps.getD 1 undef, tmps.getD 2 undef, tmps.getD 3 undef, tmps.getD 4 undef, tmps.getD 5 undef, tmps.getD 6 undef, tmps.getD 7 undef, tmps.getD 8 undef, tmps.getD 9 undef, tmps.getD 10 undef, tmps.getD 11 undef, tmps.getD 12 undef, tmps.getD 13 undef, tmps.getD 14 undef, tmps.getD 15 undef, tmps.getD 16 undef, tmps.getD 17 undef, tmps.getD 18 undef, tmps.getD 19 undef, tmps.getD 20 undef, tmps.getD 21 undef, tmps.getD 22 undef, tmps.getD 23 undef, tmps.getD 24 undef, tmps.getD 25 undef, tmps.getD 26 undef, tmps.getD 27 undef, tmps.getD 28 undef] := rfl
  rw [h2] at h
  rw [k0, k1, k10, k11, k12] at h
  exact congrArg (fun t => Act.mk t []) h

/-- Does the atom hold the character? -/
def atomm (a : Atom) (ch : Int) : Bool :=
  match a with
  | .chr c => c == ch
  | .sing c => sing c ch
  | .rng b e => decide (b ≤ ch) && decide (ch ≤ e)
/-- Does the class hold it? -/
def clsm (c : Cls) (ch : Int) : Bool :=
  match c with
  | .dot => true
  | .atom a => atomm a ch
  | .set neg al => if al.any (fun a => atomm a ch) then !neg else neg
def SetR (w : World) (al : List Atom) (ch : Int) (k : Nat) (wr : World) : Prop := wr = w ∧ k ≤ al.length ∧ (al.take (al.length - k)).any (fun a => atomm a ch) = false

theorem me127 (a : Addr) (w : World) : (method 292 127 (.pointer (some a)) "Matches").run Tryf.prog w = .ok (80, .pointer (some a)) w := by kernel_rfl
theorem me158 (a : Addr) (w : World) : (method 292 158 (.pointer (some a)) "Matches").run Tryf.prog w = .ok (81, .pointer (some a)) w := by kernel_rfl
theorem me161 (a : Addr) (w : World) : (method 292 161 (.pointer (some a)) "Matches").run Tryf.prog w = .ok (82, .pointer (some a)) w := by kernel_rfl
theorem me167 (a : Addr) (w : World) : (method 292 167 (.pointer (some a)) "Matches").run Tryf.prog w = .ok (83, .pointer (some a)) w := by kernel_rfl
theorem me171 (a : Addr) (w : World) : (method 292 171 (.pointer (some a)) "Matches").run Tryf.prog w = .ok (84, .pointer (some a)) w := by kernel_rfl

section
variable {w : World} {g base : Nat} {ok : Nat → Prop} {ch : Int}
set_option maxHeartbeats 40000000 in
set_option maxRecDepth 100000 in
theorem set_any {neg : Bool} {v : Value} {al : List Atom} (h : w.heap[g]? = some (.cells #[.bool neg, v] 170 (0, 0))) (hr : atomK.R 112 w base ok v al) (hl : al.length ≤ 1000000) :
    Calls Tryf.prog 83 #[.pointer (some ⟨g, 0, none⟩), .int .i64 ch] w fun e w' => e = .returned (.bool (clsm (.set neg al) ch)) ∧ w = w' := by
  have e0 : w.cell? ⟨g, 0, none⟩ = some (.bool neg) := blk_cell h 0
  rcases Nat.eq_zero_or_pos al.length with h0 | hpos
  · obtain rfl : al = [] := List.length_eq_zero_iff.1 h0
    obtain ⟨A, cs, rfl⟩ := Kd.R_slice hr
    have e1 : w.cell? ⟨g, 1, none⟩ = some (.slice A 0 cs) := blk_cell h 1
    clear h hr hl h0
    go_enter Tryf.func83, Tryf.ntmps83
    go_wp2_with fail
    refine wp_loop_ghost_k (AtNil g ch A cs (fun _ wr => wr = w)) 0 ⟨rfl, rfl, ⟨rfl, rfl, rfl, rfl, rfl⟩, rfl⟩ ?_
    intro gk a wr hI J K hJ hK
    obtain ⟨⟨u, rfl⟩, rfl⟩ := hI.open_
    clear hI
    go_wp2
    go_ret
    exact ⟨rfl, rfl⟩
  · obtain ⟨r, cs, rfl, _, _, _⟩ := Kd.R_form hr hpos
    have e1 : w.cell? ⟨g, 1, none⟩ = some (.slice (some ⟨r, 0, none⟩) al.length cs) := blk_cell h 1
    have hcap := (Kd.R_reads' hr).2.1
    have HR := Aside0.mk hr
    clear h hr
    go_enter Tryf.func83, Tryf.ntmps83
    go_wp2_with fail
    refine wp_loop_ghost_k (AtSet g ch r al.length cs (SetR w al ch)) al.length ⟨rfl, rfl, ⟨rfl, rfl, rfl, rfl, by rw [Nat.sub_self]; rfl⟩, ⟨rfl, Nat.le_refl _, by rw [Nat.sub_self]; rfl⟩⟩ ?_
    intro gk a wr hI J K hJ hK
    obtain ⟨⟨u, rfl⟩, rfl, hgk, hany⟩ := hI.open_
    clear hI
    obtain ⟨i, hi⟩ : ∃ i, i = al.length - gk := ⟨_, rfl⟩
    rw [← hi] at hany ⊢
    by_cases hlt : i < al.length
    · obtain ⟨m, rfl⟩ : ∃ m, gk = m + 1 := ⟨gk - 1, by omega⟩
      obtain ⟨c1, _, ⟨v1, rfl, k1⟩, hc1, _⟩ := Kd.R_elem HR.out (Atom.chr 0) (i : Nat) (by omega) (by omega)
      have e2 : al.getD ((i : Nat) : Int).toNat (Atom.chr 0) = al[i] := by simp [List.getD_eq_getElem?_getD, hlt]
      rw [e2] at k1
      have h1 := hc1 0 _ rfl
      rw [show atomK.sz = 1 from rfl] at h1
      simp only [Int.toNat_natCast, Nat.mul_one, Nat.add_zero] at h1
      have hltI : (i : Int) < (al.length : Int) := by omega
      have s1 : IntKind.i64.wrap ((i : Int) + 1) = (i : Int) + 1 := IntWalk.i64_in _ (by omega)
      generalize hai : al[i] = x at k1
      have hstep : (al.take (i + 1)).any (fun a => atomm a ch) = atomm x ch := by
        rw [List.take_succ_eq_append_getElem hlt, List.any_append, hany, hai]; simp
      obtain ⟨q, t, K1, rfl, hme, hK1, HC⟩ : ∃ q t K1, v1 = .iface t (.pointer (some ⟨q, 0, none⟩)) ∧ (method 292 t (.pointer (some ⟨q, 0, none⟩)) "Matches").run Tryf.prog wr = .ok (K1, .pointer (some ⟨q, 0, none⟩)) wr ∧ (K1 = 80 ∨ K1 = 81 ∨ K1 = 84) ∧
          Calls Tryf.prog K1 #[.pointer (some ⟨q, 0, none⟩), .int .i64 ch] wr (fun e w' => e = .returned (.bool (atomm x ch)) ∧ wr = w') := by
        cases x with
        | chr c => obtain ⟨q, rfl, b1⟩ := k1; exact ⟨q, _, _, rfl, me127 _ _, .inl rfl, chr_any (blk_cell b1.h 0)⟩
        | sing c => obtain ⟨q, rfl, b1⟩ := k1; exact ⟨q, _, _, rfl, me158 _ _, .inr (.inl rfl), sing_any (blk_cell b1.h 0)⟩
        | rng b e => obtain ⟨q, vb, ve, rfl, b0, ⟨gb, rfl, bb⟩, ⟨ge, rfl, be⟩⟩ := k1; exact ⟨q, _, _, rfl, me171 _ _, .inr (.inr rfl), rng_any (blk_cell b0.h 0) (blk_cell b0.h 1) (blk_cell bb.h 0) (blk_cell be.h 0)⟩
      have HI := Aside0.mk hi
      have HAI := Aside0.mk hai
      have HST := Aside0.mk hstep
      have HCC := Aside0.mk HC
      clear hi hai hstep hany HC hc1 k1 e2
      rcases hK1 with rfl | rfl | rfl
      all_goals
        go_wp2_with fail
        refine HCC.out.mono ?_
        rintro e w5 ⟨rfl, rfl⟩
        clear hme HCC
        cases hb : atomm x ch with
        | true =>
          rw [hb] at HST
          go_wp2
          go_ret
          have hT : al.any (fun a => atomm a ch) = true := by
            rw [← List.take_append_drop (i + 1) al, List.any_append, HST.out]; rfl
          refine ⟨?_, rfl⟩
          simp only [clsm, hT, if_true]
          rfl
        | false =>
          rw [hb] at HST
          go_wp2
          refine Handed.intro m (by omega) (hJ _ _ _ ⟨rfl, rfl, ⟨rfl, rfl, rfl, rfl, ?_⟩, ⟨rfl, by omega, ?_⟩⟩)
          · rw [show al.length - m = i + 1 by have := HI.out; omega]; rfl
          · rw [show al.length - m = i + 1 by have := HI.out; omega]; exact HST.out
    · have hge : ¬ ((i : Int) < (al.length : Int)) := by omega
      rw [List.take_of_length_le (by omega)] at hany
      have HA := Aside0.mk hany
      clear hi hany
      go_wp2
      go_ret
      refine ⟨?_, rfl⟩
      have hF := HA.out
      simp only [clsm, hF]
      rfl
/-- Any class: what its Matches is. -/
theorem cls_any {c : Cls} {v : Value} (h : ClsAt w base ok v c) (hl : ∀ neg al, c = .set neg al → al.length ≤ 1000000) :
    ∃ q t K1, v = .iface t (.pointer (some ⟨q, 0, none⟩)) ∧ (∀ w' : World, (method 292 t (.pointer (some ⟨q, 0, none⟩)) "Matches").run Tryf.prog w' = .ok (K1, .pointer (some ⟨q, 0, none⟩)) w') ∧ (K1 = 80 ∨ K1 = 81 ∨ K1 = 82 ∨ K1 = 83 ∨ K1 = 84) ∧
      Calls Tryf.prog K1 #[.pointer (some ⟨q, 0, none⟩), .int .i64 ch] w (fun e w' => e = .returned (.bool (clsm c ch)) ∧ w = w') := by
  cases c with
  | dot => obtain ⟨q, rfl⟩ := h; exact ⟨q, _, _, rfl, me161 _, .inr (.inr (.inl rfl)), dot_any⟩
  | atom x =>
    cases x with
    | chr c => obtain ⟨q, rfl, b1⟩ := h; exact ⟨q, _, _, rfl, me127 _, .inl rfl, chr_any (blk_cell b1.h 0)⟩
    | sing c => obtain ⟨q, rfl, b1⟩ := h; exact ⟨q, _, _, rfl, me158 _, .inr (.inl rfl), sing_any (blk_cell b1.h 0)⟩
    | rng b e => obtain ⟨q, vb, ve, rfl, b0, ⟨gb, rfl, bb⟩, ⟨ge, rfl, be⟩⟩ := h; exact ⟨q, _, _, rfl, me171 _, .inr (.inr (.inr (.inr rfl))), rng_any (blk_cell b0.h 0) (blk_cell b0.h 1) (blk_cell bb.h 0) (blk_cell be.h 0)⟩
  | set neg al => obtain ⟨q, v', rfl, b1, hr⟩ := h; exact ⟨q, _, _, rfl, me167 _, .inr (.inr (.inr (.inl rfl))), set_any b1.h hr (hl neg al rfl)⟩
end
end Go.Proofs.YtpjfjfloeejgiaaFmt.Mat
