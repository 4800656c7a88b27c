/- Joined texts of this seat: CompB, CompC, CompD, CompE. -/
import Derived.Test.YtpjfjfloeejgiaaFmtGd
import Derived.Test.YtpjfjfloeejgiaaFmtGc
/- compilePattern of package pm: the parts of a pattern. -/
set_option linter.unusedVariables false
set_option linter.unusedSimpArgs false
namespace Go.Proofs.YtpjfjfloeejgiaaFmt.Ins
open Go.RowKit Go.Proofs.YtpjfjfloeejgiaaFmtW.PrintWords Go.Proofs.YtpjfjfloeejgiaaFmt.Scan Go.Proofs.YtpjfjfloeejgiaaFmt.Cls Go.Proofs.YtpjfjfloeejgiaaFmt.Pat

section
variable {w : World} {base : Nat} {ok : Nat → Prop} {o1 a1 b1 o2 a2 b2 : Int} {c : Cls} {vc : Value}
theorem reps3 (h : ClsAt w base ok vc c) : Reps (InsM w base ok) 4 [.op o1 a1 b1, .chr c, .op o2 a2 b2] [.int .i64 o1, .nilIface, .int .i64 a1, .int .i64 b1, .int .i64 0, vc, .int .i64 (-1), .int .i64 (-1), .int .i64 o2, .nilIface, .int .i64 a2, .int .i64 b2] :=
  Kd.reps_append (Kd.reps_append reps_op (reps_chr h)) reps_op
theorem reps2a (h : ClsAt w base ok vc c) : Reps (InsM w base ok) 4 [.chr c, .op o2 a2 b2] [.int .i64 0, vc, .int .i64 (-1), .int .i64 (-1), .int .i64 o2, .nilIface, .int .i64 a2, .int .i64 b2] :=
  Kd.reps_append (reps_chr h) reps_op
theorem reps2b (h : ClsAt w base ok vc c) : Reps (InsM w base ok) 4 [.op o1 a1 b1, .chr c] [.int .i64 o1, .nilIface, .int .i64 a1, .int .i64 b1, .int .i64 0, vc, .int .i64 (-1), .int .i64 (-1)] :=
  Kd.reps_append reps_op (reps_chr h)
theorem reps2c : Reps (InsM w base ok) 4 [.op o1 a1 b1, .op o2 a2 b2] [.int .i64 o1, .nilIface, .int .i64 a1, .int .i64 b1, .int .i64 o2, .nilIface, .int .i64 a2, .int .i64 b2] :=
  Kd.reps_append reps_op reps_op
theorem one3 (h : ClsAt w base ok vc c) : ∀ u ∈ ([.int .i64 o1, .nilIface, .int .i64 a1, .int .i64 b1, .int .i64 0, vc, .int .i64 (-1), .int .i64 (-1), .int .i64 o2, .nilIface, .int .i64 a2, .int .i64 b2] : List Value), u.oneCell' = true :=
  one_append (one_append one_op (one_chr h)) one_op
theorem one2a (h : ClsAt w base ok vc c) : ∀ u ∈ ([.int .i64 0, vc, .int .i64 (-1), .int .i64 (-1), .int .i64 o2, .nilIface, .int .i64 a2, .int .i64 b2] : List Value), u.oneCell' = true :=
  one_append (one_chr h) one_op
theorem one2b (h : ClsAt w base ok vc c) : ∀ u ∈ ([.int .i64 o1, .nilIface, .int .i64 a1, .int .i64 b1, .int .i64 0, vc, .int .i64 (-1), .int .i64 (-1)] : List Value), u.oneCell' = true :=
  one_append one_op (one_chr h)
theorem one2c : ∀ u ∈ ([.int .i64 o1, .nilIface, .int .i64 a1, .int .i64 b1, .int .i64 o2, .nilIface, .int .i64 a2, .int .i64 b2] : List Value), u.oneCell' = true :=
  one_append one_op one_op
end

section
variable {w0 w wr : World} {g b cp : Nat} {ins : List Ins} {v vp : Value} {dK : Kd Pat} {ok : Nat → Prop}
set_option maxHeartbeats 40000000 in
set_option maxRecDepth 100000 in
theorem comp_star {c : Cls} (h : CmpU w0 w wr g ins cp v) (hb : wr.cell? ⟨b, 0, none⟩ = some (.pointer (some ⟨g, 0, none⟩))) (hp : PatAt dK w w0.heap.size ok vp (.rep 42 c)) (hl : ins.length + 3 ≤ 1000000) :
    Calls Tryf.prog 28 #[vp, .slice (some ⟨b, 0, none⟩) 1 1] wr (Comp w0 w g (ins ++ [.op 4 ((ins.length : Int) + 1) ((ins.length : Int) + 3), .chr c, .op 3 (ins.length : Int) (-1)]) cp) := by
  obtain ⟨gp, vc, rfl, b1, k1⟩ := hp
  obtain ⟨va, vn, rfl⟩ := Kd.R_slice h.row
  obtain ⟨tc, xc, rfl⟩ := ClsAt.iface k1
  have HC := Aside0.mk (h.cls k1)
  have e0 : wr.cell? ⟨gp, 0, none⟩ = some (.int .i64 42) := blk_cell (h.old b1.h) 0
  have e1 : wr.cell? ⟨gp, 1, none⟩ = some (.iface tc xc) := blk_cell (h.old b1.h) 1
  have e2 : wr.cell? ⟨g, 0, none⟩ = some (.slice va ins.length vn) := blk_cell h.hv 0
  have HL := Aside0.mk hl
  have s1 : IntKind.i64.wrap ((ins.length : Int) + 1) = (ins.length : Int) + 1 := IntWalk.i64_in _ (by omega)
  have s3 : IntKind.i64.wrap ((ins.length : Int) + 3) = (ins.length : Int) + 3 := IntWalk.i64_in _ (by omega)
  have S1 := Aside0.mk s1
  have S3 := Aside0.mk s3
  clear s1 s3
  have H := Aside0.mk h
  clear h hl b1 k1
  have t0 := Asserts.ta124not110 (.pointer (some ⟨gp, 0, none⟩))
  have t1 := Asserts.ta124not77 (.pointer (some ⟨gp, 0, none⟩))
  have t2 := Asserts.ta124 (.pointer (some ⟨gp, 0, none⟩))
  go_enter Tryf.func28, Tryf.ntmps28
  go_wp2_with fail
  have e1a := cell_alloc e1
  have e2a := cell_alloc e2
  have s1 := S1.out
  have s3 := S3.out
  go_region_law (first | (refine CmpU.step (H.out.drew) rfl (.tmp 82) (.tmp 95) rfl rfl rfl rfl (reps3 (HC.out.step (fun _ _ _ => rfl))) (one3 HC.out) HL.out ?_; intro A4 n4 c4 w4 hS4 hc4 hf4; have HS4 := Aside0.mk hS4; clear hS4))
  all_goals
    go_wp2
    go_ret
    exact ⟨_, rfl, HS4.out⟩

set_option maxHeartbeats 40000000 in
set_option maxRecDepth 100000 in
theorem comp_plus {c : Cls} (h : CmpU w0 w wr g ins cp v) (hb : wr.cell? ⟨b, 0, none⟩ = some (.pointer (some ⟨g, 0, none⟩))) (hp : PatAt dK w w0.heap.size ok vp (.rep 43 c)) (hl : ins.length + 2 ≤ 1000000) :
    Calls Tryf.prog 28 #[vp, .slice (some ⟨b, 0, none⟩) 1 1] wr (Comp w0 w g (ins ++ [.chr c, .op 4 (ins.length : Int) ((ins.length : Int) + 2)]) cp) := by
  obtain ⟨gp, vc, rfl, b1, k1⟩ := hp
  obtain ⟨va, vn, rfl⟩ := Kd.R_slice h.row
  obtain ⟨tc, xc, rfl⟩ := ClsAt.iface k1
  have HC := Aside0.mk (h.cls k1)
  have e0 : wr.cell? ⟨gp, 0, none⟩ = some (.int .i64 43) := blk_cell (h.old b1.h) 0
  have e1 : wr.cell? ⟨gp, 1, none⟩ = some (.iface tc xc) := blk_cell (h.old b1.h) 1
  have e2 : wr.cell? ⟨g, 0, none⟩ = some (.slice va ins.length vn) := blk_cell h.hv 0
  have HL := Aside0.mk hl
  have s2 : IntKind.i64.wrap ((ins.length : Int) + 2) = (ins.length : Int) + 2 := IntWalk.i64_in _ (by omega)
  have S2 := Aside0.mk s2
  clear s2
  have H := Aside0.mk h
  clear h hl b1 k1
  have t0 := Asserts.ta124not110 (.pointer (some ⟨gp, 0, none⟩))
  have t1 := Asserts.ta124not77 (.pointer (some ⟨gp, 0, none⟩))
  have t2 := Asserts.ta124 (.pointer (some ⟨gp, 0, none⟩))
  go_enter Tryf.func28, Tryf.ntmps28
  go_wp2_with fail
  have e1a := cell_alloc e1
  have e2a := cell_alloc e2
  have s2 := S2.out
  go_region_law (first | (refine CmpU.step (H.out.drew) rfl (.tmp 105) (.tmp 115) rfl rfl rfl rfl (reps2a (HC.out.step (fun _ _ _ => rfl))) (one2a HC.out) HL.out ?_; intro A4 n4 c4 w4 hS4 hc4 hf4; have HS4 := Aside0.mk hS4; clear hS4))
  all_goals
    go_wp2
    go_ret
    exact ⟨_, rfl, HS4.out⟩

set_option maxHeartbeats 40000000 in
set_option maxRecDepth 100000 in
theorem comp_minus {c : Cls} (h : CmpU w0 w wr g ins cp v) (hb : wr.cell? ⟨b, 0, none⟩ = some (.pointer (some ⟨g, 0, none⟩))) (hp : PatAt dK w w0.heap.size ok vp (.rep 45 c)) (hl : ins.length + 3 ≤ 1000000) :
    Calls Tryf.prog 28 #[vp, .slice (some ⟨b, 0, none⟩) 1 1] wr (Comp w0 w g (ins ++ [.op 4 ((ins.length : Int) + 3) ((ins.length : Int) + 1), .chr c, .op 3 (ins.length : Int) (-1)]) cp) := by
  obtain ⟨gp, vc, rfl, b1, k1⟩ := hp
  obtain ⟨va, vn, rfl⟩ := Kd.R_slice h.row
  obtain ⟨tc, xc, rfl⟩ := ClsAt.iface k1
  have HC := Aside0.mk (h.cls k1)
  have e0 : wr.cell? ⟨gp, 0, none⟩ = some (.int .i64 45) := blk_cell (h.old b1.h) 0
  have e1 : wr.cell? ⟨gp, 1, none⟩ = some (.iface tc xc) := blk_cell (h.old b1.h) 1
  have e2 : wr.cell? ⟨g, 0, none⟩ = some (.slice va ins.length vn) := blk_cell h.hv 0
  have HL := Aside0.mk hl
  have s1 : IntKind.i64.wrap ((ins.length : Int) + 1) = (ins.length : Int) + 1 := IntWalk.i64_in _ (by omega)
  have s3 : IntKind.i64.wrap ((ins.length : Int) + 3) = (ins.length : Int) + 3 := IntWalk.i64_in _ (by omega)
  have S1 := Aside0.mk s1
  have S3 := Aside0.mk s3
  clear s1 s3
  have H := Aside0.mk h
  clear h hl b1 k1
  have t0 := Asserts.ta124not110 (.pointer (some ⟨gp, 0, none⟩))
  have t1 := Asserts.ta124not77 (.pointer (some ⟨gp, 0, none⟩))
  have t2 := Asserts.ta124 (.pointer (some ⟨gp, 0, none⟩))
  go_enter Tryf.func28, Tryf.ntmps28
  go_wp2_with fail
  have e1a := cell_alloc e1
  have e2a := cell_alloc e2
  have s1 := S1.out
  have s3 := S3.out
  go_region_law (first | (refine CmpU.step (H.out.drew) rfl (.tmp 125) (.tmp 138) rfl rfl rfl rfl (reps3 (HC.out.step (fun _ _ _ => rfl))) (one3 HC.out) HL.out ?_; intro A4 n4 c4 w4 hS4 hc4 hf4; have HS4 := Aside0.mk hS4; clear hS4))
  all_goals
    go_wp2
    go_ret
    exact ⟨_, rfl, HS4.out⟩

set_option maxHeartbeats 40000000 in
set_option maxRecDepth 100000 in
theorem comp_quest {c : Cls} (h : CmpU w0 w wr g ins cp v) (hb : wr.cell? ⟨b, 0, none⟩ = some (.pointer (some ⟨g, 0, none⟩))) (hp : PatAt dK w w0.heap.size ok vp (.rep 63 c)) (hl : ins.length + 2 ≤ 1000000) :
    Calls Tryf.prog 28 #[vp, .slice (some ⟨b, 0, none⟩) 1 1] wr (Comp w0 w g (ins ++ [.op 4 ((ins.length : Int) + 1) ((ins.length : Int) + 2), .chr c]) cp) := by
  obtain ⟨gp, vc, rfl, b1, k1⟩ := hp
  obtain ⟨va, vn, rfl⟩ := Kd.R_slice h.row
  obtain ⟨tc, xc, rfl⟩ := ClsAt.iface k1
  have HC := Aside0.mk (h.cls k1)
  have e0 : wr.cell? ⟨gp, 0, none⟩ = some (.int .i64 63) := blk_cell (h.old b1.h) 0
  have e1 : wr.cell? ⟨gp, 1, none⟩ = some (.iface tc xc) := blk_cell (h.old b1.h) 1
  have e2 : wr.cell? ⟨g, 0, none⟩ = some (.slice va ins.length vn) := blk_cell h.hv 0
  have HL := Aside0.mk hl
  have s1 : IntKind.i64.wrap ((ins.length : Int) + 1) = (ins.length : Int) + 1 := IntWalk.i64_in _ (by omega)
  have s2 : IntKind.i64.wrap ((ins.length : Int) + 2) = (ins.length : Int) + 2 := IntWalk.i64_in _ (by omega)
  have S1 := Aside0.mk s1
  have S2 := Aside0.mk s2
  clear s1 s2
  have H := Aside0.mk h
  clear h hl b1 k1
  have t0 := Asserts.ta124not110 (.pointer (some ⟨gp, 0, none⟩))
  have t1 := Asserts.ta124not77 (.pointer (some ⟨gp, 0, none⟩))
  have t2 := Asserts.ta124 (.pointer (some ⟨gp, 0, none⟩))
  go_enter Tryf.func28, Tryf.ntmps28
  go_wp2_with fail
  have e1a := cell_alloc e1
  have e2a := cell_alloc e2
  have s1 := S1.out
  have s2 := S2.out
  go_region_law (first | (refine CmpU.step (H.out.drew) rfl (.tmp 148) (.tmp 159) rfl rfl rfl rfl (reps2b (HC.out.step (fun _ _ _ => rfl))) (one2b HC.out) HL.out ?_; intro A4 n4 c4 w4 hS4 hc4 hf4; have HS4 := Aside0.mk hS4; clear hS4))
  all_goals
    go_wp2
    go_ret
    exact ⟨_, rfl, HS4.out⟩

set_option maxHeartbeats 40000000 in
set_option maxRecDepth 100000 in
theorem comp_brace {x y : Int} (h : CmpU w0 w wr g ins cp v) (hb : wr.cell? ⟨b, 0, none⟩ = some (.pointer (some ⟨g, 0, none⟩))) (hp : PatAt dK w w0.heap.size ok vp (.brace x y)) (hl : ins.length + 1 ≤ 1000000) :
    Calls Tryf.prog 28 #[vp, .slice (some ⟨b, 0, none⟩) 1 1] wr (Comp w0 w g (ins ++ [.op 7 x y]) cp) := by
  obtain ⟨gp, rfl, b1⟩ := hp
  obtain ⟨va, vn, rfl⟩ := Kd.R_slice h.row
  have e0 : wr.cell? ⟨gp, 0, none⟩ = some (.int .i64 x) := blk_cell (h.old b1.h) 0
  have e1 : wr.cell? ⟨gp, 1, none⟩ = some (.int .i64 y) := blk_cell (h.old b1.h) 1
  have e2 : wr.cell? ⟨g, 0, none⟩ = some (.slice va ins.length vn) := blk_cell h.hv 0
  have HL := Aside0.mk hl
  have H := Aside0.mk h
  clear h hl b1
  have t0 := Asserts.ta107not110 (.pointer (some ⟨gp, 0, none⟩))
  have t1 := Asserts.ta107not77 (.pointer (some ⟨gp, 0, none⟩))
  have t2 := Asserts.ta107not124 (.pointer (some ⟨gp, 0, none⟩))
  have t3 := Asserts.ta107not116 (.pointer (some ⟨gp, 0, none⟩))
  have t4 := Asserts.ta107not119 (.pointer (some ⟨gp, 0, none⟩))
  have t5 := Asserts.ta107 (.pointer (some ⟨gp, 0, none⟩))
  go_enter Tryf.func28, Tryf.ntmps28
  go_wp2_with fail
  have e0a := cell_alloc e0
  have e1a := cell_alloc e1
  have e2a := cell_alloc e2
  go_region_law (first | (refine CmpU.step (H.out.drew) rfl (.tmp 242) (.tmp 252) rfl rfl rfl rfl reps_op one_op HL.out ?_; intro A4 n4 c4 w4 hS4 hc4 hf4; have HS4 := Aside0.mk hS4; clear hS4))
  all_goals
    go_wp2
    go_ret
    exact ⟨_, rfl, HS4.out⟩

set_option maxHeartbeats 40000000 in
set_option maxRecDepth 100000 in
theorem comp_num {x : Int} (h : CmpU w0 w wr g ins cp v) (hb : wr.cell? ⟨b, 0, none⟩ = some (.pointer (some ⟨g, 0, none⟩))) (hp : PatAt dK w w0.heap.size ok vp (.num x)) (hl : ins.length + 1 ≤ 1000000) :
    Calls Tryf.prog 28 #[vp, .slice (some ⟨b, 0, none⟩) 1 1] wr (Comp w0 w g (ins ++ [.op 8 x (-1)]) cp) := by
  obtain ⟨gp, rfl, b1⟩ := hp
  obtain ⟨va, vn, rfl⟩ := Kd.R_slice h.row
  have e0 : wr.cell? ⟨gp, 0, none⟩ = some (.int .i64 x) := blk_cell (h.old b1.h) 0
  have e2 : wr.cell? ⟨g, 0, none⟩ = some (.slice va ins.length vn) := blk_cell h.hv 0
  have HL := Aside0.mk hl
  have H := Aside0.mk h
  clear h hl b1
  have t0 := Asserts.ta104not110 (.pointer (some ⟨gp, 0, none⟩))
  have t1 := Asserts.ta104not77 (.pointer (some ⟨gp, 0, none⟩))
  have t2 := Asserts.ta104not124 (.pointer (some ⟨gp, 0, none⟩))
  have t3 := Asserts.ta104not116 (.pointer (some ⟨gp, 0, none⟩))
  have t4 := Asserts.ta104not119 (.pointer (some ⟨gp, 0, none⟩))
  have t5 := Asserts.ta104not107 (.pointer (some ⟨gp, 0, none⟩))
  have t6 := Asserts.ta104 (.pointer (some ⟨gp, 0, none⟩))
  go_enter Tryf.func28, Tryf.ntmps28
  go_wp2_with fail
  have e0a := cell_alloc e0
  have e2a := cell_alloc e2
  go_region_law (first | (refine CmpU.step (H.out.drew) rfl (.tmp 263) (.tmp 269) rfl rfl rfl rfl reps_op one_op HL.out ?_; intro A4 n4 c4 w4 hS4 hc4 hf4; have HS4 := Aside0.mk hS4; clear hS4))
  all_goals
    go_wp2
    go_ret
    exact ⟨_, rfl, HS4.out⟩

set_option maxHeartbeats 40000000 in
set_option maxRecDepth 100000 in
theorem comp_pos (h : CmpU w0 w wr g ins cp v) (hb : wr.cell? ⟨b, 0, none⟩ = some (.pointer (some ⟨g, 0, none⟩))) (hp : PatAt dK w w0.heap.size ok vp .pos) (hl : ins.length + 1 ≤ 1000000) (hcp : cp ≤ 1000000) :
    Calls Tryf.prog 28 #[vp, .slice (some ⟨b, 0, none⟩) 1 1] wr (Comp w0 w g (ins ++ [.op 6 cp (-1)]) (cp + 2)) := by
  obtain ⟨gp, rfl⟩ := hp
  obtain ⟨va, vn, rfl⟩ := Kd.R_slice h.row
  have e1 : wr.cell? ⟨g, 1, none⟩ = some (.int .i64 cp) := blk_cell h.hv 1
  have e2 : wr.cell? ⟨g, 0, none⟩ = some (.slice va ins.length vn) := blk_cell h.hv 0
  have HL := Aside0.mk hl
  have s2 : IntKind.i64.wrap ((cp : Int) + 2) = (cp : Int) + 2 := IntWalk.i64_in _ (by omega)
  have S2 := Aside0.mk s2
  have H := Aside0.mk h
  clear h hl hcp s2
  have t0 := Asserts.ta116not110 (.pointer (some ⟨gp, 0, none⟩))
  have t1 := Asserts.ta116not77 (.pointer (some ⟨gp, 0, none⟩))
  have t2 := Asserts.ta116not124 (.pointer (some ⟨gp, 0, none⟩))
  have t3 := Asserts.ta116 (.pointer (some ⟨gp, 0, none⟩))
  go_enter Tryf.func28, Tryf.ntmps28
  go_wp2_with fail
  have e1a := cell_alloc e1
  have e2a := cell_alloc e2
  go_region_law (first | (refine CmpU.step (H.out.drew) rfl (.tmp 170) (.tmp 176) rfl rfl rfl rfl reps_op one_op HL.out ?_; intro A4 n4 c4 w4 hS4 hc4 hf4; have HS4 := Aside0.mk hS4; clear hS4))
  all_goals
    have f5 := blk_frozen HS4.out.hv 1
    have e5 := blk_cell HS4.out.hv 1
    have s2 := S2.out
    go_wp2
    go_ret
    exact ⟨_, rfl, HS4.out.caps (cp + 2)⟩
end
end Go.Proofs.YtpjfjfloeejgiaaFmt.Ins
/- compilePattern of package pm: a capture. -/
set_option linter.unusedVariables false
set_option linter.unusedSimpArgs false
namespace Go.Proofs.YtpjfjfloeejgiaaFmt.Ins
open Go.RowKit Go.Proofs.YtpjfjfloeejgiaaFmtW.PrintWords Go.Proofs.YtpjfjfloeejgiaaFmt.Scan Go.Proofs.YtpjfjfloeejgiaaFmt.Cls Go.Proofs.YtpjfjfloeejgiaaFmt.Pat

/-- What the compiler, called on a sequence within a pattern, does. -/
def SeqC (w0 w : World) (g q : Nat) (ps : List Pat) : Prop :=
  ∀ (wr : World) (ins : List Ins) (cp : Nat) (v : Value) (b : Nat), CmpU w0 w wr g ins cp v → wr.cell? ⟨b, 0, none⟩ = some (.pointer (some ⟨g, 0, none⟩)) → ins.length + (codes ps ins.length cp).1.length ≤ 1000000 → (codes ps ins.length cp).2 ≤ 1000000 →
    Calls Tryf.prog 28 #[.iface 77 (.pointer (some ⟨q, 0, none⟩)), .slice (some ⟨b, 0, none⟩) 1 1] wr (Comp w0 w g (ins ++ (codes ps ins.length cp).1) (codes ps ins.length cp).2)

section
variable {w0 w wr : World} {g b cp : Nat} {ins : List Ins} {v vp : Value} {dK : Kd Pat} {ok : Nat → Prop}
section
variable {ps : List Ins} {cs : List Value} {ops : Array Oper} {o : Oper} {a : Act} {Q : Exit → Act → World → Prop} {K : Act → World → Prop} {rest : List Oper}
theorem CmpU.list' (h : CmpU w0 w wr g ins cp v) (hgd : o.guard = none) (s y : Operand) (ho : o.op = .call { callee := .builtin .append, args := #[s, y], argTypes := #[81, 81] })
    (hs : a.eval s = v) {m N : Nat} (hy : a.eval y = .slice (some ⟨N, 0, none⟩) m m) (hN : wr.heap.size = N) (hm : ps.length = m) (hp : Reps (InsM wr w0.heap.size (fun k => k < w.heap.size)) 4 ps cs) (h1 : ∀ u ∈ cs, u.oneCell' = true) (hl : ins.length + ps.length ≤ 1000000)
    (hK : ∀ A1 n1 c1 w1, CmpU w0 w (w1.setCell ⟨g, 0, none⟩ (.slice A1 n1 c1)) g (ins ++ ps) cp (.slice A1 n1 c1) → w1.cell? ⟨g, 0, none⟩ = some v → w1.frozen? ⟨g, 0, none⟩ = false → wpList Tryf.prog ops Q rest (a.put o.dst (.slice A1 n1 c1)) w1) :
    wpList Tryf.prog ops Q (o :: rest) a (wr.alloc (.cells cs.toArray 138)) := by
  subst hN
  exact h.list hgd s y ho hs hy hm hp h1 hl hK
end
theorem box_cell (w1 : World) (p : Addr) (u x : Value) (t : TypeId) : ((w1.setCell p u).alloc (.cells #[x] t)).cell? ⟨w1.heap.size, 0, none⟩ = some x := by
  have h := blk_cell (blk_new (w1.setCell p u) (.cells #[x] t)) 0
  have e : (w1.setCell p u).heap.size = w1.heap.size := by simp [World.setCell]
  rw [e] at h
  exact h
theorem CmpU.sl (h : CmpU w0 w wr g ins cp v) : ∃ A n c, v = .slice A n c := by
  obtain ⟨A, c, e⟩ := Kd.R_slice h.row
  exact ⟨A, _, c, e⟩
theorem CmpU.caps2 (h : CmpU w0 w wr g ins cp v) : CmpU w0 w (wr.setCell ⟨g, 1, none⟩ (.int .i64 ((cp : Int) + 2))) g ins (cp + 2) v := h.caps (cp + 2)
set_option maxHeartbeats 40000000 in
set_option maxRecDepth 100000 in
theorem comp_cap {gp q : Nat} {ps : List Pat} (h : CmpU w0 w wr g ins cp v) (hb : wr.cell? ⟨b, 0, none⟩ = some (.pointer (some ⟨g, 0, none⟩))) (b1 : Blk w w0.heap.size ok gp #[.iface 77 (.pointer (some ⟨q, 0, none⟩))] 122) (hs : SeqC w0 w g q ps)
    (hl : ins.length + (code (.cap ps) ins.length cp).1.length ≤ 1000000) (hcp : (code (.cap ps) ins.length cp).2 ≤ 1000000) :
    Calls Tryf.prog 28 #[.iface 119 (.pointer (some ⟨gp, 0, none⟩)), .slice (some ⟨b, 0, none⟩) 1 1] wr (Comp w0 w g (ins ++ (code (.cap ps) ins.length cp).1) (code (.cap ps) ins.length cp).2) := by
  simp only [code] at hl hcp ⊢
  have hcl := codes_le ps (ins.length + 1) (cp + 2)
  simp only [List.length_append, List.length_cons, List.length_nil] at hl
  obtain ⟨va, vn, rfl⟩ := Kd.R_slice h.row
  have B1 := Aside0.mk b1
  have HS := Aside0.mk hs
  have e0 : wr.cell? ⟨gp, 0, none⟩ = some (.iface 77 (.pointer (some ⟨q, 0, none⟩))) := blk_cell (h.old b1.h) 0
  have e1 : wr.cell? ⟨g, 1, none⟩ = some (.int .i64 cp) := blk_cell h.hv 1
  have f1 := blk_frozen h.hv 1
  have e2 : wr.cell? ⟨g, 0, none⟩ = some (.slice va ins.length vn) := blk_cell h.hv 0
  have hne : gp ≠ g := by have := blk_lt b1.h; have := h.lt; omega
  have HL := Aside0.mk hl
  have HCP := Aside0.mk hcp
  have s1 : IntKind.i64.wrap ((cp : Int) + 1) = (cp : Int) + 1 := IntWalk.i64_in _ (by omega)
  have s2 : IntKind.i64.wrap ((cp : Int) + 2) = (cp : Int) + 2 := IntWalk.i64_in _ (by omega)
  have S1 := Aside0.mk s1
  have S2 := Aside0.mk s2
  have H := Aside0.mk h
  clear h hl hcp s1 s2 b1 hs hcl
  have t0 := Asserts.ta119not110 (.pointer (some ⟨gp, 0, none⟩))
  have t1 := Asserts.ta119not77 (.pointer (some ⟨gp, 0, none⟩))
  have t2 := Asserts.ta119not124 (.pointer (some ⟨gp, 0, none⟩))
  have t3 := Asserts.ta119not116 (.pointer (some ⟨gp, 0, none⟩))
  have t4 := Asserts.ta119 (.pointer (some ⟨gp, 0, none⟩))
  go_enter Tryf.func28, Tryf.ntmps28
  go_wp2_with fail
  have s1 := S1.out
  go_quiet (fail)
  have s2 := S2.out
  clear t0 t1 t2 t3 t4 s1
  go_upto_region 38 with (fail)
  have H1 := Aside0.mk (fun n => (H.out.drewN n).caps2)
  have e3 := fun n => blk_cell (H1.out n).hv 0
  have f3 := fun n => blk_frozen (H1.out n).hv 0
  go_wp2_with (at_builtin; refine CmpU.list' (H1.out _) rfl (.tmp 210) (.tmp 213) rfl rfl rfl (by simp [World.setCell]) rfl reps_op one_op (by have := HL.out; simp only [List.length_cons, List.length_nil]; omega) ?_; intro A4 n4 c4 w4 hS4 hc4 hf4; have HS4 := Aside0.mk hS4; clear hS4; have e5 := blk_cell (HS4.out.old B1.out.h) 0)
  have hlen : (ins ++ [Ins.op 5 (cp : Int) (-1)]).length = ins.length + 1 := by simp
  have HCC := Aside0.mk (HS.out _ _ _ _ _ (HS4.out.alloc (.cells #[.pointer (some ⟨g, 0, none⟩)] 135)) (box_cell w4 _ _ _ _) (by rw [hlen]; have := HL.out; omega) (by rw [hlen]; exact HCP.out))
  rw [hlen] at HCC
  clear hlen e5 hc4 hf4 e0 e1 e2 e3 f1 f3 H1 H B1 hb
  refine HCC.out.mono ?_
  rintro e w5 ⟨v5, rfl, h5⟩
  obtain ⟨va5, m5, vn5, rfl⟩ := h5.sl
  have e6 : w5.cell? ⟨g, 0, none⟩ = some (.slice va5 m5 vn5) := blk_cell h5.hv 0
  have H5 := Aside0.mk h5
  clear h5 HCC HS4
  go_wp2_with (at_builtin; refine CmpU.list' (H5.out) rfl (.tmp 228) (.tmp 231) rfl rfl rfl (by rfl) rfl reps_op one_op (by have := HL.out; simp only [List.length_cons, List.length_nil, List.length_append]; omega) ?_; intro A7 n7 c7 w7 hS7 hc7 hf7; have HS7 := Aside0.mk hS7; clear hS7)
  go_ret
  refine ⟨_, rfl, ?_⟩
  have h7 := HS7.out
  simp only [List.append_assoc, List.cons_append, List.nil_append] at h7 ⊢
  exact h7
end
end Go.Proofs.YtpjfjfloeejgiaaFmt.Ins
/- compilePattern of package pm: a sequence, within a pattern and at its top. -/
set_option linter.unusedVariables false
set_option linter.unusedSimpArgs false
namespace Go.Proofs.YtpjfjfloeejgiaaFmt.Ins
open Go.RowKit Go.Proofs.YtpjfjfloeejgiaaFmtW.PrintWords Go.Proofs.YtpjfjfloeejgiaaFmt.Scan Go.Proofs.YtpjfjfloeejgiaaFmt.Cls Go.Proofs.YtpjfjfloeejgiaaFmt.Pat

/-- At the head of the loop over a sequence. -/
def AtSeq (q g : Nat) (top : Bool) (A : Option Addr) (L cs : Nat) (R : Nat → World → Prop) (k : Nat) (a : Act) (w : World) : Prop :=
  a.tmps.size = 305 ∧ a.defers = [] ∧ (a.tmps.getD 0 undef = .iface 77 (.pointer (some ⟨q, 0, none⟩)) ∧ a.tmps.getD 5 undef = .pointer (some ⟨g, 0, none⟩) ∧ a.tmps.getD 6 undef = .bool top ∧ a.tmps.getD 53 undef = .slice A L cs ∧ a.tmps.getD 54 undef = .int .i64 (L : Int) ∧ a.tmps.getD 55 undef = .int .i64 ((L - k : Nat) : Int)) ∧ R k w
set_option maxRecDepth 100000 in
theorem AtSeq.open_ {q g : Nat} {top : Bool} {A : Option Addr} {L cs : Nat} {R : Nat → World → Prop} {k : Nat} {a : Act} {w : World} (h : AtSeq q g top A L cs R k a w) : (∃ u : Nat → Value, a = ⟨#[.iface 77 (.pointer (some ⟨q, 0, none⟩)), u 1, u 2, u 3, u 4, .pointer (some ⟨g, 0, none⟩), .bool top, u 7, u 8, u 9, u 10, u 11, u 12, u 13, u 14, u 15, u 16, u 17, u 18, u 19, u 20, u 21, u 22, u 23, u 24, u 25, u 26, u 27, u 28, u 29, u 30, u 31, u 32, u 33, u 34, u 35, u 36, u 37, u 38, u 39, u 40, u 41, u 42, u 43, u 44, u 45, u 46, u 47, u 48, u 49, u 50, u 51, u 52, .slice A L cs, .int .i64 (L : Int), .int .i64 ((L - k : Nat) : Int), u 56, u 57, u 58, u 59, u 60, u 61, u 62, u 63, u 64, u 65, u 66, u 67, u 68, u 69, u 70, u 71, u 72, u 73, u 74, u 75, u 76, u 77, u 78, u 79, u 80, u 81, u 82, u 83, u 84, u 85, u 86, u 87, u 88, u 89, u 90, u 91, u 92, u 93, u 94, u 95, u 96, u 97, u 98, u 99, u 100, u 101, u 102, u 103, u 104, u 105, u 106, u 107, u 108, u 109, u 110, u 111, u 112, u 113, u 114, u 115, u 116, u 117, u 118, u 119, u 120, u 121, u 122, u 123, u 124, u 125, u 126, u 127, u 128, u 129, u 130, u 131, u 132, u 133, u 134, u 135, u 136, u 137, u 138, u 139, u 140, u 141, u 142, u 143, u 144, u 145, u 146, u 147, u 148, u 149, u 150, u 151, u 152, u 153, u 154, u 155, u 156, u 157, u 158, u 159, u 160, u 161, u 162, u 163, u 164, u 165, u 166, u 167, u 168, u 169, u 170, u 171, u 172, u 173, u 174, u 175, u 176, u 177, u 178, u 179, u 180, u 181, u 182, u 183, u 184, u 185, u 186, u 187, u 188, u 189, u 190, u 191, u 192, u 193, u 194, u 195, u 196, u 197, u 198, u 199, u 200, u 201, u 202, u 203, u 204, u 205, u 206, u 207, u 208, u 209, u 210, u 211, u 212, u 213, u 214, u 215, u 216, u 217, u 218, u 219, u 220, u 221, u 222, u 223, u 224, u 225, u 226, u 227, u 228, u 229, u 230, u 231, u 232, u 233, u 234, u 235, u 236, u 237, u 238, u 239, u 240, u 241, u 242, u 243, u 244, u 245, u 246, u 247, u 248, u 249, u 250, u 251, u 252, u 253, u 254, u 255, u 256, u 257, u 258, u 259, u 260, u 261, u 262, u 263, u 264, u 265, u 266, u 267, u 268, u 269, u 270, u 271, u 272, u 273, u 274, u 275, u 276, u 277, u 278, u 279, u 280, u 281, u 282, u 283, u 284, u 285, u 286, u 287, u 288, u 289, u 290, u 291, u 292, u 293, u 294, u 295, u 296, u 297, u 298, u 299, u 300, u 301, u 302, u 303, u 304], []⟩) ∧ R k w := by
  obtain ⟨tmps, defers⟩ := a
  obtain ⟨hs, hd, ⟨h0, h5, h6, h53, h54, h55⟩, hR⟩ := h
  refine ⟨⟨fun i => tmps.getD i undef, ?_⟩, hR⟩
  have hd' : defers = [] := hd
  subst hd'
  have k0 : tmps.getD 0 undef = .iface 77 (.pointer (some ⟨q, 0, none⟩)) := h0
  have k5 : tmps.getD 5 undef = .pointer (some ⟨g, 0, none⟩) := h5
  have k6 : tmps.getD 6 undef = .bool top := h6
  have k53 : tmps.getD 53 undef = .slice A L cs := h53
  have k54 : tmps.getD 54 undef = .int .i64 (L : Int) := h54
  have k55 : tmps.getD 55 undef = .int .i64 ((L - k : Nat) : Int) := h55
  have h := frame_lit 305 tmps hs
  have h2 : ((List.range 305).map (fun i => tmps.getD i undef)).toArray = #[tmps.getD 0 undef, tmps.getD 1 undef, tmps.getD 2 undef, tmps.getD 3 undef, tmps.getD 4 undef, tmps.getD 5 undef, tmps.getD 6 undef, tmps.getD 7 undef, tmps.getD 8 undef, tmps.getD 9 undef, tmps.getD 10 undef, tmps.getD 11 undef, tmps.getD 12 undef, tmps.getD 13 undef, tmps.getD 14 undef, tmps.getD 15 undef, tmps.getD 16 undef, tmps.getD 17 undef, tmps.getD 18 undef, tmps.getD 19 undef, tmps.getD 20 undef, tmps.getD 21 undef, tmps.getD 22 undef, tmps.getD 23 undef, tmps.getD 24 undef, tmps.getD 25 undef, tmps.getD 26 undef, tmps.getD 27 undef, tmps.getD 28 undef, tmps.getD 29 undef, tmps.getD 30 undef, tmps.getD 31 undef, tmps.getD 32 undef, tmps.getD 33 undef, tmps.getD 34 undef, tmps.getD 35 undef, tmps.getD 36 undef, tmps.getD 37 undef, tmps.getD 38 undef, tmps.getD 39 undef, tmps.getD 40 undef, tmps.getD 41 undef, tmps.getD 42 undef, tmps.getD 43 undef, tmps.getD 44 undef, tmps.getD 45 undef, tmps.getD 46 undef, tmps.getD 47 undef, tmps.getD 48 undef, tmps.getD 49 undef, tmps.getD 50 undef, tmps.getD 51 undef, tmps.getD 52 undef, tmps.getD 53 undef, tmps.getD 54 undef, tmps.getD 55 undef, tmps.getD 56 undef, tmps.getD 57 undef, tmps.getD 58 undef, tmps.getD 59 undef, tmps.getD 60 undef, tmps.getD 61 undef, tmps.getD 62 undef, tmps.getD 63 undef, tmps.getD 64 undef, tmps.getD 65 undef, tmps.getD 66 undef, tmps.getD 67 undef, tmps.getD 68 undef, tmps.getD 69 undef, tmps.getD 70 undef, tmps.getD 71 undef, tmps.getD 72 undef, tmps.getD 73 undef, tmps.getD 74 undef, tmps.getD 75 undef, tmps.getD 76 undef, tmps.getD 77 undef, tmps.getD 78 undef, tmps.getD 79 undef, tmps.getD 80 undef, tmps.getD 81 undef, tmps.getD 82 undef, tmps.getD 83 undef, tmps.getD 84 undef, tmps.getD 85 undef, tmps.getD 86 undef, tmps.getD 87 undef, tmps.getD 88 undef, tmps.getD 89 undef, tmps.getD 90 undef, tmps.getD 91 undef, tmps.getD 92 undef, tmps.getD 93 undef, tmps.getD 94 undef, tmps.getD 95 undef, tmps.getD 96 undef, tmps.getD 97 undef, tmps.getD 98 undef, tmps.getD 99 undef, tmps.getD 100 undef, tmps.getD 101 undef, tmps.getD 102 undef, tmps.getD 103 undef, tmps.getD 104 undef, tmps.getD 105 undef, tmps.getD 106 undef, tmps.getD 107 undef, tmps.getD 108 undef, tmps.getD 109 undef, tmps.getD 110 undef, tmps.getD 111 undef, tmps.getD 112 undef, tmps.getD 113 undef, tmps.getD 114 undef, tmps.getD 115 undef, tmps.getD 116 undef, tmps.getD 117 undef, tmps.getD 118 undef, tmps.getD 119 undef, tmps.getD 120 undef, tmps.getD 121 undef, tmps.getD 122 undef, tmps.getD 123 undef, tmps.getD 124 undef, tmps.getD 125 undef, tmps.getD 126 undef, tmps.getD 127 undef, tmps.getD 128 undef, tmps.getD 129 undef, tmps.getD 130 undef, tmps.getD 131 undef, tmps.getD 132 undef, tmps.getD 133 undef, tmps.getD 134 undef, tmps.getD 135 undef, tmps.getD 136 undef, tmps.getD 137 undef, tmps.getD 138 undef, tmps.getD 139 undef, tmps.getD 140 undef, tmps.getD 141 undef, tmps.getD 142 undef, tmps.getD 143 undef, tmps.getD 144 undef, tmps.getD 145 undef, tmps.getD 146 undef, tmps.getD 147 undef, tmps.getD 148 undef, tmps.getD 149 undef, tmps.getD 150 undef, tmps.getD 151 undef, tmps.getD 152 undef, tmps.getD 153 undef, tmps.getD 154 undef, tmps.getD 155 undef, tmps.getD 156 undef, tmps.getD 157 undef, tmps.getD 158 undef, tmps.getD 159 undef, tmps.getD 160 undef, tmps.getD 161 undef, tmps.getD 162 undef, tmps.getD 163 undef, tmps.getD 164 undef, tmps.getD 165 undef, tmps.getD 166 undef, tmps.getD 167 undef, tmps.getD 168 undef, tmps.getD 169 undef, tmps.getD 170 undef, tmps.getD 171 undef, tmps.getD 172 undef, tmps.getD 173 undef, tmps.getD 174 undef, tmps.getD 175 undef, tmps.getD 176 undef, tmps.getD 177 undef, tmps.getD 178 undef, tmps.getD 179 undef, tmps.getD 180 undef, tmps.getD 181 undef, tmps.getD 182 undef, tmps.getD 183 undef, tmps.getD 184 undef, tmps.getD 185 undef, tmps.getD 186 undef, tmps.getD 187 undef, tmps.getD 188 undef, tmps.getD 189 undef, tmps.getD 190 undef, tmps.getD 191 undef, tmps.getD 192 undef, tmps.getD 193 undef, tmps.getD 194 undef, tmps.getD 195 undef, tmps.getD 196 undef, tmps.getD 197 undef, tmps.getD 198 undef, tmps.getD 199 undef, tmps.getD 200 undef, tmps.getD 201 undef, tmps.getD 202 undef, tmps.getD 203 undef, tmps.getD 204 undef, tmps.getD 205 undef, tmps.getD 206 undef, tmps.getD 207 undef, tmps.getD 208 undef, tmps.getD 209 undef, tmps.getD 210 undef, tmps.getD 211 undef, tmps.getD 212 undef, tmps.getD 213 undef, tmps.getD 214 undef, tmps.getD 215 undef, tmps.getD 216 undef, tmps.getD 217 undef, tmps.getD 218 undef, tmps.getD 219 undef, tmps.getD 220 undef, tmps.getD 221 undef, tmps.getD 222 undef, tmps.getD 223 undef, tmps.getD 224 undef, tmps.getD 225 undef, tmps.getD 226 undef, tmps.getD 227 undef, tmps.getD 228 undef, tmps.getD 229 undef, tmps.getD 230 undef, tmps.getD 231 undef, tmps.getD 232 undef, tmps.getD 233 undef, tmps.getD 234 undef, tmps.getD 235 undef, tmps.getD 236 undef, tmps.getD 237 undef, tmps.getD 238 undef, tmps.getD 239 undef, tmps.getD 240 undef, tmps.getD 241 undef, tmps.getD 242 undef, tmps.getD 243 undef, tmps.getD 244 undef, tmps.getD 245 undef, tmps.getD 246 undef, tmps.getD 247 undef, tmps.getD 248 undef, tmps.getD 249 undef, tmps.getD 250 undef, tmps.getD 251 undef, tmps.getD 252 undef, tmps.getD 253 undef, tmps.getD 254 undef, tmps.getD 255 undef, tmps.getD 256 undef, tmps.getD 257 undef, tmps.getD 258 undef, tmps.getD 259 undef, tmps.getD 260 undef, tmps.getD 261 undef, tmps.getD 262 undef, tmps.getD 263 undef, tmps.getD 264 undef, tmps.getD 265 undef, tmps.getD 266 undef, tmps.getD 267 undef, tmps.getD 268 undef, tmps.getD 269 undef, tmps.getD 270 undef, tmps.getD 271 undef, tmps.getD 272 undef, tmps.getD 273 undef, tmps.getD 274 undef, tmps.getD 275 undef, tmps.getD 276 undef, tmps.getD 277 undef, tmps.getD 278 undef, tmps.getD 279 undef, tmps.getD 280 undef, tmps.getD 281 undef, tmps.getD 282 undef, tmps.getD 283 undef, tmps.getD 284 undef, tmps.getD 285 undef, tmps.getD 286 undef, tmps.getD 287 undef, tmps.getD 288 undef, tmps.getD 289 undef, tmps.getD 290 undef, tmps.getD 291 undef, tmps.getD 292 undef, tmps.getD 293 undef, tmps.getD 294 undef, tmps.getD 295 undef, tmps.getD 296 undef, tmps.getD 297 undef, tmps.getD 298 undef, tmps.getD 299 undef, tmps.getD 300 undef, tmps.getD 301 undef, tmps.getD 302 undef, tmps.getD 303 undef, tmps.getD 304 undef] := rfl
  rw [h2] at h
  rw [k0, k5, k6, k53, k54, k55] at h
  exact congrArg (fun t => Act.mk t []) h

/-- What the code's end is made of at the top. -/
def fin (top mt : Bool) (l : List Ins) : List Ins :=
  if top then (if mt then l ++ [.op 5 1 (-1), .op 2 (-1) (-1)] else l) ++ [.op 5 1 (-1), .op 1 (-1) (-1)] else l
/-- What the compiler, called on a part of a pattern, does. -/
def PartC (w0 w : World) (g : Nat) (vp : Value) (p : Pat) : Prop :=
  ∀ (wr : World) (ins : List Ins) (cp : Nat) (v : Value) (b : Nat), CmpU w0 w wr g ins cp v → wr.cell? ⟨b, 0, none⟩ = some (.pointer (some ⟨g, 0, none⟩)) → ins.length + (code p ins.length cp).1.length ≤ 1000000 → (code p ins.length cp).2 ≤ 1000000 →
    Calls Tryf.prog 28 #[vp, .slice (some ⟨b, 0, none⟩) 1 1] wr (Comp w0 w g (ins ++ (code p ins.length cp).1) (code p ins.length cp).2)
/-- The loop's relation. -/
def SeqR (w0 w : World) (g : Nat) (ps : List Pat) (F : List Ins × Nat) (k : Nat) (wr : World) : Prop :=
  k ≤ ps.length ∧ ∃ ins cp v, CmpU w0 w wr g ins cp v ∧ ins ++ (codes (ps.drop (ps.length - k)) ins.length cp).1 = F.1 ∧ (codes (ps.drop (ps.length - k)) ins.length cp).2 = F.2
/-- Where the walk stands behind the first lines. -/
def Pre (w0 w wr : World) (g : Nat) (ins : List Ins) (cp : Nat) : Prop := ∃ v, CmpU w0 w wr g ins cp v
theorem CmpU.top {w0 w : World} (hle : w0.heap.size ≤ w.heap.size) :
    CmpU w0 w ((w.alloc (.cells #[.int .i64 5, .nilIface, .int .i64 0, .int .i64 (-1)] 138)).alloc (.cells #[.slice (some ⟨w.heap.size, 0, none⟩) 1 1, .int .i64 2] 140)) (w.heap.size + 1) [.op 5 0 (-1)] 2 (.slice (some ⟨w.heap.size, 0, none⟩) 1 1) := by
  have hs : (w.alloc (.cells #[.int .i64 5, .nilIface, .int .i64 0, .int .i64 (-1)] 138)).heap.size = w.heap.size + 1 := by simp
  have hr : insK.R 138 (w.alloc (.cells #[.int .i64 5, .nilIface, .int .i64 0, .int .i64 (-1)] 138)) w0.heap.size (fun k => k ≠ w.heap.size + 1) (.slice (some ⟨w.heap.size, 0, none⟩) 1 1) [.op 5 0 (-1)] := by
    refine ⟨fun k hk => ?_, _, World.ownsRow_lit (base := w0.heap.size) (e := 138) (size := 4) w #[.int .i64 5, .nilIface, .int .i64 0, .int .i64 (-1)] 1 hle (by decide) rfl, reps_op⟩
    have : w.heap.size = k := by simpa [Value.ownBlock] using hk
    omega
  refine ⟨hle, below_alloc (below_alloc (Below.refl _ _) _) _, by omega, ?_, fun k hk => ?_, Kd.R_alloc hr _⟩
  · rw [← hs]; exact blk_new _ _
  · have : w.heap.size = k := by simpa [Value.ownBlock] using hk
    omega

section
variable {w0 w wr : World} {g b cp : Nat} {ins : List Ins} {v vp : Value} {ok : Nat → Prop}
set_option maxHeartbeats 40000000 in
set_option maxRecDepth 100000 in
theorem seq_walk {q cs : Nat} {mh mt top : Bool} {A : Option Addr} {ps : List Pat} {va : Value} (hq : w.heap[q]? = some (.cells #[.bool mh, .bool mt, .slice A ps.length cs] 87 (0, 0)))
    (hel : ∀ i (h : i < ps.length), ∃ r t x, A = some ⟨r, 0, none⟩ ∧ w.cell? ⟨r, i, none⟩ = some (.iface t x) ∧ PartC w0 w g (.iface t x) ps[i])
    (hcs : ps.length ≤ cs) (hps : ps.length ≤ 1000000)
    (hpre : (top = false ∧ va = .slice (some ⟨b, 0, none⟩) 1 1 ∧ CmpU w0 w wr g ins cp v ∧ wr.cell? ⟨b, 0, none⟩ = some (.pointer (some ⟨g, 0, none⟩))) ∨
      (top = true ∧ va = .slice none 0 0 ∧ wr = w ∧ g = w.heap.size + 1 ∧ ins = [.op 5 0 (-1)] ∧ cp = 2 ∧ w0.heap.size ≤ w.heap.size))
    (hl : ins.length + (codes ps ins.length cp).1.length ≤ 1000000) (hlt : top = true → ins.length + (codes ps ins.length cp).1.length ≤ 999990) (hcp : (codes ps ins.length cp).2 ≤ 1000000) :
    Calls Tryf.prog 28 #[.iface 77 (.pointer (some ⟨q, 0, none⟩)), va] wr (Comp w0 w g (fin top mt (ins ++ (codes ps ins.length cp).1)) (codes ps ins.length cp).2) := by
  have HQ := Aside0.mk hq
  have HEL := Aside0.mk hel
  have HPRE := Aside0.mk hpre
  have HL := Aside0.mk hl
  have HCP := Aside0.mk hcp
  clear hq hel hpre hl hcp
  have hFl : (ins ++ (codes ps ins.length cp).1).length ≤ 1000000 := by rw [List.length_append]; exact HL.out
  have hFt : top = true → (ins ++ (codes ps ins.length cp).1).length ≤ 999990 := by rw [List.length_append]; exact hlt
  obtain ⟨F, hF⟩ : ∃ F : List Ins × Nat, F = (ins ++ (codes ps ins.length cp).1, (codes ps ins.length cp).2) := ⟨_, rfl⟩
  have hFa : ins ++ (codes ps ins.length cp).1 = F.1 := by rw [hF]
  have hFb : (codes ps ins.length cp).2 = F.2 := by rw [hF]
  rw [hFa] at hFl hFt ⊢
  have hFc := HCP.out
  rw [hFb] at hFc ⊢
  have HFA := Aside0.mk hFa
  have HFB := Aside0.mk hFb
  have HFL := Aside0.mk hFl
  have HFT := Aside0.mk hFt
  have HFC := Aside0.mk hFc
  clear hF hFa hFb hFl hFc HL HCP hFt hlt
  go_enter Tryf.func28, Tryf.ntmps28
  go_upto_region 3 with (fail)
  go_cut [21] from 19 to 20 (fun v21 wc => v21 = .bool top ∧ wc = wr)
  case first =>
    rcases HPRE.out with ⟨rfl, rfl, h, hb⟩ | ⟨rfl, rfl, rfl, rfl, rfl, rfl, hle⟩
    · clear h hb HPRE HEL HQ HFA HFB HFL HFC HFT
      go_wp2
      go_meet
      case rel => exact ⟨rfl, rfl⟩
    · clear hle HPRE HEL HQ HFA HFB HFL HFC HFT
      go_wp2
      go_meet
      case rel => exact ⟨rfl, rfl⟩
  obtain ⟨rfl, rfl⟩ := hcut
  go_upto_if 21 with (fail)
  go_cut [5, 6] from 22 to 28 (fun v5 v6 wc => v5 = .pointer (some ⟨g, 0, none⟩) ∧ v6 = .bool top ∧ Pre w0 w wc g ins cp)
  case first =>
    rcases HPRE.out with ⟨rfl, rfl, h, hb⟩ | ⟨rfl, rfl, rfl, rfl, rfl, rfl, hle⟩
    · have H := Aside0.mk h
      clear h HPRE HEL HQ HFA HFB HFL HFC HFT
      go_wp2
      go_meet
      case rel => exact ⟨rfl, rfl, _, H.out⟩
    · have HLE := Aside0.mk hle
      clear hle HPRE HEL HQ HFA HFB HFL HFC HFT
      go_wp2
      go_meet
      case rel => exact ⟨rfl, rfl, _, CmpU.top HLE.out⟩
  obtain ⟨rfl, rfl, v, h⟩ := hcut
  have H := Aside0.mk h
  clear h HPRE
  have t0 := Asserts.ta77not110 (.pointer (some ⟨q, 0, none⟩))
  have t1 := Asserts.ta77 (.pointer (some ⟨q, 0, none⟩))
  have e2 : wc.cell? ⟨q, 2, none⟩ = some (.slice A ps.length cs) := blk_cell (H.out.old HQ.out) 2
  go_wp2_with fail
  clear t0 t1 e2
  refine wp_loop_ghost_k (AtSeq q g top A ps.length cs (SeqR w0 w g ps F)) ps.length ⟨rfl, rfl, ⟨rfl, rfl, rfl, rfl, rfl, by rw [Nat.sub_self]; rfl⟩, ⟨Nat.le_refl _, _, _, _, H.out, by rw [Nat.sub_self]; exact HFA.out, by rw [Nat.sub_self]; exact HFB.out⟩⟩ ?_
  intro gk a wr2 hI J K hJ hK
  obtain ⟨⟨u, rfl⟩, hgk, ins2, cp2, v2, h2, hF1, hF2⟩ := hI.open_
  clear hI H HFA HFB
  obtain ⟨i, hi⟩ : ∃ i, i = ps.length - gk := ⟨_, rfl⟩
  rw [← hi] at hF1 hF2 ⊢
  by_cases hlt : i < ps.length
  · obtain ⟨m, rfl⟩ : ∃ m, gk = m + 1 := ⟨gk - 1, by omega⟩
    obtain ⟨r, t, x, rfl, e3, hP⟩ := HEL.out i hlt
    rw [List.drop_eq_getElem_cons hlt] at hF1 hF2
    simp only [codes] at hF1 hF2
    have hlen := congrArg List.length hF1
    simp only [List.length_append] at hlen
    have hcl := codes_le (ps.drop (i + 1)) (ins2.length + (code ps[i] ins2.length cp2).1.length) (code ps[i] ins2.length cp2).2
    rw [hF2] at hcl
    have HP := Aside0.mk (hP _ _ _ _ _ (h2.alloc (.cells #[.pointer (some ⟨g, 0, none⟩)] 135)) (blk_cell (blk_new wr2 _) 0) (by have := HFL.out; omega) (by have := HFC.out; omega))
    have e3' : wr2.cell? ⟨r, i, none⟩ = some (.iface t x) := pw_cell_below h2.b e3
    have HF1 := Aside0.mk hF1
    have HF2 := Aside0.mk hF2
    have HI := Aside0.mk hi
    have hltI : (i : Int) < (ps.length : Int) := by omega
    have s1 : IntKind.i64.wrap ((i : Int) + 1) = (i : Int) + 1 := IntWalk.i64_in _ (by omega)
    clear hP e3 hF1 hF2 hlen hcl hi h2
    go_wp2_with fail
    refine HP.out.mono ?_
    rintro e w5 ⟨v5, rfl, h5⟩
    have H5 := Aside0.mk h5
    clear h5 HP e3'
    go_wp2
    refine Handed.intro m (by omega) (hJ _ _ _ ⟨rfl, rfl, ⟨rfl, rfl, rfl, rfl, rfl, ?_⟩, ⟨by omega, _, _, _, H5.out, ?_, ?_⟩⟩)
    · rw [show ps.length - m = i + 1 by have := HI.out; omega]; rfl
    · rw [show ps.length - m = i + 1 by have := HI.out; omega, List.length_append, List.append_assoc]; exact HF1.out
    · rw [show ps.length - m = i + 1 by have := HI.out; omega, List.length_append]; exact HF2.out
  · have hdrop : ps.drop i = [] := List.drop_eq_nil_of_le (by omega)
    rw [hdrop] at hF1 hF2
    simp only [codes, List.append_nil] at hF1 hF2
    subst hF1
    subst hF2
    have hge : ¬ ((i : Int) < (ps.length : Int)) := by omega
    have H2 := Aside0.mk h2
    clear hdrop h2 HEL hi
    obtain ⟨va2, m2, vn2, rfl⟩ := H2.out.sl
    have e2 : wr2.cell? ⟨g, 0, none⟩ = some (.slice va2 m2 vn2) := blk_cell H2.out.hv 0
    have t2 := Asserts.ta77bare (.pointer (some ⟨q, 0, none⟩))
    have e3 : wr2.cell? ⟨q, 1, none⟩ = some (.bool mt) := blk_cell (H2.out.old HQ.out) 1
    cases top with
    | false =>
      clear HFT
      go_wp2
      go_ret
      exact ⟨_, rfl, H2.out⟩
    | true =>
      cases mt with
      | false =>
        go_wp2_with (at_builtin; refine CmpU.list' (H2.out) rfl (.tmp 294) (.tmp 297) rfl rfl rfl (by rfl) rfl reps2c one2c (by have := HFT.out rfl; simp only [List.length_cons, List.length_nil]; omega) ?_; intro A7 n7 c7 w7 hS7 hc7 hf7; have HS7 := Aside0.mk hS7; clear hS7)
        go_ret
        exact ⟨_, rfl, HS7.out⟩
      | true =>
        go_wp2_with (first | (at_builtin; refine CmpU.list' (HS7.out) rfl (.tmp 294) (.tmp 297) rfl rfl rfl (by simp [World.setCell]) rfl reps2c one2c (by have := HFT.out rfl; simp only [List.length_cons, List.length_nil, List.length_append]; omega) ?_; intro A8 n8 c8 w8 hS8 hc8 hf8; have HS8 := Aside0.mk hS8; clear hS8) | (at_builtin; refine CmpU.list' (H2.out) rfl (.tmp 283) (.tmp 286) rfl rfl rfl (by rfl) rfl reps2c one2c (by have := HFT.out rfl; simp only [List.length_cons, List.length_nil]; omega) ?_; intro A7 n7 c7 w7 hS7 hc7 hf7; have HS7 := Aside0.mk hS7; clear hS7))
        go_ret
        exact ⟨_, rfl, HS8.out⟩
end
end Go.Proofs.YtpjfjfloeejgiaaFmt.Ins
/- compilePattern of package pm: for every pattern. -/
set_option linter.unusedVariables false
set_option linter.unusedSimpArgs false
namespace Go.Proofs.YtpjfjfloeejgiaaFmt.Ins
open Go.RowKit Go.Proofs.YtpjfjfloeejgiaaFmtW.PrintWords Go.Proofs.YtpjfjfloeejgiaaFmt.Scan Go.Proofs.YtpjfjfloeejgiaaFmt.Cls Go.Proofs.YtpjfjfloeejgiaaFmt.Pat

mutual
theorem code_pos : ∀ (p : Pat) (i k : Nat), 1 ≤ (code p i k).1.length
  | .one c, i, k => Nat.le_refl _
  | .rep t c, i, k => by
    simp only [code]
    split
    · simp
    · split
      · simp
      · split <;> simp
  | .pos, i, k => Nat.le_refl _
  | .cap ps, i, k => by simp [code]
  | .brace b e, i, k => Nat.le_refl _
  | .num n, i, k => Nat.le_refl _
end
theorem codes_len (ps : List Pat) : ∀ (i k : Nat), ps.length ≤ (codes ps i k).1.length := by
  induction ps with
  | nil => intro i k; exact Nat.zero_le _
  | cons p ps ih =>
    intro i k
    have h1 := code_pos p i k
    have h2 := ih (i + (code p i k).1.length) (code p i k).2
    simp only [codes, List.length_cons, List.length_append]
    omega

section
variable {w0 w wr : World} {g b q n : Nat} {ok : Nat → Prop} {mh mt : Bool} {ps : List Pat} {base : Nat}
theorem seq_none (h : SeqAt (patK 0) w base ok q mh mt ps) : ps = [] := by
  obtain ⟨v, _, hr⟩ := h
  cases ps with
  | nil => rfl
  | cons p ps =>
    obtain ⟨_, inner, _, hR⟩ := hr
    exact (hR.2 0 p rfl).elim
theorem seq_elems (h : SeqAt (patK (n + 1)) w base ok q mh mt ps) : ∃ A cs, w.heap[q]? = some (.cells #[.bool mh, .bool mt, .slice A ps.length cs] 87 (0, 0)) ∧ ps.length ≤ cs ∧
    ∀ i (h : i < ps.length), ∃ r t x, A = some ⟨r, 0, none⟩ ∧ w.cell? ⟨r, i, none⟩ = some (.iface t x) ∧ PatAt (patK n) w base ok (.iface t x) ps[i] := by
  obtain ⟨v, hb, hr⟩ := h
  obtain ⟨A, cs, rfl⟩ := Kd.R_slice hr
  have hcap := (Kd.R_reads' hr).2.1
  refine ⟨A, cs, hb.h, hcap, fun i hi => ?_⟩
  obtain ⟨r, cap', hv, _, hrl, _⟩ := Kd.R_form hr (by omega)
  have hA : A = some ⟨r, 0, none⟩ := by injection hv
  subst hA
  obtain ⟨c1, _, ⟨v1, rfl, k1⟩, hc1, _⟩ := Kd.R_elem hr Pat.pos (i : Nat) (by omega) (by omega)
  have e1 : ps.getD ((i : Nat) : Int).toNat Pat.pos = ps[i] := by simp [List.getD_eq_getElem?_getD, hi]
  rw [e1] at k1
  have h1 := hc1 0 _ rfl
  rw [patK_sz1] at h1
  simp only [Int.toNat_natCast, Nat.mul_one, Nat.add_zero] at h1
  obtain ⟨t, g1, rfl⟩ := k1.iface
  exact ⟨r, t, _, rfl, h1, k1.mono (fun k hk => hk.1)⟩
/-- A sequence of nothing. -/
theorem seq_nil (hq : ∃ A cs, w.heap[q]? = some (.cells #[.bool false, .bool false, .slice A 0 cs] 87 (0, 0))) : SeqC w0 w g q [] := by
  intro wr ins cp v b h hb hl hcp
  obtain ⟨A, cs, hq⟩ := hq
  have := seq_walk (ps := []) (top := false) (va := .slice (some ⟨b, 0, none⟩) 1 1) hq (fun i h => absurd h (Nat.not_lt_zero i)) (Nat.zero_le _) (by simp) (.inl ⟨rfl, rfl, h, hb⟩) hl (fun h => by cases h) hcp
  exact this
theorem seq_of_parts (hS : SeqAt (patK (n + 1)) w w0.heap.size ok q mh mt ps) (hP : ∀ p vp, p ∈ ps → PatAt (patK n) w w0.heap.size ok vp p → PartC w0 w g vp p) : SeqC w0 w g q ps := by
  intro wr ins cp v b h hb hl hcp
  obtain ⟨A, cs, hq, hcs, he⟩ := seq_elems hS
  refine seq_walk (top := false) (va := .slice (some ⟨b, 0, none⟩) 1 1) hq (fun i hi => ?_) hcs (by have := codes_len ps ins.length cp; omega) (.inl ⟨rfl, rfl, h, hb⟩) hl (fun h => by cases h) hcp
  obtain ⟨r, t, x, hA, hc, hk⟩ := he i hi
  exact ⟨r, t, x, hA, hc, hP _ _ (List.getElem_mem hi) hk⟩
theorem okps_mem : ∀ {ps : List Pat}, okps ps → ∀ p ∈ ps, Ins.okp p
  | [], _, p, hp => by cases hp
  | a :: ps, h, p, hp => by
    rcases List.mem_cons.1 hp with rfl | hp
    · exact h.1
    · exact okps_mem h.2 p hp
theorem part_of_seqs (hS : ∀ q ps, SeqAt (patK n) w w0.heap.size ok q false false ps → okps ps → SeqC w0 w g q ps) (p : Pat) (vp : Value) (hp : PatAt (patK n) w w0.heap.size ok vp p) (ho : Ins.okp p) : PartC w0 w g vp p := by
  intro wr ins cp v b h hb hl hcp
  cases p with
  | one c => exact comp_one h hb hp hl
  | rep t c =>
    have ho' : t = 42 ∨ t = 43 ∨ t = 45 ∨ t = 63 := ho
    rcases ho' with rfl | rfl | rfl | rfl
    · exact comp_star h hb hp hl
    · exact comp_plus h hb hp hl
    · exact comp_minus h hb hp hl
    · exact comp_quest h hb hp hl
  | pos =>
    have h2 : cp + 2 ≤ 1000000 := hcp
    exact comp_pos h hb hp hl (by omega)
  | cap ps =>
    obtain ⟨gp, q, rfl, b1, k1⟩ := hp
    exact comp_cap h hb b1 (hS q ps k1 ho) hl hcp
  | brace x y => exact comp_brace h hb hp hl
  | num x => exact comp_num h hb hp hl
theorem seqs_any : ∀ (n q : Nat) (ps : List Pat), SeqAt (patK n) w w0.heap.size ok q false false ps → okps ps → SeqC w0 w g q ps := by
  intro n
  induction n with
  | zero =>
    intro q ps h ho
    obtain rfl := seq_none h
    obtain ⟨v, hb, hr⟩ := h
    obtain ⟨A, cs, rfl⟩ := Kd.R_slice hr
    exact seq_nil ⟨A, cs, hb.h⟩
  | succ n ih =>
    intro q ps h ho
    exact seq_of_parts h (fun p vp hp hk => part_of_seqs ih p vp hk (okps_mem ho p hp))
/-- compilePattern, as Find calls it. -/
theorem compile_top (hle : w0.heap.size ≤ w.heap.size) (hS : SeqAt (patK n) w w0.heap.size ok q mh mt ps) (ho : okps ps) (hl : (codes ps 1 2).1.length ≤ 999000) (hcp : (codes ps 1 2).2 ≤ 1000000) :
    Calls Tryf.prog 28 #[.iface 77 (.pointer (some ⟨q, 0, none⟩)), .slice none 0 0] w (Comp w0 w (w.heap.size + 1) (fin true mt (.op 5 0 (-1) :: (codes ps 1 2).1)) (codes ps 1 2).2) := by
  have hlen := codes_len ps 1 2
  obtain ⟨A, cs, hq, hcs, hel⟩ : ∃ A cs, w.heap[q]? = some (.cells #[.bool mh, .bool mt, .slice A ps.length cs] 87 (0, 0)) ∧ ps.length ≤ cs ∧ ∀ i (h : i < ps.length), ∃ r t x, A = some ⟨r, 0, none⟩ ∧ w.cell? ⟨r, i, none⟩ = some (.iface t x) ∧ PartC w0 w (w.heap.size + 1) (.iface t x) ps[i] := by
    cases n with
    | zero =>
      obtain rfl := seq_none hS
      obtain ⟨v, hb, hr⟩ := hS
      obtain ⟨A, cs, rfl⟩ := Kd.R_slice hr
      exact ⟨A, cs, hb.h, Nat.zero_le _, fun i h => absurd h (Nat.not_lt_zero i)⟩
    | succ n =>
      obtain ⟨A, cs, hq, hcs, he⟩ := seq_elems hS
      refine ⟨A, cs, hq, hcs, fun i hi => ?_⟩
      obtain ⟨r, t, x, hA, hc, hk⟩ := he i hi
      exact ⟨r, t, x, hA, hc, part_of_seqs (seqs_any n) _ _ hk (okps_mem ho _ (List.getElem_mem hi))⟩
  have hw := seq_walk (b := 0) (v := .nilIface) (top := true) (va := .slice none 0 0) (ins := [.op 5 0 (-1)]) (cp := 2) (wr := w) hq hel hcs (by omega) (.inr ⟨rfl, rfl, rfl, rfl, rfl, rfl, hle⟩) (show 1 + (codes ps 1 2).1.length ≤ 1000000 by omega) (fun _ => show 1 + (codes ps 1 2).1.length ≤ 999990 by omega) hcp
  exact hw
end
end Go.Proofs.YtpjfjfloeejgiaaFmt.Ins
