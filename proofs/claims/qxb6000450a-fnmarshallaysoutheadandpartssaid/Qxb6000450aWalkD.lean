/-
  SEAT b6000450a: the walk of 'decodeBody' (12) over a message that is laid as marshal lays it.
-/
import Derived.Test.Qxb6000450aReads
import Derived.LoopN
namespace Go.Proofs.Qxb6000450a
open Go.RowKit
open Pl

theorem results_tmp5 {fn : Func} {t u v x y : Tmp} (h : fn.results = #[.tmp t, .tmp u, .tmp v, .tmp x, .tmp y]) (tmps : Array Value) (P : Program) (w : World) :
    (results fn tmps).run P w = .ok (.tuple #[tmps.getD t undef, tmps.getD u undef, tmps.getD v undef, tmps.getD x undef, tmps.getD y undef]) w := by
  simp [results, h]

theorem ret5 {a b c : Option Addr} {n2 n3 n4 p2 p3 p4 k2 k3 k4 : Nat} {v : Value} (h2 : n2 = p2) (h3 : n3 = p3) (h4 : n4 = p4) :
    Ending.returned (.tuple #[.bool true, .slice a n2 k2, .slice b n3 k3, .slice c n4 k4, v]) = .returned (.tuple #[.bool true, .slice a p2 k2, .slice b p3 k3, .slice c p4 k4, v]) := by
  rw [h2, h3, h4]

set_option maxHeartbeats 1000000 in
theorem dec_plain (g h p2 p3 p4 d1 d2 cap N : Nat) (w : World) (b0 : h ≤ 65536) (b1 : d1 ≤ 255) (b2 : d2 ≤ 255) (b3 : p4 ≤ 255)
    (f1 : d1 ≤ 3 + p2) (f1' : 3 + p2 ≤ d1) (f2 : d2 ≤ 3 + p2 + p3) (f2' : 3 + p2 + p3 ≤ d2) (f3 : N ≤ h + 2 + d2 + 1 + p4) (f3' : h + 2 + d2 + 1 + p4 ≤ N) (fc : N ≤ cap)
    (z0 : w.cell? ⟨g, h, none⟩ = some (.int .u8 3)) (z1 : w.cell? ⟨g, h + 1, none⟩ = some (.int .u8 (d1 : Int))) (z2 : w.cell? ⟨g, h + 2, none⟩ = some (.int .u8 (d2 : Int)))
    (y0 : w.cell? ⟨g, h + 3, none⟩ = some (.int .u8 (p2 : Int))) (y1 : w.cell? ⟨g, h + 1 + d1, none⟩ = some (.int .u8 (p3 : Int))) (y2 : w.cell? ⟨g, h + 2 + d2, none⟩ = some (.int .u8 (p4 : Int))) :
    Calls Try.prog 12 #[.slice (some ⟨g, 0, none⟩) N cap, .int .i64 (h : Int), .bool false] w fun e w' =>
      (∃ (A : Option Addr) (k2 k3 k4 : Nat), e = .returned (.tuple #[.bool true, .slice (some ⟨g, h + 3 + 1, none⟩) p2 k2, .slice (some ⟨g, h + 1 + d1 + 1, none⟩) p3 k3, .slice A p4 k4, .slice none 0 0]) ∧ (0 < p4 → A = some ⟨g, h + 2 + d2 + 1, none⟩)) ∧ w = w' := by
  have q1 : ((d1 : Int) == 0) = false := by rw [beq_eq_false_iff_ne]; omega
  have q2 : ((d2 : Int) == 0) = false := by rw [beq_eq_false_iff_ne]; omega
  have q3 : ((h : Int) + 1 + (d1 : Int) != (h : Int) + 3 + 1 + (p2 : Int)) = false := by rw [bne_eq_false_iff_eq]; omega
  have q4 : ((h : Int) + 2 + (d2 : Int) != (h : Int) + 1 + (d1 : Int) + 1 + (p3 : Int)) = false := by rw [bne_eq_false_iff_eq]; omega
  have q5 : ((h : Int) + 2 + (d2 : Int) + 1 + (p4 : Int) != (N : Int)) = false := by rw [bne_eq_false_iff_eq]; omega
  rcases Nat.lt_or_ge (h + 2 + d2 + 1) cap with hc | hc
  · go_enter Try.func12, Try.ntmps12
    go_wp2
    refine wp_loop_rounds 4 ?_
    rw [rounds_succ]
    go_wp2
    rw [rounds_succ]
    go_wp2
    rw [rounds_succ]
    go_wp2
    rw [rounds_succ]
    go_wp2
    try simp only [Exit.inBlock, Exit.then]
    refine bodyPost_ret (results_tmp5 rfl _ _ _) rfl ?_
    exact ⟨⟨_, _, _, _, ret5 (by omega) (by omega) (by omega), fun _ => rfl⟩, rfl⟩
  · obtain rfl : cap = h + 2 + d2 + 1 := by omega
    obtain rfl : p4 = 0 := by omega
    go_enter Try.func12, Try.ntmps12
    go_wp2
    refine wp_loop_rounds 4 ?_
    rw [rounds_succ]
    go_wp2
    rw [rounds_succ]
    go_wp2
    rw [rounds_succ]
    go_wp2
    rw [rounds_succ]
    go_wp2
    try simp only [Exit.inBlock, Exit.then]
    refine bodyPost_ret (results_tmp5 rfl _ _ _) rfl ?_
    exact ⟨⟨_, _, _, _, ret5 (by omega) (by omega) (by omega), fun hx => absurd hx (by omega)⟩, rfl⟩

set_option maxHeartbeats 1000000 in
theorem dec_ext0 (g h p2 p3 p4 d1 d2 cap N : Nat) (w : World) (b0 : h ≤ 65536) (b1 : d1 ≤ 255) (b2 : d2 ≤ 255) (b3 : p4 ≤ 255)
    (f1 : d1 ≤ 4 + p2) (f1' : 4 + p2 ≤ d1) (f2 : d2 ≤ 4 + p2 + p3) (f2' : 4 + p2 + p3 ≤ d2) (f3 : N ≤ h + 2 + d2 + 1 + p4) (f3' : h + 2 + d2 + 1 + p4 ≤ N) (fc : N ≤ cap)
    (z0 : w.cell? ⟨g, h, none⟩ = some (.int .u8 4)) (z1 : w.cell? ⟨g, h + 1, none⟩ = some (.int .u8 (d1 : Int))) (z2 : w.cell? ⟨g, h + 2, none⟩ = some (.int .u8 (d2 : Int))) (z3 : w.cell? ⟨g, h + 3, none⟩ = some (.int .u8 0))
    (y0 : w.cell? ⟨g, h + 4, none⟩ = some (.int .u8 (p2 : Int))) (y1 : w.cell? ⟨g, h + 1 + d1, none⟩ = some (.int .u8 (p3 : Int))) (y2 : w.cell? ⟨g, h + 2 + d2, none⟩ = some (.int .u8 (p4 : Int))) :
    Calls Try.prog 12 #[.slice (some ⟨g, 0, none⟩) N cap, .int .i64 (h : Int), .bool true] w fun e w' =>
      (∃ (A : Option Addr) (k2 k3 k4 : Nat), e = .returned (.tuple #[.bool true, .slice (some ⟨g, h + 4 + 1, none⟩) p2 k2, .slice (some ⟨g, h + 1 + d1 + 1, none⟩) p3 k3, .slice A p4 k4, .slice none 0 0]) ∧ (0 < p4 → A = some ⟨g, h + 2 + d2 + 1, none⟩)) ∧ w = w' := by
  have q1 : ((d1 : Int) == 0) = false := by rw [beq_eq_false_iff_ne]; omega
  have q2 : ((d2 : Int) == 0) = false := by rw [beq_eq_false_iff_ne]; omega
  have q3 : ((h : Int) + 1 + (d1 : Int) != (h : Int) + 4 + 1 + (p2 : Int)) = false := by rw [bne_eq_false_iff_eq]; omega
  have q4 : ((h : Int) + 2 + (d2 : Int) != (h : Int) + 1 + (d1 : Int) + 1 + (p3 : Int)) = false := by rw [bne_eq_false_iff_eq]; omega
  have q5 : ((h : Int) + 2 + (d2 : Int) + 1 + (p4 : Int) != (N : Int)) = false := by rw [bne_eq_false_iff_eq]; omega
  rcases Nat.lt_or_ge (h + 2 + d2 + 1) cap with hc | hc
  · go_enter Try.func12, Try.ntmps12
    go_wp2
    refine wp_loop_rounds 4 ?_
    rw [rounds_succ]
    go_wp2
    rw [rounds_succ]
    go_wp2
    rw [rounds_succ]
    go_wp2
    rw [rounds_succ]
    go_wp2
    try simp only [Exit.inBlock, Exit.then]
    refine bodyPost_ret (results_tmp5 rfl _ _ _) rfl ?_
    exact ⟨⟨_, _, _, _, ret5 (by omega) (by omega) (by omega), fun _ => rfl⟩, rfl⟩
  · obtain rfl : cap = h + 2 + d2 + 1 := by omega
    obtain rfl : p4 = 0 := by omega
    go_enter Try.func12, Try.ntmps12
    go_wp2
    refine wp_loop_rounds 4 ?_
    rw [rounds_succ]
    go_wp2
    rw [rounds_succ]
    go_wp2
    rw [rounds_succ]
    go_wp2
    rw [rounds_succ]
    go_wp2
    try simp only [Exit.inBlock, Exit.then]
    refine bodyPost_ret (results_tmp5 rfl _ _ _) rfl ?_
    exact ⟨⟨_, _, _, _, ret5 (by omega) (by omega) (by omega), fun hx => absurd hx (by omega)⟩, rfl⟩

set_option maxHeartbeats 1000000 in
theorem dec_ext1 (g h p2 p3 p4 d1 d2 d3 cap N : Nat) (w : World) (b0 : h ≤ 65536) (b1 : d1 ≤ 255) (b2 : d2 ≤ 255) (b3 : p4 ≤ 255)
    (f1 : d1 ≤ 4 + p2) (f1' : 4 + p2 ≤ d1) (f2 : d2 ≤ 4 + p2 + p3) (f2' : 4 + p2 + p3 ≤ d2) (f3 : h + 2 + d2 + 1 + p4 < N) (f4 : d3 ≤ 4 + p2 + p3 + p4) (f4' : 4 + p2 + p3 + p4 ≤ d3) (fc : N ≤ cap)
    (z0 : w.cell? ⟨g, h, none⟩ = some (.int .u8 4)) (z1 : w.cell? ⟨g, h + 1, none⟩ = some (.int .u8 (d1 : Int))) (z2 : w.cell? ⟨g, h + 2, none⟩ = some (.int .u8 (d2 : Int))) (z3 : w.cell? ⟨g, h + 3, none⟩ = some (.int .u8 (d3 : Int))) (b5 : d3 ≤ 255) (b6 : N ≤ 1048576)
    (y0 : w.cell? ⟨g, h + 4, none⟩ = some (.int .u8 (p2 : Int))) (y1 : w.cell? ⟨g, h + 1 + d1, none⟩ = some (.int .u8 (p3 : Int))) (y2 : w.cell? ⟨g, h + 2 + d2, none⟩ = some (.int .u8 (p4 : Int))) :
    Calls Try.prog 12 #[.slice (some ⟨g, 0, none⟩) N cap, .int .i64 (h : Int), .bool true] w fun e w' =>
      (∃ (A : Option Addr) (k2 k3 k4 k5 : Nat), e = .returned (.tuple #[.bool true, .slice (some ⟨g, h + 4 + 1, none⟩) p2 k2, .slice (some ⟨g, h + 1 + d1 + 1, none⟩) p3 k3, .slice A p4 k4, .slice (some ⟨g, h + 2 + d2 + 1 + p4, none⟩) (N - (h + 2 + d2 + 1 + p4)) k5]) ∧ (0 < p4 → A = some ⟨g, h + 2 + d2 + 1, none⟩)) ∧ w = w' := by
  have q1 : ((d1 : Int) == 0) = false := by rw [beq_eq_false_iff_ne]; omega
  have q2 : ((d2 : Int) == 0) = false := by rw [beq_eq_false_iff_ne]; omega
  have q3 : ((h : Int) + 1 + (d1 : Int) != (h : Int) + 4 + 1 + (p2 : Int)) = false := by rw [bne_eq_false_iff_eq]; omega
  have q4 : ((h : Int) + 2 + (d2 : Int) != (h : Int) + 1 + (d1 : Int) + 1 + (p3 : Int)) = false := by rw [bne_eq_false_iff_eq]; omega
  have q5 : ((h : Int) + 3 + (d3 : Int) != (h : Int) + 2 + (d2 : Int) + 1 + (p4 : Int)) = false := by rw [bne_eq_false_iff_eq]; omega
  have q6 : ((d3 : Int) != 0) = true := by rw [bne_iff_ne]; omega
  have hc : h + 2 + d2 + 1 < cap := by omega
  go_enter Try.func12, Try.ntmps12
  go_wp2
  refine wp_loop_rounds 4 ?_
  rw [rounds_succ]
  go_wp2
  rw [rounds_succ]
  go_wp2
  rw [rounds_succ]
  go_wp2
  rw [rounds_succ]
  go_wp2
  try simp only [Exit.inBlock, Exit.then]
  refine bodyPost_ret (results_tmp5 rfl _ _ _) rfl ?_
  exact ⟨⟨_, _, _, _, _, ret5 (by omega) (by omega) (by omega), fun _ => rfl⟩, rfl⟩

end Go.Proofs.Qxb6000450a
