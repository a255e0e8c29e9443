import Derived.Test.Qxb6600587aDoorWf
import Derived.Deep.QuietTactic
import Derived.BigQuiet
namespace Go.Proofs.Qxb6600587aDoor
open Go.RowKit Go.Shelf
set_option linter.unusedVariables false

set_option maxHeartbeats 400000 in
theorem cut_none_eof (a : Option Addr) (n c : Nat) (w : World) (hn : 0 < n) (hn2 : n ≤ 65536)
    (hI : Calls Tryd.prog 15 #[.slice a n c, .string ⟨#[13, 10]⟩] w fun e w' => e = .returned (.int .i64 (-1)) ∧ Below w.heap.size w w') :
    Calls Tryd.prog 14 #[.slice a n c, .bool true] w fun e w' => e = .returned (.tuple #[.int .i64 (n : Int), .slice a n c]) ∧ Below w.heap.size w w' := by
  have hn' : (0 : Int) < (n : Int) := by omega
  go_enter Tryd.func14, Tryd.ntmps14
  go_wp2_with (go_at_call 15; refine hI.mono ?_; rintro e w1 ⟨rfl, hb⟩)
  go_ret2
  exact ⟨rfl, hb⟩

set_option maxHeartbeats 400000 in
theorem cut_none_nil (a : Option Addr) (n c : Nat) (eof : Bool) (w : World) (h : eof = false ∨ n = 0) (hn2 : n ≤ 65536)
    (hI : Calls Tryd.prog 15 #[.slice a n c, .string ⟨#[13, 10]⟩] w fun e w' => e = .returned (.int .i64 (-1)) ∧ Below w.heap.size w w') :
    Calls Tryd.prog 14 #[.slice a n c, .bool eof] w fun e w' => e = .returned (.tuple #[.int .i64 0, .slice none 0 0]) ∧ Below w.heap.size w w' := by
  cases eof
  · go_enter Tryd.func14, Tryd.ntmps14
    go_wp2_with (go_at_call 15; refine hI.mono ?_; rintro e w1 ⟨rfl, hb⟩)
    go_ret2
    exact ⟨rfl, hb⟩
  · obtain rfl : n = 0 := by simpa using h
    go_enter Tryd.func14, Tryd.ntmps14
    go_wp2_with (go_at_call 15; refine hI.mono ?_; rintro e w1 ⟨rfl, hb⟩)
    go_ret2
    exact ⟨rfl, hb⟩

set_option maxHeartbeats 400000 in
theorem cut_lf (b off n c i : Nat) (eof : Bool) (w : World) (hi : i < n) (hn2 : n ≤ 65536) (hcn : n ≤ c) (hx : b < w.heap.size)
    (hc : w.cell? ⟨b, off + i, none⟩ = some (.int .u8 10))
    (hI : Calls Tryd.prog 15 #[.slice (some ⟨b, off, none⟩) n c, .string ⟨#[13, 10]⟩] w fun e w' => e = .returned (.int .i64 (i : Int)) ∧ Below w.heap.size w w') :
    Calls Tryd.prog 14 #[.slice (some ⟨b, off, none⟩) n c, .bool eof] w fun e w' => e = .returned (.tuple #[.int .i64 (i + 1 : Int), .slice (some ⟨b, off, none⟩) i c]) ∧ Below w.heap.size w w' := by
  have hi' : (i : Int) < (n : Int) := by omega
  have hin : (i : Int) ≤ (c : Int) := by omega
  skip
  go_enter Tryd.func14, Tryd.ntmps14
  go_wp2_with (go_at_call 15; refine hI.mono ?_; rintro e w1 ⟨rfl, hb⟩; have hc1 : w1.cell? ⟨b, off + i, none⟩ = some (.int .u8 10) := (hb.cell (p := ⟨b, off + i, none⟩) hx).trans hc)
  go_quiet (fail)
  go_wp2
  go_ret2
  exact ⟨rfl, below_drewN hb _⟩

set_option maxHeartbeats 400000 in
theorem cut_crlf (b off n c i : Nat) (eof : Bool) (w : World) (hi : i < n) (hn2 : n ≤ 65536) (hcn : n ≤ c) (hx : b < w.heap.size)
    (hc : w.cell? ⟨b, off + i, none⟩ = some (.int .u8 13)) (h2 : i + 1 < n) (hd : w.cell? ⟨b, off + (i + 1), none⟩ = some (.int .u8 10))
    (hI : Calls Tryd.prog 15 #[.slice (some ⟨b, off, none⟩) n c, .string ⟨#[13, 10]⟩] w fun e w' => e = .returned (.int .i64 (i : Int)) ∧ Below w.heap.size w w') :
    Calls Tryd.prog 14 #[.slice (some ⟨b, off, none⟩) n c, .bool eof] w fun e w' => e = .returned (.tuple #[.int .i64 (i + 2 : Int), .slice (some ⟨b, off, none⟩) i c]) ∧ Below w.heap.size w w' := by
  have hi' : (i : Int) < (n : Int) := by omega
  have hin : (i : Int) ≤ (c : Int) := by omega
  have h2' : (i : Int) + 1 < (n : Int) := by omega
  go_enter Tryd.func14, Tryd.ntmps14
  go_wp2_with (go_at_call 15; refine hI.mono ?_; rintro e w1 ⟨rfl, hb⟩; have hc1 : w1.cell? ⟨b, off + i, none⟩ = some (.int .u8 13) := (hb.cell (p := ⟨b, off + i, none⟩) hx).trans hc; have hd1 : w1.cell? ⟨b, off + (i + 1), none⟩ = some (.int .u8 10) := (hb.cell (p := ⟨b, off + (i + 1), none⟩) hx).trans hd)
  go_quiet (fail)
  go_wp2
  go_ret2
  exact ⟨rfl, below_drewN hb _⟩

set_option maxHeartbeats 400000 in
theorem cut_cr (b off n c i : Nat) (eof : Bool) (w : World) (hi : i < n) (hn2 : n ≤ 65536) (hcn : n ≤ c) (hx : b < w.heap.size)
    (hc : w.cell? ⟨b, off + i, none⟩ = some (.int .u8 13)) (h2 : i + 1 < n) (z : Int) (hz : (z == 10) = false) (hd : w.cell? ⟨b, off + (i + 1), none⟩ = some (.int .u8 z))
    (hI : Calls Tryd.prog 15 #[.slice (some ⟨b, off, none⟩) n c, .string ⟨#[13, 10]⟩] w fun e w' => e = .returned (.int .i64 (i : Int)) ∧ Below w.heap.size w w') :
    Calls Tryd.prog 14 #[.slice (some ⟨b, off, none⟩) n c, .bool eof] w fun e w' => e = .returned (.tuple #[.int .i64 (i + 1 : Int), .slice (some ⟨b, off, none⟩) i c]) ∧ Below w.heap.size w w' := by
  have hi' : (i : Int) < (n : Int) := by omega
  have hin : (i : Int) ≤ (c : Int) := by omega
  have h2' : (i : Int) + 1 < (n : Int) := by omega
  go_enter Tryd.func14, Tryd.ntmps14
  go_wp2_with (go_at_call 15; refine hI.mono ?_; rintro e w1 ⟨rfl, hb⟩; have hc1 : w1.cell? ⟨b, off + i, none⟩ = some (.int .u8 13) := (hb.cell (p := ⟨b, off + i, none⟩) hx).trans hc; have hd1 : w1.cell? ⟨b, off + (i + 1), none⟩ = some (.int .u8 z) := (hb.cell (p := ⟨b, off + (i + 1), none⟩) hx).trans hd)
  go_quiet (fail)
  go_wp2
  go_ret2
  exact ⟨rfl, below_drewN hb _⟩

set_option maxHeartbeats 400000 in
theorem cut_cr_end (b off n c i : Nat) (w : World) (hi : i < n) (hn2 : n ≤ 65536) (hcn : n ≤ c) (hx : b < w.heap.size)
    (hc : w.cell? ⟨b, off + i, none⟩ = some (.int .u8 13)) (h2 : ¬ i + 1 < n)
    (hI : Calls Tryd.prog 15 #[.slice (some ⟨b, off, none⟩) n c, .string ⟨#[13, 10]⟩] w fun e w' => e = .returned (.int .i64 (i : Int)) ∧ Below w.heap.size w w') :
    Calls Tryd.prog 14 #[.slice (some ⟨b, off, none⟩) n c, .bool true] w fun e w' => e = .returned (.tuple #[.int .i64 (i + 1 : Int), .slice (some ⟨b, off, none⟩) i c]) ∧ Below w.heap.size w w' := by
  have hi' : (i : Int) < (n : Int) := by omega
  have hin : (i : Int) ≤ (c : Int) := by omega
  have h2' : ¬ (i : Int) + 1 < (n : Int) := by omega
  go_enter Tryd.func14, Tryd.ntmps14
  go_wp2_with (go_at_call 15; refine hI.mono ?_; rintro e w1 ⟨rfl, hb⟩; have hc1 : w1.cell? ⟨b, off + i, none⟩ = some (.int .u8 13) := (hb.cell (p := ⟨b, off + i, none⟩) hx).trans hc)
  go_quiet (fail)
  go_wp2
  go_ret2
  exact ⟨rfl, below_drewN hb _⟩

set_option maxHeartbeats 400000 in
theorem cut_wait (b off n c i : Nat) (w : World) (hi : i < n) (hn2 : n ≤ 65536) (hx : b < w.heap.size)
    (hc : w.cell? ⟨b, off + i, none⟩ = some (.int .u8 13)) (h2 : ¬ i + 1 < n)
    (hI : Calls Tryd.prog 15 #[.slice (some ⟨b, off, none⟩) n c, .string ⟨#[13, 10]⟩] w fun e w' => e = .returned (.int .i64 (i : Int)) ∧ Below w.heap.size w w') :
    Calls Tryd.prog 14 #[.slice (some ⟨b, off, none⟩) n c, .bool false] w fun e w' => e = .returned (.tuple #[.int .i64 0, .slice none 0 0]) ∧ Below w.heap.size w w' := by
  have hi' : (i : Int) < (n : Int) := by omega
  have h2' : ¬ (i : Int) + 1 < (n : Int) := by omega
  go_enter Tryd.func14, Tryd.ntmps14
  go_wp2_with (go_at_call 15; refine hI.mono ?_; rintro e w1 ⟨rfl, hb⟩; have hc1 : w1.cell? ⟨b, off + i, none⟩ = some (.int .u8 13) := (hb.cell (p := ⟨b, off + i, none⟩) hx).trans hc)
  go_ret2
  exact ⟨rfl, hb⟩
end Go.Proofs.Qxb6600587aDoor
