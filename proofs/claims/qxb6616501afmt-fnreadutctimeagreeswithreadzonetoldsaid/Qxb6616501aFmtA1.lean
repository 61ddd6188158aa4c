import Derived.Test.Qxb6616501aFmtProg
import Derived.WalkKit
import Derived.WalkSpells
import Derived.Stop.CallBack
import Derived.Stop.IfaceNil
import GoSem.ClaimData
namespace Go.Proofs.Qxb6616501aFmt
open Go.RowKit Go.Extern.Stop Go.Stop Go.Extern

theorem f_call23 (args : Array Value) (w : World) : (callFunc 23 args).run Tryf.prog w = ((FmtStop.errorf #[9, 50] #[24] args).run Tryf.prog w).andThen fun v w' => .ok (.value v) w' :=
  run_callFunc_extern Tryf.func23 (by kernel_rfl) (by kernel_rfl) (by kernel_rfl) (by kernel_rfl) args w
theorem f_guard (name : String) (w : World) : (FmtStop.guard name).run Tryf.prog w = .ok () w := by kernel_rfl
def fmtB0 : ByteArray := ⟨#[119, 105, 116, 104, 32, 97, 110, 32, 111, 102, 102, 115, 101, 116, 32, 111, 102, 32, 37, 100, 32, 104, 111, 117, 114, 115, 59, 32, 111, 102, 102, 115, 101, 116, 115, 32, 97, 114, 101, 32, 117, 110, 100, 101, 114, 32, 50, 52, 32, 104, 111, 117, 114, 115]⟩
theorem f_fmt0r (w : World) : (FmtDoors.printed ⟨#[119, 105, 116, 104, 32, 97, 110, 32, 111, 102, 102, 115, 101, 116, 32, 111, 102, 32, 37, 100, 32, 104, 111, 117, 114, 115, 59, 32, 111, 102, 102, 115, 101, 116, 115, 32, 97, 114, 101, 32, 117, 110, 100, 101, 114, 32, 50, 52, 32, 104, 111, 117, 114, 115]⟩ 1).run Tryf.prog w = .ok [(0, 100, false)] w := by kernel_rfl
def fmtB1 : ByteArray := ⟨#[119, 105, 116, 104, 32, 97, 110, 32, 111, 102, 102, 115, 101, 116, 32, 111, 102, 32, 37, 100, 32, 109, 105, 110, 117, 116, 101, 115, 32, 112, 97, 115, 116, 32, 116, 104, 101, 32, 104, 111, 117, 114, 59, 32, 109, 105, 110, 117, 116, 101, 115, 32, 97, 114, 101, 32, 48, 48, 32, 116, 111, 32, 53, 57]⟩
theorem f_fmt1r (w : World) : (FmtDoors.printed ⟨#[119, 105, 116, 104, 32, 97, 110, 32, 111, 102, 102, 115, 101, 116, 32, 111, 102, 32, 37, 100, 32, 109, 105, 110, 117, 116, 101, 115, 32, 112, 97, 115, 116, 32, 116, 104, 101, 32, 104, 111, 117, 114, 59, 32, 109, 105, 110, 117, 116, 101, 115, 32, 97, 114, 101, 32, 48, 48, 32, 116, 111, 32, 53, 57]⟩ 1).run Tryf.prog w = .ok [(0, 100, false)] w := by kernel_rfl
def fmtB2 : ByteArray := ⟨#[119, 105, 116, 104, 32, 37, 113, 32, 97, 116, 32, 112, 111, 115, 105, 116, 105, 111, 110, 32, 37, 100, 44, 32, 111, 117, 116, 32, 111, 102, 32, 112, 108, 97, 99, 101]⟩
theorem f_fmt2r (w : World) : (FmtDoors.printed ⟨#[119, 105, 116, 104, 32, 37, 113, 32, 97, 116, 32, 112, 111, 115, 105, 116, 105, 111, 110, 32, 37, 100, 44, 32, 111, 117, 116, 32, 111, 102, 32, 112, 108, 97, 99, 101]⟩ 2).run Tryf.prog w = .ok [(0, 113, false), (1, 100, false)] w := by kernel_rfl
def fmtB3 : ByteArray := ⟨#[101, 110, 100, 115, 32, 119, 104, 101, 114, 101, 32, 37, 115, 32, 109, 117, 115, 116, 32, 115, 116, 97, 110, 100]⟩
theorem f_fmt3r (w : World) : (FmtDoors.printed ⟨#[101, 110, 100, 115, 32, 119, 104, 101, 114, 101, 32, 37, 115, 32, 109, 117, 115, 116, 32, 115, 116, 97, 110, 100]⟩ 1).run Tryf.prog w = .ok [(0, 115, false)] w := by kernel_rfl
def fmtB4 : ByteArray := ⟨#[119, 105, 116, 104, 32, 37, 113, 32, 97, 116, 32, 112, 111, 115, 105, 116, 105, 111, 110, 32, 37, 100, 44, 32, 119, 104, 101, 114, 101, 32, 37, 115, 32, 109, 117, 115, 116, 32, 115, 116, 97, 110, 100]⟩
theorem f_fmt4r (w : World) : (FmtDoors.printed ⟨#[119, 105, 116, 104, 32, 37, 113, 32, 97, 116, 32, 112, 111, 115, 105, 116, 105, 111, 110, 32, 37, 100, 44, 32, 119, 104, 101, 114, 101, 32, 37, 115, 32, 109, 117, 115, 116, 32, 115, 116, 97, 110, 100]⟩ 3).run Tryf.prog w = .ok [(0, 113, false), (1, 100, false), (2, 115, false)] w := by kernel_rfl
def shape3 : List UInt8 := [5, 3, 0, 0, 0, 0, 0, 0, 0, 105, 110, 116]
theorem f_op3_100 (name : String) (x : Int) (w : World) : (FmtStop.operand name true 100 false (.iface 3 (.int .i64 x))).run Tryf.prog w = .ok (shape3, Go.Extern.Stop.digits 8 (x % 2 ^ 64).toNat) w := by kernel_rfl
def shape5 : List UInt8 := [6, 5, 0, 0, 0, 0, 0, 0, 0, 117, 105, 110, 116, 56]
theorem f_op5_113 (name : String) (x : Int) (w : World) : (FmtStop.operand name true 113 false (.iface 5 (.int .u8 x))).run Tryf.prog w = .ok (shape5, Go.Extern.Stop.digits 8 (x % 2 ^ 64).toNat) w := by kernel_rfl
def shape9 : List UInt8 := [12, 6, 0, 0, 0, 0, 0, 0, 0, 115, 116, 114, 105, 110, 103]
theorem f_op9_115 (name : String) (x : ByteArray) (w : World) : (FmtStop.operand name true 115 false (.iface 9 (.string x))).run Tryf.prog w = .ok (shape9, FmtStop.pack x.data.toList) w := by kernel_rfl
theorem f_ptr47 (w : World) : (FmtStop.ptrTo "errors.errorString").run Tryf.prog w = .ok 47 w := by kernel_rfl
theorem f_elem47 (w : World) : (elemOf 47).run Tryf.prog w = .ok 49 w := by kernel_rfl
theorem grown_drew {w w' : World} {r : Option Nat} (h : w.grownBy w' r) : w.grownBy w'.drew r := ⟨h.os, h.tape, h.output, h.size, h.block⟩
attribute [local go_sem] f_call23 f_guard f_fmt0r f_fmt1r f_fmt2r f_fmt3r f_fmt4r f_op3_100 f_op5_113 f_op9_115 f_ptr47 f_elem47

set_option maxHeartbeats 400000 in
theorem errorf0 (x : Int) (blk : Nat) (w : World) (h0 : w.cell? ⟨blk, 0, none⟩ = some (.iface 3 (.int .i64 x))) :
    Calls Tryf.prog 20 #[.string ⟨#[119, 105, 116, 104, 32, 97, 110, 32, 111, 102, 102, 115, 101, 116, 32, 111, 102, 32, 37, 100, 32, 104, 111, 117, 114, 115, 59, 32, 111, 102, 102, 115, 101, 116, 115, 32, 97, 114, 101, 32, 117, 110, 100, 101, 114, 32, 50, 52, 32, 104, 111, 117, 114, 115]⟩, .slice (some ⟨blk, 0, none⟩) 1 1] w fun e w' =>
      (∃ a, e = .returned (.iface 47 (.pointer (some a)))) ∧ w.grownBy w' none := by
  go_enter Tryf.func20, Tryf.ntmps20
  go_wp2
  go_ret
  exact ⟨⟨_, rfl⟩, grown_drew (World.grownBy_alloc _ _ _)⟩

set_option maxHeartbeats 400000 in
theorem errorf1 (x : Int) (blk : Nat) (w : World) (h0 : w.cell? ⟨blk, 0, none⟩ = some (.iface 3 (.int .i64 x))) :
    Calls Tryf.prog 20 #[.string ⟨#[119, 105, 116, 104, 32, 97, 110, 32, 111, 102, 102, 115, 101, 116, 32, 111, 102, 32, 37, 100, 32, 109, 105, 110, 117, 116, 101, 115, 32, 112, 97, 115, 116, 32, 116, 104, 101, 32, 104, 111, 117, 114, 59, 32, 109, 105, 110, 117, 116, 101, 115, 32, 97, 114, 101, 32, 48, 48, 32, 116, 111, 32, 53, 57]⟩, .slice (some ⟨blk, 0, none⟩) 1 1] w fun e w' =>
      (∃ a, e = .returned (.iface 47 (.pointer (some a)))) ∧ w.grownBy w' none := by
  go_enter Tryf.func20, Tryf.ntmps20
  go_wp2
  go_ret
  exact ⟨⟨_, rfl⟩, grown_drew (World.grownBy_alloc _ _ _)⟩

set_option maxHeartbeats 400000 in
theorem errorf2 (c x : Int) (blk : Nat) (w : World) (h0 : w.cell? ⟨blk, 0, none⟩ = some (.iface 5 (.int .u8 c))) (h1 : w.cell? ⟨blk, 1, none⟩ = some (.iface 3 (.int .i64 x))) :
    Calls Tryf.prog 20 #[.string ⟨#[119, 105, 116, 104, 32, 37, 113, 32, 97, 116, 32, 112, 111, 115, 105, 116, 105, 111, 110, 32, 37, 100, 44, 32, 111, 117, 116, 32, 111, 102, 32, 112, 108, 97, 99, 101]⟩, .slice (some ⟨blk, 0, none⟩) 2 2] w fun e w' =>
      (∃ a, e = .returned (.iface 47 (.pointer (some a)))) ∧ w.grownBy w' none := by
  go_enter Tryf.func20, Tryf.ntmps20
  go_wp2
  go_ret
  exact ⟨⟨_, rfl⟩, grown_drew (World.grownBy_alloc _ _ _)⟩

set_option maxHeartbeats 400000 in
theorem errorf3 (t : ByteArray) (blk : Nat) (w : World) (h0 : w.cell? ⟨blk, 0, none⟩ = some (.iface 9 (.string t))) :
    Calls Tryf.prog 20 #[.string ⟨#[101, 110, 100, 115, 32, 119, 104, 101, 114, 101, 32, 37, 115, 32, 109, 117, 115, 116, 32, 115, 116, 97, 110, 100]⟩, .slice (some ⟨blk, 0, none⟩) 1 1] w fun e w' =>
      (∃ a, e = .returned (.iface 47 (.pointer (some a)))) ∧ w.grownBy w' none := by
  go_enter Tryf.func20, Tryf.ntmps20
  go_wp2
  go_ret
  exact ⟨⟨_, rfl⟩, grown_drew (World.grownBy_alloc _ _ _)⟩

set_option maxHeartbeats 400000 in
theorem errorf4 (c x : Int) (t : ByteArray) (blk : Nat) (w : World) (h0 : w.cell? ⟨blk, 0, none⟩ = some (.iface 5 (.int .u8 c))) (h1 : w.cell? ⟨blk, 1, none⟩ = some (.iface 3 (.int .i64 x))) (h2 : w.cell? ⟨blk, 2, none⟩ = some (.iface 9 (.string t))) :
    Calls Tryf.prog 20 #[.string ⟨#[119, 105, 116, 104, 32, 37, 113, 32, 97, 116, 32, 112, 111, 115, 105, 116, 105, 111, 110, 32, 37, 100, 44, 32, 119, 104, 101, 114, 101, 32, 37, 115, 32, 109, 117, 115, 116, 32, 115, 116, 97, 110, 100]⟩, .slice (some ⟨blk, 0, none⟩) 3 3] w fun e w' =>
      (∃ a, e = .returned (.iface 47 (.pointer (some a)))) ∧ w.grownBy w' none := by
  go_enter Tryf.func20, Tryf.ntmps20
  go_wp2
  go_ret
  exact ⟨⟨_, rfl⟩, grown_drew (World.grownBy_alloc _ _ _)⟩

theorem grown_trans {a b c : World} {r : Option Nat} (h : a.grownBy b r) (k : b.grownBy c r) : a.grownBy c r :=
  ⟨k.os.trans h.os, k.tape.trans h.tape, k.output.trans h.output, Nat.le_trans h.size k.size, fun i hi hr => (k.block i (Nat.lt_of_lt_of_le hi h.size) hr).trans (h.block i hi hr)⟩
theorem errorf0_at (x : Int) (w : World) :
    Calls Tryf.prog 20 #[.string ⟨#[119, 105, 116, 104, 32, 97, 110, 32, 111, 102, 102, 115, 101, 116, 32, 111, 102, 32, 37, 100, 32, 104, 111, 117, 114, 115, 59, 32, 111, 102, 102, 115, 101, 116, 115, 32, 97, 114, 101, 32, 117, 110, 100, 101, 114, 32, 50, 52, 32, 104, 111, 117, 114, 115]⟩, .slice (some ⟨w.heap.size, 0, none⟩) 1 1] (w.alloc (.cells #[.iface 3 (.int .i64 x)] 20)) fun e w' =>
      (∃ a, e = .returned (.iface 47 (.pointer (some a)))) ∧ w.grownBy w' none := by
  refine (errorf0 x w.heap.size _ (by go_simp)).mono fun e w' ⟨h1, h2⟩ => ⟨h1, grown_trans (World.grownBy_alloc w _ none) h2⟩
theorem errorf0_drew (x : Int) (w : World) :
    Calls Tryf.prog 20 #[.string ⟨#[119, 105, 116, 104, 32, 97, 110, 32, 111, 102, 102, 115, 101, 116, 32, 111, 102, 32, 37, 100, 32, 104, 111, 117, 114, 115, 59, 32, 111, 102, 102, 115, 101, 116, 115, 32, 97, 114, 101, 32, 117, 110, 100, 101, 114, 32, 50, 52, 32, 104, 111, 117, 114, 115]⟩, .slice (some ⟨w.heap.size, 0, none⟩) 1 1] (w.alloc (.cells #[.iface 3 (.int .i64 x)] 20)).drew fun e w' =>
      (∃ a, e = .returned (.iface 47 (.pointer (some a)))) ∧ w.grownBy w' none := by
  refine (errorf0 x w.heap.size _ (by go_simp)).mono fun e w' ⟨h1, h2⟩ => ⟨h1, grown_trans (World.grownBy_alloc w _ none) (show World.grownBy _ w' none from ⟨h2.os, h2.tape, h2.output, h2.size, h2.block⟩)⟩
theorem errorf1_at (x : Int) (w : World) :
    Calls Tryf.prog 20 #[.string ⟨#[119, 105, 116, 104, 32, 97, 110, 32, 111, 102, 102, 115, 101, 116, 32, 111, 102, 32, 37, 100, 32, 109, 105, 110, 117, 116, 101, 115, 32, 112, 97, 115, 116, 32, 116, 104, 101, 32, 104, 111, 117, 114, 59, 32, 109, 105, 110, 117, 116, 101, 115, 32, 97, 114, 101, 32, 48, 48, 32, 116, 111, 32, 53, 57]⟩, .slice (some ⟨w.heap.size, 0, none⟩) 1 1] (w.alloc (.cells #[.iface 3 (.int .i64 x)] 20)) fun e w' =>
      (∃ a, e = .returned (.iface 47 (.pointer (some a)))) ∧ w.grownBy w' none := by
  refine (errorf1 x w.heap.size _ (by go_simp)).mono fun e w' ⟨h1, h2⟩ => ⟨h1, grown_trans (World.grownBy_alloc w _ none) h2⟩
theorem errorf1_drew (x : Int) (w : World) :
    Calls Tryf.prog 20 #[.string ⟨#[119, 105, 116, 104, 32, 97, 110, 32, 111, 102, 102, 115, 101, 116, 32, 111, 102, 32, 37, 100, 32, 109, 105, 110, 117, 116, 101, 115, 32, 112, 97, 115, 116, 32, 116, 104, 101, 32, 104, 111, 117, 114, 59, 32, 109, 105, 110, 117, 116, 101, 115, 32, 97, 114, 101, 32, 48, 48, 32, 116, 111, 32, 53, 57]⟩, .slice (some ⟨w.heap.size, 0, none⟩) 1 1] (w.alloc (.cells #[.iface 3 (.int .i64 x)] 20)).drew fun e w' =>
      (∃ a, e = .returned (.iface 47 (.pointer (some a)))) ∧ w.grownBy w' none := by
  refine (errorf1 x w.heap.size _ (by go_simp)).mono fun e w' ⟨h1, h2⟩ => ⟨h1, grown_trans (World.grownBy_alloc w _ none) (show World.grownBy _ w' none from ⟨h2.os, h2.tape, h2.output, h2.size, h2.block⟩)⟩
theorem errorf2_at (c x : Int) (w : World) :
    Calls Tryf.prog 20 #[.string ⟨#[119, 105, 116, 104, 32, 37, 113, 32, 97, 116, 32, 112, 111, 115, 105, 116, 105, 111, 110, 32, 37, 100, 44, 32, 111, 117, 116, 32, 111, 102, 32, 112, 108, 97, 99, 101]⟩, .slice (some ⟨w.heap.size, 0, none⟩) 2 2] (w.alloc (.cells #[.iface 5 (.int .u8 c), .iface 3 (.int .i64 x)] 20)) fun e w' =>
      (∃ a, e = .returned (.iface 47 (.pointer (some a)))) ∧ w.grownBy w' none := by
  refine (errorf2 c x w.heap.size _ (by go_simp) (by go_simp)).mono fun e w' ⟨h1, h2⟩ => ⟨h1, grown_trans (World.grownBy_alloc w _ none) h2⟩
theorem errorf2_drew (c x : Int) (w : World) :
    Calls Tryf.prog 20 #[.string ⟨#[119, 105, 116, 104, 32, 37, 113, 32, 97, 116, 32, 112, 111, 115, 105, 116, 105, 111, 110, 32, 37, 100, 44, 32, 111, 117, 116, 32, 111, 102, 32, 112, 108, 97, 99, 101]⟩, .slice (some ⟨w.heap.size, 0, none⟩) 2 2] (w.alloc (.cells #[.iface 5 (.int .u8 c), .iface 3 (.int .i64 x)] 20)).drew fun e w' =>
      (∃ a, e = .returned (.iface 47 (.pointer (some a)))) ∧ w.grownBy w' none := by
  refine (errorf2 c x w.heap.size _ (by go_simp) (by go_simp)).mono fun e w' ⟨h1, h2⟩ => ⟨h1, grown_trans (World.grownBy_alloc w _ none) (show World.grownBy _ w' none from ⟨h2.os, h2.tape, h2.output, h2.size, h2.block⟩)⟩
theorem errorf3_at (t : ByteArray) (w : World) :
    Calls Tryf.prog 20 #[.string ⟨#[101, 110, 100, 115, 32, 119, 104, 101, 114, 101, 32, 37, 115, 32, 109, 117, 115, 116, 32, 115, 116, 97, 110, 100]⟩, .slice (some ⟨w.heap.size, 0, none⟩) 1 1] (w.alloc (.cells #[.iface 9 (.string t)] 20)) fun e w' =>
      (∃ a, e = .returned (.iface 47 (.pointer (some a)))) ∧ w.grownBy w' none := by
  refine (errorf3 t w.heap.size _ (by go_simp)).mono fun e w' ⟨h1, h2⟩ => ⟨h1, grown_trans (World.grownBy_alloc w _ none) h2⟩
theorem errorf3_drew (t : ByteArray) (w : World) :
    Calls Tryf.prog 20 #[.string ⟨#[101, 110, 100, 115, 32, 119, 104, 101, 114, 101, 32, 37, 115, 32, 109, 117, 115, 116, 32, 115, 116, 97, 110, 100]⟩, .slice (some ⟨w.heap.size, 0, none⟩) 1 1] (w.alloc (.cells #[.iface 9 (.string t)] 20)).drew fun e w' =>
      (∃ a, e = .returned (.iface 47 (.pointer (some a)))) ∧ w.grownBy w' none := by
  refine (errorf3 t w.heap.size _ (by go_simp)).mono fun e w' ⟨h1, h2⟩ => ⟨h1, grown_trans (World.grownBy_alloc w _ none) (show World.grownBy _ w' none from ⟨h2.os, h2.tape, h2.output, h2.size, h2.block⟩)⟩
theorem errorf4_at (c x : Int) (t : ByteArray) (w : World) :
    Calls Tryf.prog 20 #[.string ⟨#[119, 105, 116, 104, 32, 37, 113, 32, 97, 116, 32, 112, 111, 115, 105, 116, 105, 111, 110, 32, 37, 100, 44, 32, 119, 104, 101, 114, 101, 32, 37, 115, 32, 109, 117, 115, 116, 32, 115, 116, 97, 110, 100]⟩, .slice (some ⟨w.heap.size, 0, none⟩) 3 3] (w.alloc (.cells #[.iface 5 (.int .u8 c), .iface 3 (.int .i64 x), .iface 9 (.string t)] 20)) fun e w' =>
      (∃ a, e = .returned (.iface 47 (.pointer (some a)))) ∧ w.grownBy w' none := by
  refine (errorf4 c x t w.heap.size _ (by go_simp) (by go_simp) (by go_simp)).mono fun e w' ⟨h1, h2⟩ => ⟨h1, grown_trans (World.grownBy_alloc w _ none) h2⟩
theorem errorf4_drew (c x : Int) (t : ByteArray) (w : World) :
    Calls Tryf.prog 20 #[.string ⟨#[119, 105, 116, 104, 32, 37, 113, 32, 97, 116, 32, 112, 111, 115, 105, 116, 105, 111, 110, 32, 37, 100, 44, 32, 119, 104, 101, 114, 101, 32, 37, 115, 32, 109, 117, 115, 116, 32, 115, 116, 97, 110, 100]⟩, .slice (some ⟨w.heap.size, 0, none⟩) 3 3] (w.alloc (.cells #[.iface 5 (.int .u8 c), .iface 3 (.int .i64 x), .iface 9 (.string t)] 20)).drew fun e w' =>
      (∃ a, e = .returned (.iface 47 (.pointer (some a)))) ∧ w.grownBy w' none := by
  refine (errorf4 c x t w.heap.size _ (by go_simp) (by go_simp) (by go_simp)).mono fun e w' ⟨h1, h2⟩ => ⟨h1, grown_trans (World.grownBy_alloc w _ none) (show World.grownBy _ w' none from ⟨h2.os, h2.tape, h2.output, h2.size, h2.block⟩)⟩
end Go.Proofs.Qxb6616501aFmt
