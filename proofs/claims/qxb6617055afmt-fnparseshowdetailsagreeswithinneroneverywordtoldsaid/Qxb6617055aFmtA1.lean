import Derived.Test.Qxb6617055aFmtProg
import Derived.WalkKit
import Derived.WalkSpells
import Derived.WalkLawsBesides
import Derived.Stop.CallBack
import Derived.Stop.IfaceNil
import GoSem.ClaimData
namespace Go.Proofs.Qxb6617055aFmt
open Go.RowKit Go.Extern.Stop Go.Stop Go.Extern

theorem f_call16 (args : Array Value) (w : World) : (callFunc 16 args).run Tryf.prog w = ((FmtStop.errorf #[9, 32] #[25] args).run Tryf.prog w).andThen fun v w' => .ok (.value v) w' :=
  run_callFunc_extern Tryf.func16 (by kernel_rfl) (by kernel_rfl) (by kernel_rfl) (by kernel_rfl) args w
theorem f_guard (name : String) (w : World) : (FmtStop.guard name).run Tryf.prog w = .ok () w := by kernel_rfl
theorem f_fmt0 (w : World) : (FmtDoors.printed ⟨#[100, 101, 116, 97, 105, 108, 115, 32, 115, 101, 116, 116, 105, 110, 103, 32, 37, 113, 32, 105, 115, 32, 110, 111, 116, 32, 37, 113, 32, 111, 114, 32, 37, 113]⟩ 3).run Tryf.prog w = .ok [(0, 113, false), (1, 113, false), (2, 113, false)] w := by kernel_rfl
theorem f_fmt1 (w : World) : (FmtDoors.printed ⟨#[112, 117, 108, 115, 101, 107, 101, 101, 112, 58, 32, 37, 119]⟩ 1).run Tryf.prog w = .ok [(0, 119, false)] w := by kernel_rfl
def shape9 : List UInt8 := [12, 6, 0, 0, 0, 0, 0, 0, 0, 115, 116, 114, 105, 110, 103]
theorem f_op9 (name : String) (x : ByteArray) (w : World) : (FmtStop.operand name true 113 false (.iface 9 (.string x))).run Tryf.prog w = .ok (shape9, FmtStop.pack x.data.toList) w := by kernel_rfl
def shape23 : List UInt8 := [12, 21, 0, 0, 0, 0, 0, 0, 0, 112, 117, 108, 115, 101, 107, 101, 101, 112, 46, 83, 104, 111, 119, 68, 101, 116, 97, 105, 108, 115]
theorem f_op23 (name : String) (x : ByteArray) (w : World) : (FmtStop.operand name true 113 false (.iface 23 (.string x))).run Tryf.prog w = .ok (shape23, FmtStop.pack x.data.toList) w := by kernel_rfl
theorem f_ptr35 (w : World) : (FmtStop.ptrTo "errors.errorString").run Tryf.prog w = .ok 35 w := by kernel_rfl
theorem f_elem35 (w : World) : (elemOf 35).run Tryf.prog w = .ok 37 w := by kernel_rfl
theorem f_isErr35 (w : World) : (FmtDoors.textMethod 35 "Error").run Tryf.prog w = .ok true w := by kernel_rfl
theorem f_ptr34 (w : World) : (FmtStop.ptrTo "fmt.wrapError").run Tryf.prog w = .ok 34 w := by kernel_rfl
theorem f_elem34 (w : World) : (elemOf 34).run Tryf.prog w = .ok 55 w := by kernel_rfl
def plain35 : List UInt8 := 14 :: FmtStop.pack "*errors.errorString".toUTF8.data.toList
theorem f_opPlain35 (name : String) (a : Addr) (s : ByteArray) (w : World) (hc : w.cell? a = some (.string s)) :
    (FmtStop.operand name true 119 false (.iface 35 (.pointer (some a)))).run Tryf.prog w = .ok (plain35, s.data.toList) w := by
  have h1 : (typeStr 35).run Tryf.prog w = .ok "*errors.errorString" w := by kernel_rfl
  have d2 : Tryf.t35.desc = .pointer 37 := rfl
  have d3 : Tryf.t37.desc = .named "errors.errorString" 36 := rfl
  simp [FmtStop.operand, h1, d2, d3, run_load, hc, plain35]
theorem grown_drew {w w' : World} {r : Option Nat} (h : w.grownBy w' r) : w.grownBy w'.drew r := ⟨h.os, h.tape, h.output, h.size, h.block⟩
theorem grown_trans {a b c : World} {r : Option Nat} (h : a.grownBy b r) (k : b.grownBy c r) : a.grownBy c r :=
  ⟨k.os.trans h.os, k.tape.trans h.tape, k.output.trans h.output, Nat.le_trans h.size k.size, fun i hi hr => (k.block i (Nat.lt_of_lt_of_le hi h.size) hr).trans (h.block i hi hr)⟩
theorem grown_refl (w : World) (r : Option Nat) : w.grownBy w r := ⟨rfl, rfl, rfl, Nat.le_refl _, fun _ _ _ => rfl⟩
theorem new_cell (w : World) (o : Obj) (t : ByteArray) : ((w.alloc o).alloc (.cells #[.string t] 37)).drew.cell? ⟨w.heap.size + 1, 0, none⟩ = some (.string t) := by
  show ((w.alloc o).alloc (.cells #[.string t] 37)).cell? ⟨w.heap.size + 1, 0, none⟩ = _
  have := heap_alloc_new (w.alloc o) (.cells #[.string t] 37)
  rw [World.size_alloc] at this
  rw [cell_of_row _ _ 0 _ 37 (0, 0) this]; rfl
attribute [local go_sem] f_call16 f_guard f_fmt0 f_fmt1 f_op9 f_op23 f_ptr35 f_elem35 f_isErr35 f_ptr34 f_elem34

set_option maxHeartbeats 400000 in
theorem errorf_quoted (x y z : ByteArray) (w : World) :
    Calls Tryf.prog 15 #[.string ⟨#[100, 101, 116, 97, 105, 108, 115, 32, 115, 101, 116, 116, 105, 110, 103, 32, 37, 113, 32, 105, 115, 32, 110, 111, 116, 32, 37, 113, 32, 111, 114, 32, 37, 113]⟩, .slice (some ⟨w.heap.size, 0, none⟩) 3 3] (w.alloc (.cells #[.iface 9 (.string x), .iface 23 (.string y), .iface 23 (.string z)] 20)) fun e w' =>
      (∃ a t, e = .returned (.iface 35 (.pointer (some a))) ∧ w'.cell? a = some (.string t)) ∧ w.grownBy w' none := by
  go_enter Tryf.func15, Tryf.ntmps15
  go_wp2
  go_ret
  exact ⟨⟨_, _, rfl, new_cell _ _ _⟩, grown_drew (grown_trans (World.grownBy_alloc _ _ _) (World.grownBy_alloc _ _ _))⟩

set_option maxHeartbeats 400000 in
theorem errorf_wrapped (a : Addr) (t : ByteArray) (w : World) (ha : w.cell? a = some (.string t)) :
    Calls Tryf.prog 15 #[.string ⟨#[112, 117, 108, 115, 101, 107, 101, 101, 112, 58, 32, 37, 119]⟩, .slice (some ⟨w.heap.size, 0, none⟩) 1 1] (w.alloc (.cells #[.iface 35 (.pointer (some a))] 20)) fun e w' =>
      (∃ b, e = .returned (.iface 34 (.pointer (some b)))) ∧ w.grownBy w' none := by
  have ha' : (w.alloc (.cells #[.iface 35 (.pointer (some a))] 20)).cell? a = some (.string t) := (World.grownBy_alloc w _ none).cell ha (by simp)
  have hop := f_opPlain35 "fmt.errorf" a t _ ha'
  go_enter Tryf.func15, Tryf.ntmps15
  go_wp2
  go_ret
  exact ⟨⟨_, rfl⟩, grown_drew (grown_trans (World.grownBy_alloc _ _ _) (World.grownBy_alloc _ _ _))⟩
end Go.Proofs.Qxb6617055aFmt
