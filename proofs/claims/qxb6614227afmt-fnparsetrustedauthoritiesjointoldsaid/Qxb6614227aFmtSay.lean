/-
  DERIVED. Seat b6614227aF: what fmt's stop is asked at the three formats of this road; the violations that are made.
-/
import Derived.Test.Qxb6614227aFmtSmall
namespace Go.Proofs.Qxb6614227aFmt
open Go.RowKit Go.Extern.Stop Go.Stop Go.Extern

-- fmt.Sprintf: function 32: a stop that calls its operands' Error | String
theorem Tryf.call32 (args : Array Value) (w : World) : (callFunc 32 args).run Tryf.prog w = (FmtCalls.sprintf #[9, 67] #[9] args).run Tryf.prog w :=
  run_callFunc_next Tryf.func32 (by kernel_rfl) (by kernel_rfl) (by kernel_rfl) args w
theorem Tryf.guard (name : String) (w : World) : (FmtStop.guard name).run Tryf.prog w = .ok () w := by kernel_rfl
theorem Tryf.nextTurns : Extern.next FmtCalls.turnsRow = some (FmtCalls.begun #[] #[]) := by kernel_rfl
theorem Tryf.nextReturned : Extern.next FmtCalls.returnedRow = some (FmtCalls.returned #[] #[]) := by kernel_rfl

theorem Tryf.fmt1 : FmtStop.printed? ⟨#[116, 114, 117, 115, 116, 101, 100, 32, 97, 117, 116, 104, 111, 114, 105, 116, 121, 32, 37, 100, 32, 104, 97, 115, 32, 97, 110, 32, 101, 109, 112, 116, 121, 32, 100, 105, 115, 116, 105, 110, 103, 117, 105, 115, 104, 101, 100, 95, 110, 97, 109, 101]⟩ 1 = some [(0, 100, false)] := by kernel_rfl
theorem Tryf.fmt1r (w : World) : (FmtDoors.printed ⟨#[116, 114, 117, 115, 116, 101, 100, 32, 97, 117, 116, 104, 111, 114, 105, 116, 121, 32, 37, 100, 32, 104, 97, 115, 32, 97, 110, 32, 101, 109, 112, 116, 121, 32, 100, 105, 115, 116, 105, 110, 103, 117, 105, 115, 104, 101, 100, 95, 110, 97, 109, 101]⟩ 1).run Tryf.prog w = .ok [(0, 100, false)] w := by kernel_rfl

theorem Tryf.fmt2 : FmtStop.printed? ⟨#[116, 114, 117, 115, 116, 101, 100, 32, 97, 117, 116, 104, 111, 114, 105, 116, 121, 32, 37, 100, 32, 104, 97, 115, 32, 105, 100, 101, 110, 116, 105, 102, 105, 101, 114, 95, 116, 121, 112, 101, 32, 37, 100, 44, 32, 110, 111, 116, 32, 111, 110, 101, 32, 111, 102, 32, 48, 32, 116, 111, 32, 51]⟩ 2 = some [(0, 100, false), (1, 100, false)] := by kernel_rfl
theorem Tryf.fmt2r (w : World) : (FmtDoors.printed ⟨#[116, 114, 117, 115, 116, 101, 100, 32, 97, 117, 116, 104, 111, 114, 105, 116, 121, 32, 37, 100, 32, 104, 97, 115, 32, 105, 100, 101, 110, 116, 105, 102, 105, 101, 114, 95, 116, 121, 112, 101, 32, 37, 100, 44, 32, 110, 111, 116, 32, 111, 110, 101, 32, 111, 102, 32, 48, 32, 116, 111, 32, 51]⟩ 2).run Tryf.prog w = .ok [(0, 100, false), (1, 100, false)] w := by kernel_rfl

theorem Tryf.fmt3 : FmtStop.printed? ⟨#[116, 114, 117, 115, 116, 101, 100, 32, 97, 117, 116, 104, 111, 114, 105, 116, 121, 32, 37, 100]⟩ 1 = some [(0, 100, false)] := by kernel_rfl
theorem Tryf.fmt3r (w : World) : (FmtDoors.printed ⟨#[116, 114, 117, 115, 116, 101, 100, 32, 97, 117, 116, 104, 111, 114, 105, 116, 121, 32, 37, 100]⟩ 1).run Tryf.prog w = .ok [(0, 100, false)] w := by kernel_rfl

def Tryf.shape3 : List UInt8 := [5, 3, 0, 0, 0, 0, 0, 0, 0, 105, 110, 116]
theorem Tryf.act3_100 (name : String) (x : Value) (w : World) : (FmtCalls.act name false 100 false (.iface 3 x)).run Tryf.prog w = .ok (.closed false) w := by kernel_rfl
theorem Tryf.op3_100 (name : String) (x : Int) (w : World) : (FmtStop.operand name false 100 false (.iface 3 (.int .i64 x))).run Tryf.prog w = .ok (Tryf.shape3, Go.Extern.Stop.digits 8 (x % 2 ^ 64).toNat) w := by kernel_rfl
def Tryf.shape5 : List UInt8 := [6, 5, 0, 0, 0, 0, 0, 0, 0, 117, 105, 110, 116, 56]
theorem Tryf.act5_100 (name : String) (x : Value) (w : World) : (FmtCalls.act name false 100 false (.iface 5 x)).run Tryf.prog w = .ok (.closed false) w := by kernel_rfl
theorem Tryf.op5_100 (name : String) (x : Int) (w : World) : (FmtStop.operand name false 100 false (.iface 5 (.int .u8 x))).run Tryf.prog w = .ok (Tryf.shape5, Go.Extern.Stop.digits 8 (x % 2 ^ 64).toNat) w := by kernel_rfl

attribute [local go_sem] Tryf.call32 Tryf.guard Tryf.fmt1 Tryf.fmt1r Tryf.fmt2 Tryf.fmt2r Tryf.fmt3 Tryf.fmt3r Tryf.act3_100 Tryf.op3_100 Tryf.act5_100 Tryf.op5_100

def lmText : ByteArray := ⟨#[108, 101, 110, 103, 116, 104, 95, 109, 105, 115, 109, 97, 116, 99, 104]⟩
def vbText : ByteArray := ⟨#[118, 101, 99, 116, 111, 114, 95, 98, 111, 117, 110, 100, 115]⟩
def itText : ByteArray := ⟨#[116, 114, 117, 115, 116, 101, 100, 95, 99, 97, 95, 107, 101, 121, 115, 95, 105, 100, 101, 110, 116, 105, 102, 105, 101, 114, 95, 116, 121, 112, 101]⟩

set_option maxHeartbeats 400000 in
theorem cut_any (s : ByteArray) (w : World) (hs : s.size ≤ 1000) :
    Calls Tryf.prog 25 #[.string s] w fun e w' => e = .returned (.pointer (some ⟨w.heap.size, 0, none⟩)) ∧ ∃ t u, w' = w.alloc (.cells #[.string lmText, t, u] 43) := by
  go_enter Tryf.func25, Tryf.ntmps25
  go_wp2
  go_ret
  exact ⟨rfl, _, _, rfl⟩

set_option maxHeartbeats 400000 in
theorem bounds_any (F : Interp) (g : Nat) (i : Int) (w : World) (hF : F.answers w.tape) (hc : w.cell? ⟨g, 0, none⟩ = some (.iface 3 (.int .i64 i))) :
    Calls Tryf.prog 29 #[.string ⟨#[116, 114, 117, 115, 116, 101, 100, 32, 97, 117, 116, 104, 111, 114, 105, 116, 121, 32, 37, 100, 32, 104, 97, 115, 32, 97, 110, 32, 101, 109, 112, 116, 121, 32, 100, 105, 115, 116, 105, 110, 103, 117, 105, 115, 104, 101, 100, 95, 110, 97, 109, 101]⟩, .slice (some ⟨g, 0, none⟩) 1 1] w fun e w' => e = .returned (.pointer (some ⟨w.heap.size, 0, none⟩)) ∧ ∃ t u, w' = (w.alloc (.cells #[.string vbText, t, u] 43)).drew := by
  have hF' := answers_open hF
  go_enter Tryf.func29, Tryf.ntmps29
  go_wp2
  apply rows_value Tryf.nextTurns
  case hr =>
    go_simp
    exact ⟨rfl, rfl⟩
  case h =>
    go_wp2
    go_ret
    exact ⟨rfl, _, _, rfl⟩

end Go.Proofs.Qxb6614227aFmt
