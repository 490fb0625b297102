/-
  fmt.Errorf over the stopped fmt.errorf, at this program's three formats: what comes back is an error that is not nil.
-/
import Derived.Test.Qxb6616818aFmtRows
import Derived.Test.Qxb6616818aFmtBody
import Derived.Stop.CallBack
import GoSem.ClaimData
namespace Go.Proofs.Qxb6616818aFmt
open Go.RowKit Go.Extern.Stop Go.Stop Go.Extern

theorem Tryf.call39 (args : Array Value) (w : World) : (callFunc 39 args).run Tryf.prog w = ((FmtStop.errorf #[9, 87] #[30] args).run Tryf.prog w).andThen fun v w' => .ok (.value v) w' :=
  run_callFunc_extern Tryf.func39 (by kernel_rfl) (by kernel_rfl) (by kernel_rfl) (by kernel_rfl) args w
theorem Tryf.guard (name : String) (w : World) : (FmtStop.guard name).run Tryf.prog w = .ok () w := by kernel_rfl

/-- "reading a packet header: %w" -/
def F1 : ByteArray := ⟨#[114, 101, 97, 100, 105, 110, 103, 32, 97, 32, 112, 97, 99, 107, 101, 116, 32, 104, 101, 97, 100, 101, 114, 58, 32, 37, 119]⟩
/-- "reading a packet: %w" -/
def F2 : ByteArray := ⟨#[114, 101, 97, 100, 105, 110, 103, 32, 97, 32, 112, 97, 99, 107, 101, 116, 58, 32, 37, 119]⟩
/-- "%w: packet %d where %d was due" -/
def F3 : ByteArray := ⟨#[37, 119, 58, 32, 112, 97, 99, 107, 101, 116, 32, 37, 100, 32, 119, 104, 101, 114, 101, 32, 37, 100, 32, 119, 97, 115, 32, 100, 117, 101]⟩
theorem f1 (w : World) : (FmtDoors.printed F1 1).run Tryf.prog w = .ok [(0, 119, false)] w := by kernel_rfl
theorem f2 (w : World) : (FmtDoors.printed F2 1).run Tryf.prog w = .ok [(0, 119, false)] w := by kernel_rfl
theorem f3 (w : World) : (FmtDoors.printed F3 3).run Tryf.prog w = .ok [(0, 119, false), (1, 100, false), (2, 100, false)] w := by kernel_rfl
theorem f1' : FmtStop.printed? F1 1 = some [(0, 119, false)] := by kernel_rfl
theorem f2' : FmtStop.printed? F2 1 = some [(0, 119, false)] := by kernel_rfl
theorem f3' : FmtStop.printed? F3 3 = some [(0, 119, false), (1, 100, false), (2, 100, false)] := by kernel_rfl

def Tryf.shape5 : List UInt8 := [6, 5, 0, 0, 0, 0, 0, 0, 0, 117, 105, 110, 116, 56]
theorem Tryf.op5_100w (name : String) (x : Int) (w : World) : (FmtStop.operand name true 100 false (.iface 5 (.int .u8 x))).run Tryf.prog w = .ok (Tryf.shape5, Go.Extern.Stop.digits 8 (x % 2 ^ 64).toNat) w := by kernel_rfl

theorem Tryf.ptr99 (w : World) : (FmtStop.ptrTo "errors.errorString").run Tryf.prog w = .ok 99 w := by kernel_rfl
theorem Tryf.ptr89 (w : World) : (FmtStop.ptrTo "fmt.wrapError").run Tryf.prog w = .ok 89 w := by kernel_rfl
theorem Tryf.elem89 (w : World) : (elemOf 89).run Tryf.prog w = .ok 137 w := by kernel_rfl
theorem Tryf.isError99' (w : World) : (FmtDoors.textMethod 99 "Error").run Tryf.prog w = .ok true w := by kernel_rfl
/-- the name of the sentinels' type, as the given rows have it -/
def ptrName : String := match (Rows.laid_io_EOF : DataW Unit) with
  | .iface n _ => n
  | _ => ""
def Tryf.plain99 : List UInt8 := 14 :: FmtStop.pack ptrName.toUTF8.data.toList
theorem Tryf.opPlain99_119w (name : String) (a : Addr) (s : ByteArray) (w : World) (hc : w.cell? a = some (.string s)) :
    (FmtStop.operand name true 119 false (.iface 99 (.pointer (some a)))).run Tryf.prog w = .ok (Tryf.plain99, s.data.toList) w := by
  have h1 : (typeStr 99).run Tryf.prog w = .ok ptrName w := by kernel_rfl
  have d2 : Tryf.t99.desc = .pointer 101 := rfl
  have d3 : Tryf.t101.desc = .named "errors.errorString" 100 := rfl
  simp [FmtStop.operand, h1, d2, d3, run_load, hc, Tryf.plain99]

/-- an error that is not nil -/
def IsWrap (e : Ending) : Prop := ∃ t x, e = .returned (.iface t x)

set_option maxHeartbeats 2000000 in
set_option maxRecDepth 100000 in
theorem errorf_1 (F : Interp) (V : Nat) (a : Addr) (s : ByteArray) (w : World) (hF : F.answers w.tape) (hv : w.cell? ⟨V, 0, none⟩ = some (.iface 99 (.pointer (some a)))) (hs : w.cell? a = some (.string s)) :
    Calls Tryf.prog 27 #[.string F1, .slice (some ⟨V, 0, none⟩) 1 1] w fun e w' => IsWrap e ∧ Keep (fun _ => False) w w' := by
  have hF' := hF
  unfold Interp.answers at hF'
  have hop := Tryf.opPlain99_119w "fmt.errorf" a s w hs
  have h39 := Tryf.call39
  have hg := Tryf.guard
  have hf1 := f1
  have hf2 := f1'
  have h99 := Tryf.ptr99
  have h89 := Tryf.ptr89
  have e89 := Tryf.elem89
  have i99 := Tryf.isError99'
  generalize F1 = FF at *
  go_enter Tryf.func27, Tryf.ntmps27
  go_wp2
  go_ret
  exact ⟨⟨_, _, rfl⟩, ((Keep.refl _ w).alloc _).drew⟩

set_option maxHeartbeats 2000000 in
set_option maxRecDepth 100000 in
theorem errorf_2 (F : Interp) (V : Nat) (a : Addr) (s : ByteArray) (w : World) (hF : F.answers w.tape) (hv : w.cell? ⟨V, 0, none⟩ = some (.iface 99 (.pointer (some a)))) (hs : w.cell? a = some (.string s)) :
    Calls Tryf.prog 27 #[.string F2, .slice (some ⟨V, 0, none⟩) 1 1] w fun e w' => IsWrap e ∧ Keep (fun _ => False) w w' := by
  have hF' := hF
  unfold Interp.answers at hF'
  have hop := Tryf.opPlain99_119w "fmt.errorf" a s w hs
  have h39 := Tryf.call39
  have hg := Tryf.guard
  have hf1 := f2
  have hf2 := f2'
  have h99 := Tryf.ptr99
  have h89 := Tryf.ptr89
  have e89 := Tryf.elem89
  have i99 := Tryf.isError99'
  generalize F2 = FF at *
  go_enter Tryf.func27, Tryf.ntmps27
  go_wp2
  go_ret
  exact ⟨⟨_, _, rfl⟩, ((Keep.refl _ w).alloc _).drew⟩

set_option maxHeartbeats 2000000 in
set_option maxRecDepth 100000 in
theorem errorf_3 (F : Interp) (V : Nat) (a : Addr) (s : ByteArray) (x y : Int) (w : World) (hF : F.answers w.tape) (hv : w.cell? ⟨V, 0, none⟩ = some (.iface 99 (.pointer (some a)))) (hv1 : w.cell? ⟨V, 1, none⟩ = some (.iface 5 (.int .u8 x))) (hv2 : w.cell? ⟨V, 2, none⟩ = some (.iface 5 (.int .u8 y))) (hs : w.cell? a = some (.string s)) :
    Calls Tryf.prog 27 #[.string F3, .slice (some ⟨V, 0, none⟩) 3 3] w fun e w' => IsWrap e ∧ Keep (fun _ => False) w w' := by
  have hF' := hF
  unfold Interp.answers at hF'
  have hop := Tryf.opPlain99_119w "fmt.errorf" a s w hs
  have hop5 := Tryf.op5_100w
  have h39 := Tryf.call39
  have hg := Tryf.guard
  have hf1 := f3
  have hf2 := f3'
  have h99 := Tryf.ptr99
  have h89 := Tryf.ptr89
  have e89 := Tryf.elem89
  have i99 := Tryf.isError99'
  generalize F3 = FF at *
  go_enter Tryf.func27, Tryf.ntmps27
  go_wp2
  go_ret
  exact ⟨⟨_, _, rfl⟩, ((Keep.refl _ w).alloc _).drew⟩
end Go.Proofs.Qxb6616818aFmt
