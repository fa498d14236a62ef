import Derived.Test.YbulkcwemFmtProg
import Derived.WalkKit
import Derived.WalkSpells
import Derived.WalkLawsBesides
import Derived.Handy
import Derived.LaidEql
import Derived.Stop.CallBack
import Derived.Stop.IfaceNil
import Derived.Stop.Asserts
import Derived.RowKitTokens
import GoSem.ClaimData
namespace Go.Proofs.YbulkcwemFmt
open Go.RowKit Go.Extern.Stop Go.Stop Go.Extern

/-! ### what fmt.errorf's stop gives -/
theorem call23 (args : Array Value) (w : World) : (callFunc 23 args).run Ybaf.prog w = ((FmtStop.errorf #[9, 71] #[39] args).run Ybaf.prog w).andThen fun v w' => .ok (.value v) w' :=
  run_callFunc_extern Ybaf.func23 (by kernel_rfl) (by kernel_rfl) (by kernel_rfl) (by kernel_rfl) args w
theorem fguard (name : String) (w : World) : (FmtStop.guard name).run Ybaf.prog w = .ok () w := by kernel_rfl

/-- The format of the refusal. -/
def fmtB : ByteArray := ⟨#[37, 119, 58, 32, 97, 110, 110, 111, 117, 110, 99, 101, 109, 101, 110, 116, 32, 111, 102, 32, 97, 32, 114, 101, 112, 108, 105, 99, 97, 32, 111, 102, 32, 37, 100, 32, 98, 121, 116, 101, 115]⟩
theorem fmt0 : FmtStop.printed? ⟨#[37, 119, 58, 32, 97, 110, 110, 111, 117, 110, 99, 101, 109, 101, 110, 116, 32, 111, 102, 32, 97, 32, 114, 101, 112, 108, 105, 99, 97, 32, 111, 102, 32, 37, 100, 32, 98, 121, 116, 101, 115]⟩ 2 = some [(0, 119, false), (1, 100, false)] := by kernel_rfl
theorem fmt0r (w : World) : (FmtDoors.printed ⟨#[37, 119, 58, 32, 97, 110, 110, 111, 117, 110, 99, 101, 109, 101, 110, 116, 32, 111, 102, 32, 97, 32, 114, 101, 112, 108, 105, 99, 97, 32, 111, 102, 32, 37, 100, 32, 98, 121, 116, 101, 115]⟩ 2).run Ybaf.prog w = .ok [(0, 119, false), (1, 100, false)] w := by kernel_rfl
def shape3 : List UInt8 := [5, 3, 0, 0, 0, 0, 0, 0, 0, 105, 110, 116]
theorem op3_100w (name : String) (x : Int) (w : World) : (FmtStop.operand name true 100 false (.iface 3 (.int .i64 x))).run Ybaf.prog w = .ok (shape3, Go.Extern.Stop.digits 8 (x % 2 ^ 64).toNat) w := by kernel_rfl
theorem ptr94 (w : World) : (FmtStop.ptrTo "errors.errorString").run Ybaf.prog w = .ok 94 w := by kernel_rfl
theorem elem94 (w : World) : (elemOf 94).run Ybaf.prog w = .ok 96 w := by kernel_rfl
theorem isError94 (w : World) : (FmtDoors.textMethod 94 "Error").run Ybaf.prog w = .ok true w := by kernel_rfl
def plain94 : List UInt8 := 14 :: FmtStop.pack "*errors.errorString".toUTF8.data.toList
theorem opPlain94_119w (name : String) (a : Addr) (s : ByteArray) (w : World) (hc : w.cell? a = some (.string s)) :
    (FmtStop.operand name true 119 false (.iface 94 (.pointer (some a)))).run Ybaf.prog w = .ok (plain94, s.data.toList) w := by
  have h1 : (typeStr 94).run Ybaf.prog w = .ok "*errors.errorString" w := by kernel_rfl
  have d2 : Ybaf.t94.desc = .pointer 96 := rfl
  have d3 : Ybaf.t96.desc = .named "errors.errorString" 95 := rfl
  simp [FmtStop.operand, h1, d2, d3, run_load, hc, plain94]
theorem ptr73 (w : World) : (FmtStop.ptrTo "fmt.wrapError").run Ybaf.prog w = .ok 73 w := by kernel_rfl
theorem elem73 (w : World) : (elemOf 73).run Ybaf.prog w = .ok 129 w := by kernel_rfl
theorem isError73 (w : World) : (FmtDoors.textMethod 73 "Error").run Ybaf.prog w = .ok true w := by kernel_rfl

/-! ### errors.Is at a sentinel -/
theorem call18 (v : Value) (w : World) : (callFunc 18 #[.iface 94 v]).run Ybaf.prog w = .ok (.value (.iface 75 (.agg #[.pointer (some ⟨7, 94, none⟩)]))) w := by kernel_rfl
theorem call51 (w : World) : (callFunc 51 #[.agg #[.pointer (some ⟨7, 94, none⟩)]]).run Ybaf.prog w = .ok (.value (.bool true)) w := by kernel_rfl
theorem isComp : (Ybaf.prog.info? 94).map (·.comparable) = some true := by kernel_rfl
theorem isSize : (Ybaf.prog.info? 96).map (·.size) = some 1 := by kernel_rfl
theorem noIsE (v : Value) (xT : TypeId) (w : World) : (Instr.typeAssert (.iface 94 v) xT 77 true).run Ybaf.prog w = .ok (.tuple #[.nilIface, .bool false]) w := run_typeAssert_lacksB Ybaf.underlying77 (by kernel_rfl) (by kernel_rfl) v xT w
theorem noIsW (v : Value) (xT : TypeId) (w : World) : (Instr.typeAssert (.iface 73 v) xT 77 true).run Ybaf.prog w = .ok (.tuple #[.nilIface, .bool false]) w := run_typeAssert_lacksB Ybaf.underlying77 (by kernel_rfl) (by kernel_rfl) v xT w
theorem hasUnwrapW (v : Value) (xT : TypeId) (w : World) : (Instr.typeAssert (.iface 73 v) xT 80 true).run Ybaf.prog w = .ok (.tuple #[.iface 73 v, .bool true]) w := run_typeAssert_hasB Ybaf.underlying80 (by kernel_rfl) v xT w

set_option maxHeartbeats 400000 in
set_option maxRecDepth 100000 in
/-- errors.Is(e, x), e a *fmt.wrapError that wraps x itself: one Unwrap, then equal. -/
theorem is_wrap_same (pb : Nat) (b : Addr) (w : World) (h1 : w.cell? ⟨pb, 1, none⟩ = some (.iface 94 (.pointer (some b)))) :
    Calls Ybaf.prog 11 #[.iface 73 (.pointer (some ⟨pb, 0, none⟩)), .iface 94 (.pointer (some b))] w fun e w' => e = .returned (.bool true) ∧ w' = w := by
  obtain ⟨i, hi, hcmp⟩ := Option.map_eq_some_iff.1 isComp
  obtain ⟨j, hj, hjs⟩ := Option.map_eq_some_iff.1 isSize
  have h8 := call18
  have h32 := call51
  have nW := noIsW
  have uW := hasUnwrapW
  have heq := run_eql_iface_ptr_same (P := Ybaf.prog) w b Ybaf.underlying39 Ybaf.underlying94 hi hcmp hj
  have hty := run_eql_iface_types (P := Ybaf.prog) 73 94 (.pointer (some ⟨pb, 0, none⟩)) (.pointer (some b)) Ybaf.underlying39 (by decide) w
  go_enter Ybaf.func11, Ybaf.ntmps11
  go_wp2
  refine wp_loop_rounds 2 ?_
  rw [rounds_succ]
  go_wp2
  rw [rounds_succ]
  go_wp2
  go_ret
  exact ⟨rfl, rfl⟩
end Go.Proofs.YbulkcwemFmt
