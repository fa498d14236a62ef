import Derived.Test.YbulkcwciFmtWhen
namespace Go.Proofs.YbulkcwciFmt
open Go.RowKit Go.Deep Go.Extern.Stop Go.Stop Go.Extern

theorem call26 (args : Array Value) (w : World) : (callFunc 26 args).run Ybaf.prog w = (FmtCalls.errorf #[9, 101] #[44] args).run Ybaf.prog w :=
  run_callFunc_next Ybaf.func26 (by kernel_rfl) (by kernel_rfl) (by kernel_rfl) args w
theorem call30 (args : Array Value) (w : World) : (callFunc 30 args).run Ybaf.prog w = ((FmtStop.sprintf #[9, 101] #[9] args).run Ybaf.prog w).andThen fun v w' => .ok (.value v) w' :=
  run_callFunc_extern Ybaf.func30 (by kernel_rfl) (by kernel_rfl) (by kernel_rfl) (by kernel_rfl) args w
theorem fguard (name : String) (w : World) : (FmtStop.guard name).run Ybaf.prog w = .ok () w := by kernel_rfl
theorem nextTurns : Extern.next FmtCalls.turnsRow = some (FmtCalls.begun #[] #[]) := by kernel_rfl
theorem nextReturned : Extern.next FmtCalls.returnedRow = some (FmtCalls.returned #[] #[]) := by kernel_rfl
/-- The text of EdgeOp.String for a number that has no name. -/
theorem fmtA : FmtStop.printed? ⟨#[69, 100, 103, 101, 79, 112, 40, 37, 100, 41]⟩ 1 = some [(0, 100, false)] := by kernel_rfl
theorem fmtAr (w : World) : (FmtDoors.printed ⟨#[69, 100, 103, 101, 79, 112, 40, 37, 100, 41]⟩ 1).run Ybaf.prog w = .ok [(0, 100, false)] w := by kernel_rfl
/-- The format of the error of an edge that no rule reads. -/
abbrev fmtS : ByteArray := ⟨#[110, 111, 32, 114, 117, 108, 101, 32, 111, 102, 32, 97, 32, 115, 116, 101, 112, 32, 114, 101, 97, 100, 115, 32, 116, 104, 101, 32, 37, 118, 32, 101, 100, 103, 101, 32, 97, 116, 32, 37, 100, 58, 37, 100]⟩
theorem fmtB : FmtStop.printed? fmtS 3 = some [(0, 118, false), (1, 100, false), (2, 100, false)] := by kernel_rfl
theorem fmtBr (w : World) : (FmtDoors.printed fmtS 3).run Ybaf.prog w = .ok [(0, 118, false), (1, 100, false), (2, 100, false)] w := by kernel_rfl
def shape3 : List UInt8 := [5, 3, 0, 0, 0, 0, 0, 0, 0, 105, 110, 116]
theorem op3_100 (name : String) (x : Int) (w : World) : (FmtStop.operand name false 100 false (.iface 3 (.int .i64 x))).run Ybaf.prog w = .ok (shape3, Go.Extern.Stop.digits 8 (x % 2 ^ 64).toNat) w := by kernel_rfl
theorem op3_100w (name : String) (x : Int) (w : World) : (FmtStop.operand name true 100 false (.iface 3 (.int .i64 x))).run Ybaf.prog w = .ok (shape3, Go.Extern.Stop.digits 8 (x % 2 ^ 64).toNat) w := by kernel_rfl
theorem act3_100 (name : String) (x : Value) (w : World) : (FmtCalls.act name true 100 false (.iface 3 x)).run Ybaf.prog w = .ok (.closed true) w := by kernel_rfl
theorem act32_118 (name : String) (x : Value) (w : World) : (FmtCalls.act name true 118 false (.iface 32 x)).run Ybaf.prog w = .ok (.call false) w := by kernel_rfl
theorem invokeString32 (x : Value) (w : World) : (invoke (.fn (.method "String") #[]) #[.iface 32 x]).run Ybaf.prog w = .ok (.enter 27 #[x]) w := by kernel_rfl
theorem str32 (w : World) : (typeStr 32).run Ybaf.prog w = .ok "model.EdgeOp" w := by kernel_rfl
theorem ptr62 (w : World) : (FmtStop.ptrTo "errors.errorString").run Ybaf.prog w = .ok 62 w := by kernel_rfl
theorem elem62 (w : World) : (elemOf 62).run Ybaf.prog w = .ok 64 w := by kernel_rfl
theorem isError62 (w : World) : (FmtDoors.textMethod 62 "Error").run Ybaf.prog w = .ok true w := by kernel_rfl

attribute [local go_sem] call26 call30 fguard fmtA fmtAr fmtB fmtBr op3_100 op3_100w act3_100 act32_118 str32 ptr62 elem62 isError62

set_option maxHeartbeats 1000000 in
set_option maxRecDepth 100000 in
theorem string7 (F : Interp) (w : World) (hF : F.answers w.tape) : Calls Ybaf.prog 27 #[.int .i64 7] w fun e w' => ∃ s, e = .returned (.string s) ∧ Below w.heap.size w w' := by
  have hF' := answers_open hF
  go_enter Ybaf.func27, Ybaf.ntmps27
  go_wp2
  go_ret
  exact ⟨_, rfl, ((Below.refl _ _).alloc (Nat.le_refl _) _).drew⟩

set_option maxHeartbeats 1000000 in
set_option maxRecDepth 100000 in
theorem errorf_any (F : Interp) (blk : Nat) (l q : Int) (w : World) (hF : F.answers w.tape) (h0 : w.cell? ⟨blk, 0, none⟩ = some (.iface 32 (.int .i64 7))) (h1 : w.cell? ⟨blk, 1, none⟩ = some (.iface 3 (.int .i64 l))) (h2 : w.cell? ⟨blk, 2, none⟩ = some (.iface 3 (.int .i64 q))) :
    Calls Ybaf.prog 22 #[.string fmtS, .slice (some ⟨blk, 0, none⟩) 3 3] w fun e w' => (∃ a, e = .returned (.iface 62 (.pointer (some a)))) ∧ Below w.heap.size w w' := by
  have hF' := answers_open hF
  have hb : blk < w.heap.size := World.block_lt_of_cell? _ _ h0
  go_enter Ybaf.func22, Ybaf.ntmps22
  go_wp2
  apply rows_call nextTurns
  case hr =>
    go_simp
    exact ⟨⟨rfl, rfl, rfl⟩, rfl⟩
  case hi => exact invokeString32 _ _
  case hc =>
    refine (string7 F w hF).mono fun e w₃ ⟨s, he, hx⟩ => ?_
    subst he
    have hF3 := answers_open (show F.answers w₃.tape by rw [hx.tape]; exact hF)
    have c0 : w₃.cell? ⟨blk, 0, none⟩ = some (.iface 32 (.int .i64 7)) := by rw [hx.cell hb]; exact h0
    have c1 : w₃.cell? ⟨blk, 1, none⟩ = some (.iface 3 (.int .i64 l)) := by rw [hx.cell hb]; exact h1
    have c2 : w₃.cell? ⟨blk, 2, none⟩ = some (.iface 3 (.int .i64 q)) := by rw [hx.cell hb]; exact h2
    apply rows_value nextReturned
    case hr =>
      go_simp
      exact ⟨rfl, rfl⟩
    case h =>
      go_wp2
      go_ret
      exact ⟨⟨_, rfl⟩, (hx.alloc hx.size _).drew⟩

set_option maxHeartbeats 1000000 in
set_option maxRecDepth 100000 in
theorem unread_any (F : Interp) (eb eo : Nat) (l q : Int) (w : World) (hF : F.answers w.tape) (h0 : w.cell? ⟨eb, eo, none⟩ = some (.int .i64 7)) (h1 : w.cell? ⟨eb, eo + 1, none⟩ = some (.int .i64 l)) (h2 : w.cell? ⟨eb, eo + 2, none⟩ = some (.int .i64 q)) :
    Calls Ybaf.prog 23 #[.pointer (some ⟨eb, eo, none⟩)] w fun e w' => (∃ a, e = .returned (.iface 62 (.pointer (some a)))) ∧ Below w.heap.size w w' := by
  have hb : eb < w.heap.size := World.block_lt_of_cell? _ _ h0
  have HF : Hid (F.answers w.tape) := hF
  have n0 := World.new_ne w _ h0
  have n1 := World.new_ne w _ h1
  have n2 := World.new_ne w _ h2
  clear hF
  go_enter Ybaf.func23, Ybaf.ntmps23
  go_wp2_with fail
  go_region_held3 (fun w' => w'.cell? ⟨eb, eo, none⟩ = some (.int .i64 7) ∧ w'.cell? ⟨eb, eo + 1, none⟩ = some (.int .i64 l) ∧ w'.cell? ⟨eb, eo + 2, none⟩ = some (.int .i64 q)) (go_keep)
    (first | (go_at_call 22; refine (errorf_any F w.heap.size l q _ (by exact HF.out) (by simp [go_sem]) (by simp [go_sem]) (by simp [go_sem])).mono ?_; rintro e w1 ⟨⟨a, rfl⟩, hx⟩; have z0 : w1.cell? ⟨eb, eo, none⟩ = some (.int .i64 7) := (hx.cell (p := ⟨eb, eo, none⟩) (by simp; omega)).trans (by simp [go_sem, *]); have z1 : w1.cell? ⟨eb, eo + 1, none⟩ = some (.int .i64 l) := (hx.cell (p := ⟨eb, eo + 1, none⟩) (by simp; omega)).trans (by simp [go_sem, *]); have z2 : w1.cell? ⟨eb, eo + 2, none⟩ = some (.int .i64 q) := (hx.cell (p := ⟨eb, eo + 2, none⟩) (by simp; omega)).trans (by simp [go_sem, *]); have HX : Hid (Below w.heap.size w w1) := Below.trans (b := (w.alloc (.cells #[.iface 32 (.int .i64 7), .iface 3 (.int .i64 l), .iface 3 (.int .i64 q)] 20))) ((Below.refl _ _).alloc (Nat.le_refl _) _) (by exact ⟨hx.os, hx.tape, hx.output, hx.size, fun i hi => hx.block i (Nat.lt_of_lt_of_le hi (by simp))⟩); clear hx))
  all_goals (go_wp2; go_ret; exact ⟨⟨_, rfl⟩, HX.out⟩)
end Go.Proofs.YbulkcwciFmt
