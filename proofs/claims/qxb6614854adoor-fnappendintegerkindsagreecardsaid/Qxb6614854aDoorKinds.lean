/-
  appendInteger and its callers (seat b6614854aD), over what strconv.AppendInt and AppendUint do.
-/
import Derived.Test.Qxb6614854aDoorLeaf2
import Derived.WalkSmall
namespace Go.Proofs.Qxb6614854aDoor
open Go.RowKit
set_option linter.unusedVariables false

/-! ### the type switch's tests, closed -/
theorem ta_49_49 (x : Int) (w : World) : (Instr.typeAssert (.iface 49 (.int .i8 x)) 59 49 true).run Tryd.prog w = .ok (.tuple #[.int .i8 x, .bool true]) w := by kernel_rfl
theorem ta_50_49 (x : Int) (w : World) : (Instr.typeAssert (.iface 50 (.int .i16 x)) 59 49 true).run Tryd.prog w = .ok (.tuple #[.int .i8 0, .bool false]) w := by kernel_rfl
theorem ta_50_50 (x : Int) (w : World) : (Instr.typeAssert (.iface 50 (.int .i16 x)) 59 50 true).run Tryd.prog w = .ok (.tuple #[.int .i16 x, .bool true]) w := by kernel_rfl
theorem ta_51_49 (x : Int) (w : World) : (Instr.typeAssert (.iface 51 (.int .i32 x)) 59 49 true).run Tryd.prog w = .ok (.tuple #[.int .i8 0, .bool false]) w := by kernel_rfl
theorem ta_51_50 (x : Int) (w : World) : (Instr.typeAssert (.iface 51 (.int .i32 x)) 59 50 true).run Tryd.prog w = .ok (.tuple #[.int .i16 0, .bool false]) w := by kernel_rfl
theorem ta_51_51 (x : Int) (w : World) : (Instr.typeAssert (.iface 51 (.int .i32 x)) 59 51 true).run Tryd.prog w = .ok (.tuple #[.int .i32 x, .bool true]) w := by kernel_rfl
theorem ta_52_49 (x : Int) (w : World) : (Instr.typeAssert (.iface 52 (.int .i64 x)) 59 49 true).run Tryd.prog w = .ok (.tuple #[.int .i8 0, .bool false]) w := by kernel_rfl
theorem ta_52_50 (x : Int) (w : World) : (Instr.typeAssert (.iface 52 (.int .i64 x)) 59 50 true).run Tryd.prog w = .ok (.tuple #[.int .i16 0, .bool false]) w := by kernel_rfl
theorem ta_52_51 (x : Int) (w : World) : (Instr.typeAssert (.iface 52 (.int .i64 x)) 59 51 true).run Tryd.prog w = .ok (.tuple #[.int .i32 0, .bool false]) w := by kernel_rfl
theorem ta_52_52 (x : Int) (w : World) : (Instr.typeAssert (.iface 52 (.int .i64 x)) 59 52 true).run Tryd.prog w = .ok (.tuple #[.int .i64 x, .bool true]) w := by kernel_rfl
theorem ta_53_49 (x : Int) (w : World) : (Instr.typeAssert (.iface 53 (.int .u8 x)) 59 49 true).run Tryd.prog w = .ok (.tuple #[.int .i8 0, .bool false]) w := by kernel_rfl
theorem ta_53_50 (x : Int) (w : World) : (Instr.typeAssert (.iface 53 (.int .u8 x)) 59 50 true).run Tryd.prog w = .ok (.tuple #[.int .i16 0, .bool false]) w := by kernel_rfl
theorem ta_53_51 (x : Int) (w : World) : (Instr.typeAssert (.iface 53 (.int .u8 x)) 59 51 true).run Tryd.prog w = .ok (.tuple #[.int .i32 0, .bool false]) w := by kernel_rfl
theorem ta_53_52 (x : Int) (w : World) : (Instr.typeAssert (.iface 53 (.int .u8 x)) 59 52 true).run Tryd.prog w = .ok (.tuple #[.int .i64 0, .bool false]) w := by kernel_rfl
theorem ta_53_53 (x : Int) (w : World) : (Instr.typeAssert (.iface 53 (.int .u8 x)) 59 53 true).run Tryd.prog w = .ok (.tuple #[.int .u8 x, .bool true]) w := by kernel_rfl
theorem ta_54_49 (x : Int) (w : World) : (Instr.typeAssert (.iface 54 (.int .u16 x)) 59 49 true).run Tryd.prog w = .ok (.tuple #[.int .i8 0, .bool false]) w := by kernel_rfl
theorem ta_54_50 (x : Int) (w : World) : (Instr.typeAssert (.iface 54 (.int .u16 x)) 59 50 true).run Tryd.prog w = .ok (.tuple #[.int .i16 0, .bool false]) w := by kernel_rfl
theorem ta_54_51 (x : Int) (w : World) : (Instr.typeAssert (.iface 54 (.int .u16 x)) 59 51 true).run Tryd.prog w = .ok (.tuple #[.int .i32 0, .bool false]) w := by kernel_rfl
theorem ta_54_52 (x : Int) (w : World) : (Instr.typeAssert (.iface 54 (.int .u16 x)) 59 52 true).run Tryd.prog w = .ok (.tuple #[.int .i64 0, .bool false]) w := by kernel_rfl
theorem ta_54_53 (x : Int) (w : World) : (Instr.typeAssert (.iface 54 (.int .u16 x)) 59 53 true).run Tryd.prog w = .ok (.tuple #[.int .u8 0, .bool false]) w := by kernel_rfl
theorem ta_54_54 (x : Int) (w : World) : (Instr.typeAssert (.iface 54 (.int .u16 x)) 59 54 true).run Tryd.prog w = .ok (.tuple #[.int .u16 x, .bool true]) w := by kernel_rfl
theorem ta_55_49 (x : Int) (w : World) : (Instr.typeAssert (.iface 55 (.int .u32 x)) 59 49 true).run Tryd.prog w = .ok (.tuple #[.int .i8 0, .bool false]) w := by kernel_rfl
theorem ta_55_50 (x : Int) (w : World) : (Instr.typeAssert (.iface 55 (.int .u32 x)) 59 50 true).run Tryd.prog w = .ok (.tuple #[.int .i16 0, .bool false]) w := by kernel_rfl
theorem ta_55_51 (x : Int) (w : World) : (Instr.typeAssert (.iface 55 (.int .u32 x)) 59 51 true).run Tryd.prog w = .ok (.tuple #[.int .i32 0, .bool false]) w := by kernel_rfl
theorem ta_55_52 (x : Int) (w : World) : (Instr.typeAssert (.iface 55 (.int .u32 x)) 59 52 true).run Tryd.prog w = .ok (.tuple #[.int .i64 0, .bool false]) w := by kernel_rfl
theorem ta_55_53 (x : Int) (w : World) : (Instr.typeAssert (.iface 55 (.int .u32 x)) 59 53 true).run Tryd.prog w = .ok (.tuple #[.int .u8 0, .bool false]) w := by kernel_rfl
theorem ta_55_54 (x : Int) (w : World) : (Instr.typeAssert (.iface 55 (.int .u32 x)) 59 54 true).run Tryd.prog w = .ok (.tuple #[.int .u16 0, .bool false]) w := by kernel_rfl
theorem ta_55_55 (x : Int) (w : World) : (Instr.typeAssert (.iface 55 (.int .u32 x)) 59 55 true).run Tryd.prog w = .ok (.tuple #[.int .u32 x, .bool true]) w := by kernel_rfl
theorem ta_56_49 (x : Int) (w : World) : (Instr.typeAssert (.iface 56 (.int .u64 x)) 59 49 true).run Tryd.prog w = .ok (.tuple #[.int .i8 0, .bool false]) w := by kernel_rfl
theorem ta_56_50 (x : Int) (w : World) : (Instr.typeAssert (.iface 56 (.int .u64 x)) 59 50 true).run Tryd.prog w = .ok (.tuple #[.int .i16 0, .bool false]) w := by kernel_rfl
theorem ta_56_51 (x : Int) (w : World) : (Instr.typeAssert (.iface 56 (.int .u64 x)) 59 51 true).run Tryd.prog w = .ok (.tuple #[.int .i32 0, .bool false]) w := by kernel_rfl
theorem ta_56_52 (x : Int) (w : World) : (Instr.typeAssert (.iface 56 (.int .u64 x)) 59 52 true).run Tryd.prog w = .ok (.tuple #[.int .i64 0, .bool false]) w := by kernel_rfl
theorem ta_56_53 (x : Int) (w : World) : (Instr.typeAssert (.iface 56 (.int .u64 x)) 59 53 true).run Tryd.prog w = .ok (.tuple #[.int .u8 0, .bool false]) w := by kernel_rfl
theorem ta_56_54 (x : Int) (w : World) : (Instr.typeAssert (.iface 56 (.int .u64 x)) 59 54 true).run Tryd.prog w = .ok (.tuple #[.int .u16 0, .bool false]) w := by kernel_rfl
theorem ta_56_55 (x : Int) (w : World) : (Instr.typeAssert (.iface 56 (.int .u64 x)) 59 55 true).run Tryd.prog w = .ok (.tuple #[.int .u32 0, .bool false]) w := by kernel_rfl
theorem ta_56_56 (x : Int) (w : World) : (Instr.typeAssert (.iface 56 (.int .u64 x)) 59 56 true).run Tryd.prog w = .ok (.tuple #[.int .u64 x, .bool true]) w := by kernel_rfl
theorem ta_57_49 (x : Value) (w : World) : (Instr.typeAssert (.iface 57 x) 59 49 true).run Tryd.prog w = .ok (.tuple #[.int .i8 0, .bool false]) w := by kernel_rfl
theorem ta_57_50 (x : Value) (w : World) : (Instr.typeAssert (.iface 57 x) 59 50 true).run Tryd.prog w = .ok (.tuple #[.int .i16 0, .bool false]) w := by kernel_rfl
theorem ta_57_51 (x : Value) (w : World) : (Instr.typeAssert (.iface 57 x) 59 51 true).run Tryd.prog w = .ok (.tuple #[.int .i32 0, .bool false]) w := by kernel_rfl
theorem ta_57_52 (x : Value) (w : World) : (Instr.typeAssert (.iface 57 x) 59 52 true).run Tryd.prog w = .ok (.tuple #[.int .i64 0, .bool false]) w := by kernel_rfl
theorem ta_57_53 (x : Value) (w : World) : (Instr.typeAssert (.iface 57 x) 59 53 true).run Tryd.prog w = .ok (.tuple #[.int .u8 0, .bool false]) w := by kernel_rfl
theorem ta_57_54 (x : Value) (w : World) : (Instr.typeAssert (.iface 57 x) 59 54 true).run Tryd.prog w = .ok (.tuple #[.int .u16 0, .bool false]) w := by kernel_rfl
theorem ta_57_55 (x : Value) (w : World) : (Instr.typeAssert (.iface 57 x) 59 55 true).run Tryd.prog w = .ok (.tuple #[.int .u32 0, .bool false]) w := by kernel_rfl
theorem ta_57_56 (x : Value) (w : World) : (Instr.typeAssert (.iface 57 x) 59 56 true).run Tryd.prog w = .ok (.tuple #[.int .u64 0, .bool false]) w := by kernel_rfl

theorem ai_i8 (v : Value) (x : Int) (w : World) (Q : Value → World → Prop) (h0 : -128 ≤ x) (h1 : x ≤ 127)
    (h : Calls Tryd.prog 23 #[v, .int .i64 x, .int .i64 10] w fun e w' => ∃ v', e = .returned v' ∧ Q v' w') :
    Calls Tryd.prog 22 #[v, .iface 49 (.int .i8 x)] w fun e w' => ∃ v', e = .returned (.tuple #[v', .bool true]) ∧ Q v' w' := by
  have HS := Lib.hid h
  clear h
  have t49 := ta_49_49
  go_enter Tryd.func22, Tryd.ntmps22
  go_wp2_with (go_at_call 23; refine HS.out.mono ?_; rintro e w2 ⟨v', rfl, hb⟩)
  go_ret2
  exact ⟨v', rfl, hb⟩

theorem zz_i8 (v : Value) (x : Int) (w : World) (Q : Value → World → Prop) (h0 : -128 ≤ x) (h1 : x ≤ 127)
    (h : Calls Tryd.prog 23 #[v, .int .i64 x, .int .i64 10] w fun e w' => ∃ v', e = .returned v' ∧ Q v' w') :
    Calls Tryd.prog 7 #[v, .int .i8 x] w fun e w' => ∃ v', e = .returned (.tuple #[v', .bool true]) ∧ Q v' w' := by
  have HS := Lib.hid (ai_i8 v x w Q h0 h1 h)
  clear h
  go_enter Tryd.func7, Tryd.ntmps7
  go_wp2_with (go_at_call 22; refine HS.out.mono ?_; rintro e w2 ⟨v', rfl, hb⟩)
  go_ret2
  exact ⟨v', rfl, hb⟩

theorem ai_i16 (v : Value) (x : Int) (w : World) (Q : Value → World → Prop) (h0 : -32768 ≤ x) (h1 : x ≤ 32767)
    (h : Calls Tryd.prog 23 #[v, .int .i64 x, .int .i64 10] w fun e w' => ∃ v', e = .returned v' ∧ Q v' w') :
    Calls Tryd.prog 22 #[v, .iface 50 (.int .i16 x)] w fun e w' => ∃ v', e = .returned (.tuple #[v', .bool true]) ∧ Q v' w' := by
  have HS := Lib.hid h
  clear h
  have t49 := ta_50_49
  have t50 := ta_50_50
  go_enter Tryd.func22, Tryd.ntmps22
  go_wp2_with (go_at_call 23; refine HS.out.mono ?_; rintro e w2 ⟨v', rfl, hb⟩)
  go_ret2
  exact ⟨v', rfl, hb⟩

theorem zz_i16 (v : Value) (x : Int) (w : World) (Q : Value → World → Prop) (h0 : -32768 ≤ x) (h1 : x ≤ 32767)
    (h : Calls Tryd.prog 23 #[v, .int .i64 x, .int .i64 10] w fun e w' => ∃ v', e = .returned v' ∧ Q v' w') :
    Calls Tryd.prog 10 #[v, .int .i16 x] w fun e w' => ∃ v', e = .returned (.tuple #[v', .bool true]) ∧ Q v' w' := by
  have HS := Lib.hid (ai_i16 v x w Q h0 h1 h)
  clear h
  go_enter Tryd.func10, Tryd.ntmps10
  go_wp2_with (go_at_call 22; refine HS.out.mono ?_; rintro e w2 ⟨v', rfl, hb⟩)
  go_ret2
  exact ⟨v', rfl, hb⟩

theorem ai_i32 (v : Value) (x : Int) (w : World) (Q : Value → World → Prop) (h0 : -2147483648 ≤ x) (h1 : x ≤ 2147483647)
    (h : Calls Tryd.prog 23 #[v, .int .i64 x, .int .i64 10] w fun e w' => ∃ v', e = .returned v' ∧ Q v' w') :
    Calls Tryd.prog 22 #[v, .iface 51 (.int .i32 x)] w fun e w' => ∃ v', e = .returned (.tuple #[v', .bool true]) ∧ Q v' w' := by
  have HS := Lib.hid h
  clear h
  have t49 := ta_51_49
  have t50 := ta_51_50
  have t51 := ta_51_51
  go_enter Tryd.func22, Tryd.ntmps22
  go_wp2_with (go_at_call 23; refine HS.out.mono ?_; rintro e w2 ⟨v', rfl, hb⟩)
  go_ret2
  exact ⟨v', rfl, hb⟩

theorem zz_i32 (v : Value) (x : Int) (w : World) (Q : Value → World → Prop) (h0 : -2147483648 ≤ x) (h1 : x ≤ 2147483647)
    (h : Calls Tryd.prog 23 #[v, .int .i64 x, .int .i64 10] w fun e w' => ∃ v', e = .returned v' ∧ Q v' w') :
    Calls Tryd.prog 11 #[v, .int .i32 x] w fun e w' => ∃ v', e = .returned (.tuple #[v', .bool true]) ∧ Q v' w' := by
  have HS := Lib.hid (ai_i32 v x w Q h0 h1 h)
  clear h
  go_enter Tryd.func11, Tryd.ntmps11
  go_wp2_with (go_at_call 22; refine HS.out.mono ?_; rintro e w2 ⟨v', rfl, hb⟩)
  go_ret2
  exact ⟨v', rfl, hb⟩

theorem ai_i64 (v : Value) (x : Int) (w : World) (Q : Value → World → Prop) (h0 : -9223372036854775808 ≤ x) (h1 : x ≤ 9223372036854775807)
    (h : Calls Tryd.prog 23 #[v, .int .i64 x, .int .i64 10] w fun e w' => ∃ v', e = .returned v' ∧ Q v' w') :
    Calls Tryd.prog 22 #[v, .iface 52 (.int .i64 x)] w fun e w' => ∃ v', e = .returned (.tuple #[v', .bool true]) ∧ Q v' w' := by
  have HS := Lib.hid h
  clear h
  have t49 := ta_52_49
  have t50 := ta_52_50
  have t51 := ta_52_51
  have t52 := ta_52_52
  go_enter Tryd.func22, Tryd.ntmps22
  go_wp2_with (go_at_call 23; refine HS.out.mono ?_; rintro e w2 ⟨v', rfl, hb⟩)
  go_ret2
  exact ⟨v', rfl, hb⟩

theorem zz_i64 (v : Value) (x : Int) (w : World) (Q : Value → World → Prop) (h0 : -9223372036854775808 ≤ x) (h1 : x ≤ 9223372036854775807)
    (h : Calls Tryd.prog 23 #[v, .int .i64 x, .int .i64 10] w fun e w' => ∃ v', e = .returned v' ∧ Q v' w') :
    Calls Tryd.prog 12 #[v, .int .i64 x] w fun e w' => ∃ v', e = .returned (.tuple #[v', .bool true]) ∧ Q v' w' := by
  have HS := Lib.hid (ai_i64 v x w Q h0 h1 h)
  clear h
  go_enter Tryd.func12, Tryd.ntmps12
  go_wp2_with (go_at_call 22; refine HS.out.mono ?_; rintro e w2 ⟨v', rfl, hb⟩)
  go_ret2
  exact ⟨v', rfl, hb⟩

theorem ai_u8 (v : Value) (x : Int) (w : World) (Q : Value → World → Prop) (h0 : 0 ≤ x) (h1 : x ≤ 255)
    (h : Calls Tryd.prog 24 #[v, .int .u64 x, .int .i64 10] w fun e w' => ∃ v', e = .returned v' ∧ Q v' w') :
    Calls Tryd.prog 22 #[v, .iface 53 (.int .u8 x)] w fun e w' => ∃ v', e = .returned (.tuple #[v', .bool true]) ∧ Q v' w' := by
  have HS := Lib.hid h
  clear h
  have t49 := ta_53_49
  have t50 := ta_53_50
  have t51 := ta_53_51
  have t52 := ta_53_52
  have t53 := ta_53_53
  go_enter Tryd.func22, Tryd.ntmps22
  go_wp2_with (go_at_call 24; refine HS.out.mono ?_; rintro e w2 ⟨v', rfl, hb⟩)
  go_ret2
  exact ⟨v', rfl, hb⟩

theorem zz_u8 (v : Value) (x : Int) (w : World) (Q : Value → World → Prop) (h0 : 0 ≤ x) (h1 : x ≤ 255)
    (h : Calls Tryd.prog 24 #[v, .int .u64 x, .int .i64 10] w fun e w' => ∃ v', e = .returned v' ∧ Q v' w') :
    Calls Tryd.prog 13 #[v, .int .u8 x] w fun e w' => ∃ v', e = .returned (.tuple #[v', .bool true]) ∧ Q v' w' := by
  have HS := Lib.hid (ai_u8 v x w Q h0 h1 h)
  clear h
  go_enter Tryd.func13, Tryd.ntmps13
  go_wp2_with (go_at_call 22; refine HS.out.mono ?_; rintro e w2 ⟨v', rfl, hb⟩)
  go_ret2
  exact ⟨v', rfl, hb⟩

theorem ai_u16 (v : Value) (x : Int) (w : World) (Q : Value → World → Prop) (h0 : 0 ≤ x) (h1 : x ≤ 65535)
    (h : Calls Tryd.prog 24 #[v, .int .u64 x, .int .i64 10] w fun e w' => ∃ v', e = .returned v' ∧ Q v' w') :
    Calls Tryd.prog 22 #[v, .iface 54 (.int .u16 x)] w fun e w' => ∃ v', e = .returned (.tuple #[v', .bool true]) ∧ Q v' w' := by
  have HS := Lib.hid h
  clear h
  have t49 := ta_54_49
  have t50 := ta_54_50
  have t51 := ta_54_51
  have t52 := ta_54_52
  have t53 := ta_54_53
  have t54 := ta_54_54
  go_enter Tryd.func22, Tryd.ntmps22
  go_wp2_with (go_at_call 24; refine HS.out.mono ?_; rintro e w2 ⟨v', rfl, hb⟩)
  go_ret2
  exact ⟨v', rfl, hb⟩

theorem zz_u16 (v : Value) (x : Int) (w : World) (Q : Value → World → Prop) (h0 : 0 ≤ x) (h1 : x ≤ 65535)
    (h : Calls Tryd.prog 24 #[v, .int .u64 x, .int .i64 10] w fun e w' => ∃ v', e = .returned v' ∧ Q v' w') :
    Calls Tryd.prog 14 #[v, .int .u16 x] w fun e w' => ∃ v', e = .returned (.tuple #[v', .bool true]) ∧ Q v' w' := by
  have HS := Lib.hid (ai_u16 v x w Q h0 h1 h)
  clear h
  go_enter Tryd.func14, Tryd.ntmps14
  go_wp2_with (go_at_call 22; refine HS.out.mono ?_; rintro e w2 ⟨v', rfl, hb⟩)
  go_ret2
  exact ⟨v', rfl, hb⟩

theorem ai_u32 (v : Value) (x : Int) (w : World) (Q : Value → World → Prop) (h0 : 0 ≤ x) (h1 : x ≤ 4294967295)
    (h : Calls Tryd.prog 24 #[v, .int .u64 x, .int .i64 10] w fun e w' => ∃ v', e = .returned v' ∧ Q v' w') :
    Calls Tryd.prog 22 #[v, .iface 55 (.int .u32 x)] w fun e w' => ∃ v', e = .returned (.tuple #[v', .bool true]) ∧ Q v' w' := by
  have HS := Lib.hid h
  clear h
  have t49 := ta_55_49
  have t50 := ta_55_50
  have t51 := ta_55_51
  have t52 := ta_55_52
  have t53 := ta_55_53
  have t54 := ta_55_54
  have t55 := ta_55_55
  go_enter Tryd.func22, Tryd.ntmps22
  go_wp2_with (go_at_call 24; refine HS.out.mono ?_; rintro e w2 ⟨v', rfl, hb⟩)
  go_ret2
  exact ⟨v', rfl, hb⟩

theorem zz_u32 (v : Value) (x : Int) (w : World) (Q : Value → World → Prop) (h0 : 0 ≤ x) (h1 : x ≤ 4294967295)
    (h : Calls Tryd.prog 24 #[v, .int .u64 x, .int .i64 10] w fun e w' => ∃ v', e = .returned v' ∧ Q v' w') :
    Calls Tryd.prog 15 #[v, .int .u32 x] w fun e w' => ∃ v', e = .returned (.tuple #[v', .bool true]) ∧ Q v' w' := by
  have HS := Lib.hid (ai_u32 v x w Q h0 h1 h)
  clear h
  go_enter Tryd.func15, Tryd.ntmps15
  go_wp2_with (go_at_call 22; refine HS.out.mono ?_; rintro e w2 ⟨v', rfl, hb⟩)
  go_ret2
  exact ⟨v', rfl, hb⟩

theorem ai_u64 (v : Value) (x : Int) (w : World) (Q : Value → World → Prop) (h0 : 0 ≤ x) (h1 : x ≤ 18446744073709551615)
    (h : Calls Tryd.prog 24 #[v, .int .u64 x, .int .i64 10] w fun e w' => ∃ v', e = .returned v' ∧ Q v' w') :
    Calls Tryd.prog 22 #[v, .iface 56 (.int .u64 x)] w fun e w' => ∃ v', e = .returned (.tuple #[v', .bool true]) ∧ Q v' w' := by
  have HS := Lib.hid h
  clear h
  have t49 := ta_56_49
  have t50 := ta_56_50
  have t51 := ta_56_51
  have t52 := ta_56_52
  have t53 := ta_56_53
  have t54 := ta_56_54
  have t55 := ta_56_55
  have t56 := ta_56_56
  go_enter Tryd.func22, Tryd.ntmps22
  go_wp2_with (go_at_call 24; refine HS.out.mono ?_; rintro e w2 ⟨v', rfl, hb⟩)
  go_ret2
  exact ⟨v', rfl, hb⟩

theorem zz_u64 (v : Value) (x : Int) (w : World) (Q : Value → World → Prop) (h0 : 0 ≤ x) (h1 : x ≤ 18446744073709551615)
    (h : Calls Tryd.prog 24 #[v, .int .u64 x, .int .i64 10] w fun e w' => ∃ v', e = .returned v' ∧ Q v' w') :
    Calls Tryd.prog 16 #[v, .int .u64 x] w fun e w' => ∃ v', e = .returned (.tuple #[v', .bool true]) ∧ Q v' w' := by
  have HS := Lib.hid (ai_u64 v x w Q h0 h1 h)
  clear h
  go_enter Tryd.func16, Tryd.ntmps16
  go_wp2_with (go_at_call 22; refine HS.out.mono ?_; rintro e w2 ⟨v', rfl, hb⟩)
  go_ret2
  exact ⟨v', rfl, hb⟩

theorem ai_f32 (v x : Value) (w : World) :
    Calls Tryd.prog 22 #[v, .iface 57 x] w fun e w' => e = .returned (.tuple #[v, .bool false]) ∧ w' = w := by
  have t49 := ta_57_49
  have t50 := ta_57_50
  have t51 := ta_57_51
  have t52 := ta_57_52
  have t53 := ta_57_53
  have t54 := ta_57_54
  have t55 := ta_57_55
  have t56 := ta_57_56
  go_enter Tryd.func22, Tryd.ntmps22
  go_wp2
  go_ret2
  exact ⟨rfl, rfl⟩

theorem zz_f32 (v x : Value) (w : World) :
    Calls Tryd.prog 20 #[v, x] w fun e w' => e = .returned (.tuple #[v, .bool false]) ∧ w' = w := by
  have HS := Lib.hid (ai_f32 v x w)
  go_enter Tryd.func20, Tryd.ntmps20
  go_wp2_with (go_at_call 22; refine HS.out.mono ?_; rintro e w2 ⟨rfl, rfl⟩)
  go_ret2
  exact ⟨rfl, rfl⟩
end Go.Proofs.Qxb6614854aDoor
