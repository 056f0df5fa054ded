/- What type assertions and conversions to interface values come to: closed facts of this program, each by the kernel, as rules of the walk. Written by a program of mine (facts.py). -/
import Derived.Test.YtcgdnjigocknbaaDoorProg
import Derived.WalkKit
import Derived.Stop.Asserts
import Derived.WalkLawsBesides
namespace Go.Proofs.YtcgdnjigocknbaaDoor.Facts
open Go

theorem tz9 (w : World) : (do pure (Value.tuple #[← zeroValue 9, .bool false]) : Sem Value).run Tryd.prog w = .ok (.tuple #[.string ⟨#[]⟩, .bool false]) w := by kernel_rfl
theorem ta9_20 (u : TypeId) (v : Value) (w : World) : (Instr.typeAssert (.iface u v) 20 9 true).run Tryd.prog w = .ok (.tuple (if u = 9 then #[v, .bool true] else #[.string ⟨#[]⟩, .bool false])) w := by
  have e : (Instr.typeAssert (.iface u v) 20 9 true).run Tryd.prog w = (if u = 9 then (pure (Value.tuple #[v, .bool true]) : Sem Value) else (do pure (Value.tuple #[← zeroValue 9, .bool false]))).run Tryd.prog w := by kernel_rfl
  rw [e]; by_cases h : u = 9
  · rw [if_pos h, if_pos h]; rfl
  · rw [if_neg h, if_neg h]; exact tz9 w
theorem tn9_20 (w : World) : (Instr.typeAssert .nilIface 20 9 true).run Tryd.prog w = .ok (.tuple #[.string ⟨#[]⟩, .bool false]) w := by kernel_rfl
theorem ty9 (v : Value) (w : World) : (Instr.typeAssert (.iface 9 v) 20 9 false).run Tryd.prog w = .ok v w := by kernel_rfl
theorem tz3 (w : World) : (do pure (Value.tuple #[← zeroValue 3, .bool false]) : Sem Value).run Tryd.prog w = .ok (.tuple #[.int .i64 (0), .bool false]) w := by kernel_rfl
theorem ta3_20 (u : TypeId) (v : Value) (w : World) : (Instr.typeAssert (.iface u v) 20 3 true).run Tryd.prog w = .ok (.tuple (if u = 3 then #[v, .bool true] else #[.int .i64 (0), .bool false])) w := by
  have e : (Instr.typeAssert (.iface u v) 20 3 true).run Tryd.prog w = (if u = 3 then (pure (Value.tuple #[v, .bool true]) : Sem Value) else (do pure (Value.tuple #[← zeroValue 3, .bool false]))).run Tryd.prog w := by kernel_rfl
  rw [e]; by_cases h : u = 3
  · rw [if_pos h, if_pos h]; rfl
  · rw [if_neg h, if_neg h]; exact tz3 w
theorem tn3_20 (w : World) : (Instr.typeAssert .nilIface 20 3 true).run Tryd.prog w = .ok (.tuple #[.int .i64 (0), .bool false]) w := by kernel_rfl
theorem ty3 (v : Value) (w : World) : (Instr.typeAssert (.iface 3 v) 20 3 false).run Tryd.prog w = .ok v w := by kernel_rfl
theorem tz103 (w : World) : (do pure (Value.tuple #[← zeroValue 103, .bool false]) : Sem Value).run Tryd.prog w = .ok (.tuple #[.int .u64 (0), .bool false]) w := by kernel_rfl
theorem ta103_20 (u : TypeId) (v : Value) (w : World) : (Instr.typeAssert (.iface u v) 20 103 true).run Tryd.prog w = .ok (.tuple (if u = 103 then #[v, .bool true] else #[.int .u64 (0), .bool false])) w := by
  have e : (Instr.typeAssert (.iface u v) 20 103 true).run Tryd.prog w = (if u = 103 then (pure (Value.tuple #[v, .bool true]) : Sem Value) else (do pure (Value.tuple #[← zeroValue 103, .bool false]))).run Tryd.prog w := by kernel_rfl
  rw [e]; by_cases h : u = 103
  · rw [if_pos h, if_pos h]; rfl
  · rw [if_neg h, if_neg h]; exact tz103 w
theorem tn103_20 (w : World) : (Instr.typeAssert .nilIface 20 103 true).run Tryd.prog w = .ok (.tuple #[.int .u64 (0), .bool false]) w := by kernel_rfl
theorem ty103 (v : Value) (w : World) : (Instr.typeAssert (.iface 103 v) 20 103 false).run Tryd.prog w = .ok v w := by kernel_rfl
theorem tz2 (w : World) : (do pure (Value.tuple #[← zeroValue 2, .bool false]) : Sem Value).run Tryd.prog w = .ok (.tuple #[.int .i64 (0), .bool false]) w := by kernel_rfl
theorem ta2_20 (u : TypeId) (v : Value) (w : World) : (Instr.typeAssert (.iface u v) 20 2 true).run Tryd.prog w = .ok (.tuple (if u = 2 then #[v, .bool true] else #[.int .i64 (0), .bool false])) w := by
  have e : (Instr.typeAssert (.iface u v) 20 2 true).run Tryd.prog w = (if u = 2 then (pure (Value.tuple #[v, .bool true]) : Sem Value) else (do pure (Value.tuple #[← zeroValue 2, .bool false]))).run Tryd.prog w := by kernel_rfl
  rw [e]; by_cases h : u = 2
  · rw [if_pos h, if_pos h]; rfl
  · rw [if_neg h, if_neg h]; exact tz2 w
theorem tn2_20 (w : World) : (Instr.typeAssert .nilIface 20 2 true).run Tryd.prog w = .ok (.tuple #[.int .i64 (0), .bool false]) w := by kernel_rfl
theorem ty2 (v : Value) (w : World) : (Instr.typeAssert (.iface 2 v) 20 2 false).run Tryd.prog w = .ok v w := by kernel_rfl
theorem tz22 (w : World) : (do pure (Value.tuple #[← zeroValue 22, .bool false]) : Sem Value).run Tryd.prog w = .ok (.tuple #[.int .u64 (0), .bool false]) w := by kernel_rfl
theorem ta22_20 (u : TypeId) (v : Value) (w : World) : (Instr.typeAssert (.iface u v) 20 22 true).run Tryd.prog w = .ok (.tuple (if u = 22 then #[v, .bool true] else #[.int .u64 (0), .bool false])) w := by
  have e : (Instr.typeAssert (.iface u v) 20 22 true).run Tryd.prog w = (if u = 22 then (pure (Value.tuple #[v, .bool true]) : Sem Value) else (do pure (Value.tuple #[← zeroValue 22, .bool false]))).run Tryd.prog w := by kernel_rfl
  rw [e]; by_cases h : u = 22
  · rw [if_pos h, if_pos h]; rfl
  · rw [if_neg h, if_neg h]; exact tz22 w
theorem tn22_20 (w : World) : (Instr.typeAssert .nilIface 20 22 true).run Tryd.prog w = .ok (.tuple #[.int .u64 (0), .bool false]) w := by kernel_rfl
theorem ty22 (v : Value) (w : World) : (Instr.typeAssert (.iface 22 v) 20 22 false).run Tryd.prog w = .ok v w := by kernel_rfl
theorem tz4 (w : World) : (do pure (Value.tuple #[← zeroValue 4, .bool false]) : Sem Value).run Tryd.prog w = .ok (.tuple #[.bool false, .bool false]) w := by kernel_rfl
theorem ta4_20 (u : TypeId) (v : Value) (w : World) : (Instr.typeAssert (.iface u v) 20 4 true).run Tryd.prog w = .ok (.tuple (if u = 4 then #[v, .bool true] else #[.bool false, .bool false])) w := by
  have e : (Instr.typeAssert (.iface u v) 20 4 true).run Tryd.prog w = (if u = 4 then (pure (Value.tuple #[v, .bool true]) : Sem Value) else (do pure (Value.tuple #[← zeroValue 4, .bool false]))).run Tryd.prog w := by kernel_rfl
  rw [e]; by_cases h : u = 4
  · rw [if_pos h, if_pos h]; rfl
  · rw [if_neg h, if_neg h]; exact tz4 w
theorem tn4_20 (w : World) : (Instr.typeAssert .nilIface 20 4 true).run Tryd.prog w = .ok (.tuple #[.bool false, .bool false]) w := by kernel_rfl
theorem ty4 (v : Value) (w : World) : (Instr.typeAssert (.iface 4 v) 20 4 false).run Tryd.prog w = .ok v w := by kernel_rfl
theorem tz58 (w : World) : (do pure (Value.tuple #[← zeroValue 58, .bool false]) : Sem Value).run Tryd.prog w = .ok (.tuple #[.int .i64 (0), .bool false]) w := by kernel_rfl
theorem ta58_20 (u : TypeId) (v : Value) (w : World) : (Instr.typeAssert (.iface u v) 20 58 true).run Tryd.prog w = .ok (.tuple (if u = 58 then #[v, .bool true] else #[.int .i64 (0), .bool false])) w := by
  have e : (Instr.typeAssert (.iface u v) 20 58 true).run Tryd.prog w = (if u = 58 then (pure (Value.tuple #[v, .bool true]) : Sem Value) else (do pure (Value.tuple #[← zeroValue 58, .bool false]))).run Tryd.prog w := by kernel_rfl
  rw [e]; by_cases h : u = 58
  · rw [if_pos h, if_pos h]; rfl
  · rw [if_neg h, if_neg h]; exact tz58 w
theorem tn58_20 (w : World) : (Instr.typeAssert .nilIface 20 58 true).run Tryd.prog w = .ok (.tuple #[.int .i64 (0), .bool false]) w := by kernel_rfl
theorem ty58 (v : Value) (w : World) : (Instr.typeAssert (.iface 58 v) 20 58 false).run Tryd.prog w = .ok v w := by kernel_rfl
theorem tz68 (w : World) : (do pure (Value.tuple #[← zeroValue 68, .bool false]) : Sem Value).run Tryd.prog w = .ok (.tuple #[.agg #[.int .i64 (0), .int .i64 (0), .int .i64 (0), .string ⟨#[]⟩], .bool false]) w := by kernel_rfl
theorem ta68_20 (u : TypeId) (v : Value) (w : World) : (Instr.typeAssert (.iface u v) 20 68 true).run Tryd.prog w = .ok (.tuple (if u = 68 then #[v, .bool true] else #[.agg #[.int .i64 (0), .int .i64 (0), .int .i64 (0), .string ⟨#[]⟩], .bool false])) w := by
  have e : (Instr.typeAssert (.iface u v) 20 68 true).run Tryd.prog w = (if u = 68 then (pure (Value.tuple #[v, .bool true]) : Sem Value) else (do pure (Value.tuple #[← zeroValue 68, .bool false]))).run Tryd.prog w := by kernel_rfl
  rw [e]; by_cases h : u = 68
  · rw [if_pos h, if_pos h]; rfl
  · rw [if_neg h, if_neg h]; exact tz68 w
theorem tn68_20 (w : World) : (Instr.typeAssert .nilIface 20 68 true).run Tryd.prog w = .ok (.tuple #[.agg #[.int .i64 (0), .int .i64 (0), .int .i64 (0), .string ⟨#[]⟩], .bool false]) w := by kernel_rfl
theorem ty68 (v : Value) (w : World) : (Instr.typeAssert (.iface 68 v) 20 68 false).run Tryd.prog w = .ok v w := by kernel_rfl
theorem tz5 (w : World) : (do pure (Value.tuple #[← zeroValue 5, .bool false]) : Sem Value).run Tryd.prog w = .ok (.tuple #[.int .u8 (0), .bool false]) w := by kernel_rfl
theorem ta5_20 (u : TypeId) (v : Value) (w : World) : (Instr.typeAssert (.iface u v) 20 5 true).run Tryd.prog w = .ok (.tuple (if u = 5 then #[v, .bool true] else #[.int .u8 (0), .bool false])) w := by
  have e : (Instr.typeAssert (.iface u v) 20 5 true).run Tryd.prog w = (if u = 5 then (pure (Value.tuple #[v, .bool true]) : Sem Value) else (do pure (Value.tuple #[← zeroValue 5, .bool false]))).run Tryd.prog w := by kernel_rfl
  rw [e]; by_cases h : u = 5
  · rw [if_pos h, if_pos h]; rfl
  · rw [if_neg h, if_neg h]; exact tz5 w
theorem tn5_20 (w : World) : (Instr.typeAssert .nilIface 20 5 true).run Tryd.prog w = .ok (.tuple #[.int .u8 (0), .bool false]) w := by kernel_rfl
theorem ty5 (v : Value) (w : World) : (Instr.typeAssert (.iface 5 v) 20 5 false).run Tryd.prog w = .ok v w := by kernel_rfl
theorem tz104 (w : World) : (do pure (Value.tuple #[← zeroValue 104, .bool false]) : Sem Value).run Tryd.prog w = .ok (.tuple #[.int .u16 (0), .bool false]) w := by kernel_rfl
theorem ta104_20 (u : TypeId) (v : Value) (w : World) : (Instr.typeAssert (.iface u v) 20 104 true).run Tryd.prog w = .ok (.tuple (if u = 104 then #[v, .bool true] else #[.int .u16 (0), .bool false])) w := by
  have e : (Instr.typeAssert (.iface u v) 20 104 true).run Tryd.prog w = (if u = 104 then (pure (Value.tuple #[v, .bool true]) : Sem Value) else (do pure (Value.tuple #[← zeroValue 104, .bool false]))).run Tryd.prog w := by kernel_rfl
  rw [e]; by_cases h : u = 104
  · rw [if_pos h, if_pos h]; rfl
  · rw [if_neg h, if_neg h]; exact tz104 w
theorem tn104_20 (w : World) : (Instr.typeAssert .nilIface 20 104 true).run Tryd.prog w = .ok (.tuple #[.int .u16 (0), .bool false]) w := by kernel_rfl
theorem ty104 (v : Value) (w : World) : (Instr.typeAssert (.iface 104 v) 20 104 false).run Tryd.prog w = .ok v w := by kernel_rfl
theorem tz105 (w : World) : (do pure (Value.tuple #[← zeroValue 105, .bool false]) : Sem Value).run Tryd.prog w = .ok (.tuple #[.int .u32 (0), .bool false]) w := by kernel_rfl
theorem ta105_20 (u : TypeId) (v : Value) (w : World) : (Instr.typeAssert (.iface u v) 20 105 true).run Tryd.prog w = .ok (.tuple (if u = 105 then #[v, .bool true] else #[.int .u32 (0), .bool false])) w := by
  have e : (Instr.typeAssert (.iface u v) 20 105 true).run Tryd.prog w = (if u = 105 then (pure (Value.tuple #[v, .bool true]) : Sem Value) else (do pure (Value.tuple #[← zeroValue 105, .bool false]))).run Tryd.prog w := by kernel_rfl
  rw [e]; by_cases h : u = 105
  · rw [if_pos h, if_pos h]; rfl
  · rw [if_neg h, if_neg h]; exact tz105 w
theorem tn105_20 (w : World) : (Instr.typeAssert .nilIface 20 105 true).run Tryd.prog w = .ok (.tuple #[.int .u32 (0), .bool false]) w := by kernel_rfl
theorem ty105 (v : Value) (w : World) : (Instr.typeAssert (.iface 105 v) 20 105 false).run Tryd.prog w = .ok v w := by kernel_rfl
theorem tz12 (w : World) : (do pure (Value.tuple #[← zeroValue 12, .bool false]) : Sem Value).run Tryd.prog w = .ok (.tuple #[.int .u64 (0), .bool false]) w := by kernel_rfl
theorem ta12_20 (u : TypeId) (v : Value) (w : World) : (Instr.typeAssert (.iface u v) 20 12 true).run Tryd.prog w = .ok (.tuple (if u = 12 then #[v, .bool true] else #[.int .u64 (0), .bool false])) w := by
  have e : (Instr.typeAssert (.iface u v) 20 12 true).run Tryd.prog w = (if u = 12 then (pure (Value.tuple #[v, .bool true]) : Sem Value) else (do pure (Value.tuple #[← zeroValue 12, .bool false]))).run Tryd.prog w := by kernel_rfl
  rw [e]; by_cases h : u = 12
  · rw [if_pos h, if_pos h]; rfl
  · rw [if_neg h, if_neg h]; exact tz12 w
theorem tn12_20 (w : World) : (Instr.typeAssert .nilIface 20 12 true).run Tryd.prog w = .ok (.tuple #[.int .u64 (0), .bool false]) w := by kernel_rfl
theorem ty12 (v : Value) (w : World) : (Instr.typeAssert (.iface 12 v) 20 12 false).run Tryd.prog w = .ok v w := by kernel_rfl
theorem tz106 (w : World) : (do pure (Value.tuple #[← zeroValue 106, .bool false]) : Sem Value).run Tryd.prog w = .ok (.tuple #[.int .i8 (0), .bool false]) w := by kernel_rfl
theorem ta106_20 (u : TypeId) (v : Value) (w : World) : (Instr.typeAssert (.iface u v) 20 106 true).run Tryd.prog w = .ok (.tuple (if u = 106 then #[v, .bool true] else #[.int .i8 (0), .bool false])) w := by
  have e : (Instr.typeAssert (.iface u v) 20 106 true).run Tryd.prog w = (if u = 106 then (pure (Value.tuple #[v, .bool true]) : Sem Value) else (do pure (Value.tuple #[← zeroValue 106, .bool false]))).run Tryd.prog w := by kernel_rfl
  rw [e]; by_cases h : u = 106
  · rw [if_pos h, if_pos h]; rfl
  · rw [if_neg h, if_neg h]; exact tz106 w
theorem tn106_20 (w : World) : (Instr.typeAssert .nilIface 20 106 true).run Tryd.prog w = .ok (.tuple #[.int .i8 (0), .bool false]) w := by kernel_rfl
theorem ty106 (v : Value) (w : World) : (Instr.typeAssert (.iface 106 v) 20 106 false).run Tryd.prog w = .ok v w := by kernel_rfl
theorem tz107 (w : World) : (do pure (Value.tuple #[← zeroValue 107, .bool false]) : Sem Value).run Tryd.prog w = .ok (.tuple #[.int .i16 (0), .bool false]) w := by kernel_rfl
theorem ta107_20 (u : TypeId) (v : Value) (w : World) : (Instr.typeAssert (.iface u v) 20 107 true).run Tryd.prog w = .ok (.tuple (if u = 107 then #[v, .bool true] else #[.int .i16 (0), .bool false])) w := by
  have e : (Instr.typeAssert (.iface u v) 20 107 true).run Tryd.prog w = (if u = 107 then (pure (Value.tuple #[v, .bool true]) : Sem Value) else (do pure (Value.tuple #[← zeroValue 107, .bool false]))).run Tryd.prog w := by kernel_rfl
  rw [e]; by_cases h : u = 107
  · rw [if_pos h, if_pos h]; rfl
  · rw [if_neg h, if_neg h]; exact tz107 w
theorem tn107_20 (w : World) : (Instr.typeAssert .nilIface 20 107 true).run Tryd.prog w = .ok (.tuple #[.int .i16 (0), .bool false]) w := by kernel_rfl
theorem ty107 (v : Value) (w : World) : (Instr.typeAssert (.iface 107 v) 20 107 false).run Tryd.prog w = .ok v w := by kernel_rfl
theorem tz21 (w : World) : (do pure (Value.tuple #[← zeroValue 21, .bool false]) : Sem Value).run Tryd.prog w = .ok (.tuple #[.int .i32 (0), .bool false]) w := by kernel_rfl
theorem ta21_20 (u : TypeId) (v : Value) (w : World) : (Instr.typeAssert (.iface u v) 20 21 true).run Tryd.prog w = .ok (.tuple (if u = 21 then #[v, .bool true] else #[.int .i32 (0), .bool false])) w := by
  have e : (Instr.typeAssert (.iface u v) 20 21 true).run Tryd.prog w = (if u = 21 then (pure (Value.tuple #[v, .bool true]) : Sem Value) else (do pure (Value.tuple #[← zeroValue 21, .bool false]))).run Tryd.prog w := by kernel_rfl
  rw [e]; by_cases h : u = 21
  · rw [if_pos h, if_pos h]; rfl
  · rw [if_neg h, if_neg h]; exact tz21 w
theorem tn21_20 (w : World) : (Instr.typeAssert .nilIface 20 21 true).run Tryd.prog w = .ok (.tuple #[.int .i32 (0), .bool false]) w := by kernel_rfl
theorem ty21 (v : Value) (w : World) : (Instr.typeAssert (.iface 21 v) 20 21 false).run Tryd.prog w = .ok v w := by kernel_rfl
theorem tz44 (w : World) : (do pure (Value.tuple #[← zeroValue 44, .bool false]) : Sem Value).run Tryd.prog w = .ok (.tuple #[.float .f64 0, .bool false]) w := by kernel_rfl
theorem ta44_20 (u : TypeId) (v : Value) (w : World) : (Instr.typeAssert (.iface u v) 20 44 true).run Tryd.prog w = .ok (.tuple (if u = 44 then #[v, .bool true] else #[.float .f64 0, .bool false])) w := by
  have e : (Instr.typeAssert (.iface u v) 20 44 true).run Tryd.prog w = (if u = 44 then (pure (Value.tuple #[v, .bool true]) : Sem Value) else (do pure (Value.tuple #[← zeroValue 44, .bool false]))).run Tryd.prog w := by kernel_rfl
  rw [e]; by_cases h : u = 44
  · rw [if_pos h, if_pos h]; rfl
  · rw [if_neg h, if_neg h]; exact tz44 w
theorem tn44_20 (w : World) : (Instr.typeAssert .nilIface 20 44 true).run Tryd.prog w = .ok (.tuple #[.float .f64 0, .bool false]) w := by kernel_rfl
theorem ty44 (v : Value) (w : World) : (Instr.typeAssert (.iface 44 v) 20 44 false).run Tryd.prog w = .ok v w := by kernel_rfl
theorem tz108 (w : World) : (do pure (Value.tuple #[← zeroValue 108, .bool false]) : Sem Value).run Tryd.prog w = .ok (.tuple #[.float .f32 0, .bool false]) w := by kernel_rfl
theorem ta108_20 (u : TypeId) (v : Value) (w : World) : (Instr.typeAssert (.iface u v) 20 108 true).run Tryd.prog w = .ok (.tuple (if u = 108 then #[v, .bool true] else #[.float .f32 0, .bool false])) w := by
  have e : (Instr.typeAssert (.iface u v) 20 108 true).run Tryd.prog w = (if u = 108 then (pure (Value.tuple #[v, .bool true]) : Sem Value) else (do pure (Value.tuple #[← zeroValue 108, .bool false]))).run Tryd.prog w := by kernel_rfl
  rw [e]; by_cases h : u = 108
  · rw [if_pos h, if_pos h]; rfl
  · rw [if_neg h, if_neg h]; exact tz108 w
theorem tn108_20 (w : World) : (Instr.typeAssert .nilIface 20 108 true).run Tryd.prog w = .ok (.tuple #[.float .f32 0, .bool false]) w := by kernel_rfl
theorem ty108 (v : Value) (w : World) : (Instr.typeAssert (.iface 108 v) 20 108 false).run Tryd.prog w = .ok v w := by kernel_rfl
theorem tz61 (w : World) : (do pure (Value.tuple #[← zeroValue 61, .bool false]) : Sem Value).run Tryd.prog w = .ok (.tuple #[.slice none 0 0, .bool false]) w := by kernel_rfl
theorem ta61_20 (u : TypeId) (v : Value) (w : World) : (Instr.typeAssert (.iface u v) 20 61 true).run Tryd.prog w = .ok (.tuple (if u = 61 then #[v, .bool true] else #[.slice none 0 0, .bool false])) w := by
  have e : (Instr.typeAssert (.iface u v) 20 61 true).run Tryd.prog w = (if u = 61 then (pure (Value.tuple #[v, .bool true]) : Sem Value) else (do pure (Value.tuple #[← zeroValue 61, .bool false]))).run Tryd.prog w := by kernel_rfl
  rw [e]; by_cases h : u = 61
  · rw [if_pos h, if_pos h]; rfl
  · rw [if_neg h, if_neg h]; exact tz61 w
theorem tn61_20 (w : World) : (Instr.typeAssert .nilIface 20 61 true).run Tryd.prog w = .ok (.tuple #[.slice none 0 0, .bool false]) w := by kernel_rfl
theorem ty61 (v : Value) (w : World) : (Instr.typeAssert (.iface 61 v) 20 61 false).run Tryd.prog w = .ok v w := by kernel_rfl
theorem tz90 (w : World) : (do pure (Value.tuple #[← zeroValue 90, .bool false]) : Sem Value).run Tryd.prog w = .ok (.tuple #[.int .i64 (0), .bool false]) w := by kernel_rfl
theorem ta90_20 (u : TypeId) (v : Value) (w : World) : (Instr.typeAssert (.iface u v) 20 90 true).run Tryd.prog w = .ok (.tuple (if u = 90 then #[v, .bool true] else #[.int .i64 (0), .bool false])) w := by
  have e : (Instr.typeAssert (.iface u v) 20 90 true).run Tryd.prog w = (if u = 90 then (pure (Value.tuple #[v, .bool true]) : Sem Value) else (do pure (Value.tuple #[← zeroValue 90, .bool false]))).run Tryd.prog w := by kernel_rfl
  rw [e]; by_cases h : u = 90
  · rw [if_pos h, if_pos h]; rfl
  · rw [if_neg h, if_neg h]; exact tz90 w
theorem tn90_20 (w : World) : (Instr.typeAssert .nilIface 20 90 true).run Tryd.prog w = .ok (.tuple #[.int .i64 (0), .bool false]) w := by kernel_rfl
theorem ty90 (v : Value) (w : World) : (Instr.typeAssert (.iface 90 v) 20 90 false).run Tryd.prog w = .ok v w := by kernel_rfl
theorem tz51 (w : World) : (do pure (Value.tuple #[← zeroValue 51, .bool false]) : Sem Value).run Tryd.prog w = .ok (.tuple #[.agg #[.int .u64 (0), .nilIface], .bool false]) w := by kernel_rfl
theorem ta51_20 (u : TypeId) (v : Value) (w : World) : (Instr.typeAssert (.iface u v) 20 51 true).run Tryd.prog w = .ok (.tuple (if u = 51 then #[v, .bool true] else #[.agg #[.int .u64 (0), .nilIface], .bool false])) w := by
  have e : (Instr.typeAssert (.iface u v) 20 51 true).run Tryd.prog w = (if u = 51 then (pure (Value.tuple #[v, .bool true]) : Sem Value) else (do pure (Value.tuple #[← zeroValue 51, .bool false]))).run Tryd.prog w := by kernel_rfl
  rw [e]; by_cases h : u = 51
  · rw [if_pos h, if_pos h]; rfl
  · rw [if_neg h, if_neg h]; exact tz51 w
theorem tn51_20 (w : World) : (Instr.typeAssert .nilIface 20 51 true).run Tryd.prog w = .ok (.tuple #[.agg #[.int .u64 (0), .nilIface], .bool false]) w := by kernel_rfl
theorem ty51 (v : Value) (w : World) : (Instr.typeAssert (.iface 51 v) 20 51 false).run Tryd.prog w = .ok v w := by kernel_rfl
theorem tz99 (w : World) : (do pure (Value.tuple #[← zeroValue 99, .bool false]) : Sem Value).run Tryd.prog w = .ok (.tuple #[.string ⟨#[]⟩, .bool false]) w := by kernel_rfl
theorem ta99_20 (u : TypeId) (v : Value) (w : World) : (Instr.typeAssert (.iface u v) 20 99 true).run Tryd.prog w = .ok (.tuple (if u = 99 then #[v, .bool true] else #[.string ⟨#[]⟩, .bool false])) w := by
  have e : (Instr.typeAssert (.iface u v) 20 99 true).run Tryd.prog w = (if u = 99 then (pure (Value.tuple #[v, .bool true]) : Sem Value) else (do pure (Value.tuple #[← zeroValue 99, .bool false]))).run Tryd.prog w := by kernel_rfl
  rw [e]; by_cases h : u = 99
  · rw [if_pos h, if_pos h]; rfl
  · rw [if_neg h, if_neg h]; exact tz99 w
theorem tn99_20 (w : World) : (Instr.typeAssert .nilIface 20 99 true).run Tryd.prog w = .ok (.tuple #[.string ⟨#[]⟩, .bool false]) w := by kernel_rfl
theorem ty99 (v : Value) (w : World) : (Instr.typeAssert (.iface 99 v) 20 99 false).run Tryd.prog w = .ok v w := by kernel_rfl
theorem tz100 (w : World) : (do pure (Value.tuple #[← zeroValue 100, .bool false]) : Sem Value).run Tryd.prog w = .ok (.tuple #[.agg #[.int .i64 (0), .int .i64 (0), .int .i64 (0), .string ⟨#[]⟩], .bool false]) w := by kernel_rfl
theorem ta100_20 (u : TypeId) (v : Value) (w : World) : (Instr.typeAssert (.iface u v) 20 100 true).run Tryd.prog w = .ok (.tuple (if u = 100 then #[v, .bool true] else #[.agg #[.int .i64 (0), .int .i64 (0), .int .i64 (0), .string ⟨#[]⟩], .bool false])) w := by
  have e : (Instr.typeAssert (.iface u v) 20 100 true).run Tryd.prog w = (if u = 100 then (pure (Value.tuple #[v, .bool true]) : Sem Value) else (do pure (Value.tuple #[← zeroValue 100, .bool false]))).run Tryd.prog w := by kernel_rfl
  rw [e]; by_cases h : u = 100
  · rw [if_pos h, if_pos h]; rfl
  · rw [if_neg h, if_neg h]; exact tz100 w
theorem tn100_20 (w : World) : (Instr.typeAssert .nilIface 20 100 true).run Tryd.prog w = .ok (.tuple #[.agg #[.int .i64 (0), .int .i64 (0), .int .i64 (0), .string ⟨#[]⟩], .bool false]) w := by kernel_rfl
theorem ty100 (v : Value) (w : World) : (Instr.typeAssert (.iface 100 v) 20 100 false).run Tryd.prog w = .ok v w := by kernel_rfl
theorem tz96 (w : World) : (do pure (Value.tuple #[← zeroValue 96, .bool false]) : Sem Value).run Tryd.prog w = .ok (.tuple #[.slice none 0 0, .bool false]) w := by kernel_rfl
theorem ta96_20 (u : TypeId) (v : Value) (w : World) : (Instr.typeAssert (.iface u v) 20 96 true).run Tryd.prog w = .ok (.tuple (if u = 96 then #[v, .bool true] else #[.slice none 0 0, .bool false])) w := by
  have e : (Instr.typeAssert (.iface u v) 20 96 true).run Tryd.prog w = (if u = 96 then (pure (Value.tuple #[v, .bool true]) : Sem Value) else (do pure (Value.tuple #[← zeroValue 96, .bool false]))).run Tryd.prog w := by kernel_rfl
  rw [e]; by_cases h : u = 96
  · rw [if_pos h, if_pos h]; rfl
  · rw [if_neg h, if_neg h]; exact tz96 w
theorem tn96_20 (w : World) : (Instr.typeAssert .nilIface 20 96 true).run Tryd.prog w = .ok (.tuple #[.slice none 0 0, .bool false]) w := by kernel_rfl
theorem ty96 (v : Value) (w : World) : (Instr.typeAssert (.iface 96 v) 20 96 false).run Tryd.prog w = .ok v w := by kernel_rfl
theorem tz109 (w : World) : (do pure (Value.tuple #[← zeroValue 109, .bool false]) : Sem Value).run Tryd.prog w = .ok (.tuple #[.int .i64 (0), .bool false]) w := by kernel_rfl
theorem ta109_20 (u : TypeId) (v : Value) (w : World) : (Instr.typeAssert (.iface u v) 20 109 true).run Tryd.prog w = .ok (.tuple (if u = 109 then #[v, .bool true] else #[.int .i64 (0), .bool false])) w := by
  have e : (Instr.typeAssert (.iface u v) 20 109 true).run Tryd.prog w = (if u = 109 then (pure (Value.tuple #[v, .bool true]) : Sem Value) else (do pure (Value.tuple #[← zeroValue 109, .bool false]))).run Tryd.prog w := by kernel_rfl
  rw [e]; by_cases h : u = 109
  · rw [if_pos h, if_pos h]; rfl
  · rw [if_neg h, if_neg h]; exact tz109 w
theorem tn109_20 (w : World) : (Instr.typeAssert .nilIface 20 109 true).run Tryd.prog w = .ok (.tuple #[.int .i64 (0), .bool false]) w := by kernel_rfl
theorem ty109 (v : Value) (w : World) : (Instr.typeAssert (.iface 109 v) 20 109 false).run Tryd.prog w = .ok v w := by kernel_rfl
theorem tz111 (w : World) : (do pure (Value.tuple #[← zeroValue 111, .bool false]) : Sem Value).run Tryd.prog w = .ok (.tuple #[.agg #[.string ⟨#[]⟩], .bool false]) w := by kernel_rfl
theorem ta111_20 (u : TypeId) (v : Value) (w : World) : (Instr.typeAssert (.iface u v) 20 111 true).run Tryd.prog w = .ok (.tuple (if u = 111 then #[v, .bool true] else #[.agg #[.string ⟨#[]⟩], .bool false])) w := by
  have e : (Instr.typeAssert (.iface u v) 20 111 true).run Tryd.prog w = (if u = 111 then (pure (Value.tuple #[v, .bool true]) : Sem Value) else (do pure (Value.tuple #[← zeroValue 111, .bool false]))).run Tryd.prog w := by kernel_rfl
  rw [e]; by_cases h : u = 111
  · rw [if_pos h, if_pos h]; rfl
  · rw [if_neg h, if_neg h]; exact tz111 w
theorem tn111_20 (w : World) : (Instr.typeAssert .nilIface 20 111 true).run Tryd.prog w = .ok (.tuple #[.agg #[.string ⟨#[]⟩], .bool false]) w := by kernel_rfl
theorem ty111 (v : Value) (w : World) : (Instr.typeAssert (.iface 111 v) 20 111 false).run Tryd.prog w = .ok v w := by kernel_rfl
theorem tz112 (w : World) : (do pure (Value.tuple #[← zeroValue 112, .bool false]) : Sem Value).run Tryd.prog w = .ok (.tuple #[.agg #[.string ⟨#[]⟩], .bool false]) w := by kernel_rfl
theorem ta112_20 (u : TypeId) (v : Value) (w : World) : (Instr.typeAssert (.iface u v) 20 112 true).run Tryd.prog w = .ok (.tuple (if u = 112 then #[v, .bool true] else #[.agg #[.string ⟨#[]⟩], .bool false])) w := by
  have e : (Instr.typeAssert (.iface u v) 20 112 true).run Tryd.prog w = (if u = 112 then (pure (Value.tuple #[v, .bool true]) : Sem Value) else (do pure (Value.tuple #[← zeroValue 112, .bool false]))).run Tryd.prog w := by kernel_rfl
  rw [e]; by_cases h : u = 112
  · rw [if_pos h, if_pos h]; rfl
  · rw [if_neg h, if_neg h]; exact tz112 w
theorem tn112_20 (w : World) : (Instr.typeAssert .nilIface 20 112 true).run Tryd.prog w = .ok (.tuple #[.agg #[.string ⟨#[]⟩], .bool false]) w := by kernel_rfl
theorem ty112 (v : Value) (w : World) : (Instr.typeAssert (.iface 112 v) 20 112 false).run Tryd.prog w = .ok v w := by kernel_rfl
theorem tz113 (w : World) : (do pure (Value.tuple #[← zeroValue 113, .bool false]) : Sem Value).run Tryd.prog w = .ok (.tuple #[.slice none 0 0, .bool false]) w := by kernel_rfl
theorem ta113_20 (u : TypeId) (v : Value) (w : World) : (Instr.typeAssert (.iface u v) 20 113 true).run Tryd.prog w = .ok (.tuple (if u = 113 then #[v, .bool true] else #[.slice none 0 0, .bool false])) w := by
  have e : (Instr.typeAssert (.iface u v) 20 113 true).run Tryd.prog w = (if u = 113 then (pure (Value.tuple #[v, .bool true]) : Sem Value) else (do pure (Value.tuple #[← zeroValue 113, .bool false]))).run Tryd.prog w := by kernel_rfl
  rw [e]; by_cases h : u = 113
  · rw [if_pos h, if_pos h]; rfl
  · rw [if_neg h, if_neg h]; exact tz113 w
theorem tn113_20 (w : World) : (Instr.typeAssert .nilIface 20 113 true).run Tryd.prog w = .ok (.tuple #[.slice none 0 0, .bool false]) w := by kernel_rfl
theorem ty113 (v : Value) (w : World) : (Instr.typeAssert (.iface 113 v) 20 113 false).run Tryd.prog w = .ok v w := by kernel_rfl
theorem tz114 (w : World) : (do pure (Value.tuple #[← zeroValue 114, .bool false]) : Sem Value).run Tryd.prog w = .ok (.tuple #[.agg #[.string ⟨#[]⟩], .bool false]) w := by kernel_rfl
theorem ta114_20 (u : TypeId) (v : Value) (w : World) : (Instr.typeAssert (.iface u v) 20 114 true).run Tryd.prog w = .ok (.tuple (if u = 114 then #[v, .bool true] else #[.agg #[.string ⟨#[]⟩], .bool false])) w := by
  have e : (Instr.typeAssert (.iface u v) 20 114 true).run Tryd.prog w = (if u = 114 then (pure (Value.tuple #[v, .bool true]) : Sem Value) else (do pure (Value.tuple #[← zeroValue 114, .bool false]))).run Tryd.prog w := by kernel_rfl
  rw [e]; by_cases h : u = 114
  · rw [if_pos h, if_pos h]; rfl
  · rw [if_neg h, if_neg h]; exact tz114 w
theorem tn114_20 (w : World) : (Instr.typeAssert .nilIface 20 114 true).run Tryd.prog w = .ok (.tuple #[.agg #[.string ⟨#[]⟩], .bool false]) w := by kernel_rfl
theorem ty114 (v : Value) (w : World) : (Instr.typeAssert (.iface 114 v) 20 114 false).run Tryd.prog w = .ok v w := by kernel_rfl
theorem tz115 (w : World) : (do pure (Value.tuple #[← zeroValue 115, .bool false]) : Sem Value).run Tryd.prog w = .ok (.tuple #[.agg #[.string ⟨#[]⟩], .bool false]) w := by kernel_rfl
theorem ta115_20 (u : TypeId) (v : Value) (w : World) : (Instr.typeAssert (.iface u v) 20 115 true).run Tryd.prog w = .ok (.tuple (if u = 115 then #[v, .bool true] else #[.agg #[.string ⟨#[]⟩], .bool false])) w := by
  have e : (Instr.typeAssert (.iface u v) 20 115 true).run Tryd.prog w = (if u = 115 then (pure (Value.tuple #[v, .bool true]) : Sem Value) else (do pure (Value.tuple #[← zeroValue 115, .bool false]))).run Tryd.prog w := by kernel_rfl
  rw [e]; by_cases h : u = 115
  · rw [if_pos h, if_pos h]; rfl
  · rw [if_neg h, if_neg h]; exact tz115 w
theorem tn115_20 (w : World) : (Instr.typeAssert .nilIface 20 115 true).run Tryd.prog w = .ok (.tuple #[.agg #[.string ⟨#[]⟩], .bool false]) w := by kernel_rfl
theorem ty115 (v : Value) (w : World) : (Instr.typeAssert (.iface 115 v) 20 115 false).run Tryd.prog w = .ok v w := by kernel_rfl
theorem tz116 (w : World) : (do pure (Value.tuple #[← zeroValue 116, .bool false]) : Sem Value).run Tryd.prog w = .ok (.tuple #[.int .i64 (0), .bool false]) w := by kernel_rfl
theorem ta116_20 (u : TypeId) (v : Value) (w : World) : (Instr.typeAssert (.iface u v) 20 116 true).run Tryd.prog w = .ok (.tuple (if u = 116 then #[v, .bool true] else #[.int .i64 (0), .bool false])) w := by
  have e : (Instr.typeAssert (.iface u v) 20 116 true).run Tryd.prog w = (if u = 116 then (pure (Value.tuple #[v, .bool true]) : Sem Value) else (do pure (Value.tuple #[← zeroValue 116, .bool false]))).run Tryd.prog w := by kernel_rfl
  rw [e]; by_cases h : u = 116
  · rw [if_pos h, if_pos h]; rfl
  · rw [if_neg h, if_neg h]; exact tz116 w
theorem tn116_20 (w : World) : (Instr.typeAssert .nilIface 20 116 true).run Tryd.prog w = .ok (.tuple #[.int .i64 (0), .bool false]) w := by kernel_rfl
theorem ty116 (v : Value) (w : World) : (Instr.typeAssert (.iface 116 v) 20 116 false).run Tryd.prog w = .ok v w := by kernel_rfl
theorem tz117 (w : World) : (do pure (Value.tuple #[← zeroValue 117, .bool false]) : Sem Value).run Tryd.prog w = .ok (.tuple #[.int .i64 (0), .bool false]) w := by kernel_rfl
theorem ta117_20 (u : TypeId) (v : Value) (w : World) : (Instr.typeAssert (.iface u v) 20 117 true).run Tryd.prog w = .ok (.tuple (if u = 117 then #[v, .bool true] else #[.int .i64 (0), .bool false])) w := by
  have e : (Instr.typeAssert (.iface u v) 20 117 true).run Tryd.prog w = (if u = 117 then (pure (Value.tuple #[v, .bool true]) : Sem Value) else (do pure (Value.tuple #[← zeroValue 117, .bool false]))).run Tryd.prog w := by kernel_rfl
  rw [e]; by_cases h : u = 117
  · rw [if_pos h, if_pos h]; rfl
  · rw [if_neg h, if_neg h]; exact tz117 w
theorem tn117_20 (w : World) : (Instr.typeAssert .nilIface 20 117 true).run Tryd.prog w = .ok (.tuple #[.int .i64 (0), .bool false]) w := by kernel_rfl
theorem ty117 (v : Value) (w : World) : (Instr.typeAssert (.iface 117 v) 20 117 false).run Tryd.prog w = .ok v w := by kernel_rfl
theorem tz119 (w : World) : (do pure (Value.tuple #[← zeroValue 119, .bool false]) : Sem Value).run Tryd.prog w = .ok (.tuple #[.agg #[.string ⟨#[]⟩, .string ⟨#[]⟩], .bool false]) w := by kernel_rfl
theorem ta119_20 (u : TypeId) (v : Value) (w : World) : (Instr.typeAssert (.iface u v) 20 119 true).run Tryd.prog w = .ok (.tuple (if u = 119 then #[v, .bool true] else #[.agg #[.string ⟨#[]⟩, .string ⟨#[]⟩], .bool false])) w := by
  have e : (Instr.typeAssert (.iface u v) 20 119 true).run Tryd.prog w = (if u = 119 then (pure (Value.tuple #[v, .bool true]) : Sem Value) else (do pure (Value.tuple #[← zeroValue 119, .bool false]))).run Tryd.prog w := by kernel_rfl
  rw [e]; by_cases h : u = 119
  · rw [if_pos h, if_pos h]; rfl
  · rw [if_neg h, if_neg h]; exact tz119 w
theorem tn119_20 (w : World) : (Instr.typeAssert .nilIface 20 119 true).run Tryd.prog w = .ok (.tuple #[.agg #[.string ⟨#[]⟩, .string ⟨#[]⟩], .bool false]) w := by kernel_rfl
theorem ty119 (v : Value) (w : World) : (Instr.typeAssert (.iface 119 v) 20 119 false).run Tryd.prog w = .ok v w := by kernel_rfl
theorem tz120 (w : World) : (do pure (Value.tuple #[← zeroValue 120, .bool false]) : Sem Value).run Tryd.prog w = .ok (.tuple #[.agg #[.string ⟨#[]⟩], .bool false]) w := by kernel_rfl
theorem ta120_20 (u : TypeId) (v : Value) (w : World) : (Instr.typeAssert (.iface u v) 20 120 true).run Tryd.prog w = .ok (.tuple (if u = 120 then #[v, .bool true] else #[.agg #[.string ⟨#[]⟩], .bool false])) w := by
  have e : (Instr.typeAssert (.iface u v) 20 120 true).run Tryd.prog w = (if u = 120 then (pure (Value.tuple #[v, .bool true]) : Sem Value) else (do pure (Value.tuple #[← zeroValue 120, .bool false]))).run Tryd.prog w := by kernel_rfl
  rw [e]; by_cases h : u = 120
  · rw [if_pos h, if_pos h]; rfl
  · rw [if_neg h, if_neg h]; exact tz120 w
theorem tn120_20 (w : World) : (Instr.typeAssert .nilIface 20 120 true).run Tryd.prog w = .ok (.tuple #[.agg #[.string ⟨#[]⟩], .bool false]) w := by kernel_rfl
theorem ty120 (v : Value) (w : World) : (Instr.typeAssert (.iface 120 v) 20 120 false).run Tryd.prog w = .ok v w := by kernel_rfl
theorem tz121 (w : World) : (do pure (Value.tuple #[← zeroValue 121, .bool false]) : Sem Value).run Tryd.prog w = .ok (.tuple #[.agg #[.string ⟨#[]⟩], .bool false]) w := by kernel_rfl
theorem ta121_20 (u : TypeId) (v : Value) (w : World) : (Instr.typeAssert (.iface u v) 20 121 true).run Tryd.prog w = .ok (.tuple (if u = 121 then #[v, .bool true] else #[.agg #[.string ⟨#[]⟩], .bool false])) w := by
  have e : (Instr.typeAssert (.iface u v) 20 121 true).run Tryd.prog w = (if u = 121 then (pure (Value.tuple #[v, .bool true]) : Sem Value) else (do pure (Value.tuple #[← zeroValue 121, .bool false]))).run Tryd.prog w := by kernel_rfl
  rw [e]; by_cases h : u = 121
  · rw [if_pos h, if_pos h]; rfl
  · rw [if_neg h, if_neg h]; exact tz121 w
theorem tn121_20 (w : World) : (Instr.typeAssert .nilIface 20 121 true).run Tryd.prog w = .ok (.tuple #[.agg #[.string ⟨#[]⟩], .bool false]) w := by kernel_rfl
theorem ty121 (v : Value) (w : World) : (Instr.typeAssert (.iface 121 v) 20 121 false).run Tryd.prog w = .ok v w := by kernel_rfl
theorem tz122 (w : World) : (do pure (Value.tuple #[← zeroValue 122, .bool false]) : Sem Value).run Tryd.prog w = .ok (.tuple #[.pointer none, .bool false]) w := by kernel_rfl
theorem ta122_20 (u : TypeId) (v : Value) (w : World) : (Instr.typeAssert (.iface u v) 20 122 true).run Tryd.prog w = .ok (.tuple (if u = 122 then #[v, .bool true] else #[.pointer none, .bool false])) w := by
  have e : (Instr.typeAssert (.iface u v) 20 122 true).run Tryd.prog w = (if u = 122 then (pure (Value.tuple #[v, .bool true]) : Sem Value) else (do pure (Value.tuple #[← zeroValue 122, .bool false]))).run Tryd.prog w := by kernel_rfl
  rw [e]; by_cases h : u = 122
  · rw [if_pos h, if_pos h]; rfl
  · rw [if_neg h, if_neg h]; exact tz122 w
theorem tn122_20 (w : World) : (Instr.typeAssert .nilIface 20 122 true).run Tryd.prog w = .ok (.tuple #[.pointer none, .bool false]) w := by kernel_rfl
theorem ty122 (v : Value) (w : World) : (Instr.typeAssert (.iface 122 v) 20 122 false).run Tryd.prog w = .ok v w := by kernel_rfl
theorem tz123 (w : World) : (do pure (Value.tuple #[← zeroValue 123, .bool false]) : Sem Value).run Tryd.prog w = .ok (.tuple #[.pointer none, .bool false]) w := by kernel_rfl
theorem ta123_20 (u : TypeId) (v : Value) (w : World) : (Instr.typeAssert (.iface u v) 20 123 true).run Tryd.prog w = .ok (.tuple (if u = 123 then #[v, .bool true] else #[.pointer none, .bool false])) w := by
  have e : (Instr.typeAssert (.iface u v) 20 123 true).run Tryd.prog w = (if u = 123 then (pure (Value.tuple #[v, .bool true]) : Sem Value) else (do pure (Value.tuple #[← zeroValue 123, .bool false]))).run Tryd.prog w := by kernel_rfl
  rw [e]; by_cases h : u = 123
  · rw [if_pos h, if_pos h]; rfl
  · rw [if_neg h, if_neg h]; exact tz123 w
theorem tn123_20 (w : World) : (Instr.typeAssert .nilIface 20 123 true).run Tryd.prog w = .ok (.tuple #[.pointer none, .bool false]) w := by kernel_rfl
theorem ty123 (v : Value) (w : World) : (Instr.typeAssert (.iface 123 v) 20 123 false).run Tryd.prog w = .ok v w := by kernel_rfl
theorem tz127 (w : World) : (do pure (Value.tuple #[← zeroValue 127, .bool false]) : Sem Value).run Tryd.prog w = .ok (.tuple #[.agg #[.string ⟨#[]⟩, .string ⟨#[]⟩], .bool false]) w := by kernel_rfl
theorem ta127_20 (u : TypeId) (v : Value) (w : World) : (Instr.typeAssert (.iface u v) 20 127 true).run Tryd.prog w = .ok (.tuple (if u = 127 then #[v, .bool true] else #[.agg #[.string ⟨#[]⟩, .string ⟨#[]⟩], .bool false])) w := by
  have e : (Instr.typeAssert (.iface u v) 20 127 true).run Tryd.prog w = (if u = 127 then (pure (Value.tuple #[v, .bool true]) : Sem Value) else (do pure (Value.tuple #[← zeroValue 127, .bool false]))).run Tryd.prog w := by kernel_rfl
  rw [e]; by_cases h : u = 127
  · rw [if_pos h, if_pos h]; rfl
  · rw [if_neg h, if_neg h]; exact tz127 w
theorem tn127_20 (w : World) : (Instr.typeAssert .nilIface 20 127 true).run Tryd.prog w = .ok (.tuple #[.agg #[.string ⟨#[]⟩, .string ⟨#[]⟩], .bool false]) w := by kernel_rfl
theorem ty127 (v : Value) (w : World) : (Instr.typeAssert (.iface 127 v) 20 127 false).run Tryd.prog w = .ok v w := by kernel_rfl
theorem tz55 (w : World) : (do pure (Value.tuple #[← zeroValue 55, .bool false]) : Sem Value).run Tryd.prog w = .ok (.tuple #[.agg #[.string ⟨#[]⟩, .int .u64 (0), .nilIface], .bool false]) w := by kernel_rfl
theorem ta55_20 (u : TypeId) (v : Value) (w : World) : (Instr.typeAssert (.iface u v) 20 55 true).run Tryd.prog w = .ok (.tuple (if u = 55 then #[v, .bool true] else #[.agg #[.string ⟨#[]⟩, .int .u64 (0), .nilIface], .bool false])) w := by
  have e : (Instr.typeAssert (.iface u v) 20 55 true).run Tryd.prog w = (if u = 55 then (pure (Value.tuple #[v, .bool true]) : Sem Value) else (do pure (Value.tuple #[← zeroValue 55, .bool false]))).run Tryd.prog w := by kernel_rfl
  rw [e]; by_cases h : u = 55
  · rw [if_pos h, if_pos h]; rfl
  · rw [if_neg h, if_neg h]; exact tz55 w
theorem tn55_20 (w : World) : (Instr.typeAssert .nilIface 20 55 true).run Tryd.prog w = .ok (.tuple #[.agg #[.string ⟨#[]⟩, .int .u64 (0), .nilIface], .bool false]) w := by kernel_rfl
theorem ty55 (v : Value) (w : World) : (Instr.typeAssert (.iface 55 v) 20 55 false).run Tryd.prog w = .ok v w := by kernel_rfl
theorem tz86 (w : World) : (do pure (Value.tuple #[← zeroValue 86, .bool false]) : Sem Value).run Tryd.prog w = .ok (.tuple #[.agg #[.string ⟨#[]⟩, .pointer none], .bool false]) w := by kernel_rfl
theorem ta86_20 (u : TypeId) (v : Value) (w : World) : (Instr.typeAssert (.iface u v) 20 86 true).run Tryd.prog w = .ok (.tuple (if u = 86 then #[v, .bool true] else #[.agg #[.string ⟨#[]⟩, .pointer none], .bool false])) w := by
  have e : (Instr.typeAssert (.iface u v) 20 86 true).run Tryd.prog w = (if u = 86 then (pure (Value.tuple #[v, .bool true]) : Sem Value) else (do pure (Value.tuple #[← zeroValue 86, .bool false]))).run Tryd.prog w := by kernel_rfl
  rw [e]; by_cases h : u = 86
  · rw [if_pos h, if_pos h]; rfl
  · rw [if_neg h, if_neg h]; exact tz86 w
theorem tn86_20 (w : World) : (Instr.typeAssert .nilIface 20 86 true).run Tryd.prog w = .ok (.tuple #[.agg #[.string ⟨#[]⟩, .pointer none], .bool false]) w := by kernel_rfl
theorem ta86_65 (u : TypeId) (v : Value) (w : World) : (Instr.typeAssert (.iface u v) 65 86 true).run Tryd.prog w = .ok (.tuple (if u = 86 then #[v, .bool true] else #[.agg #[.string ⟨#[]⟩, .pointer none], .bool false])) w := by
  have e : (Instr.typeAssert (.iface u v) 65 86 true).run Tryd.prog w = (if u = 86 then (pure (Value.tuple #[v, .bool true]) : Sem Value) else (do pure (Value.tuple #[← zeroValue 86, .bool false]))).run Tryd.prog w := by kernel_rfl
  rw [e]; by_cases h : u = 86
  · rw [if_pos h, if_pos h]; rfl
  · rw [if_neg h, if_neg h]; exact tz86 w
theorem tn86_65 (w : World) : (Instr.typeAssert .nilIface 65 86 true).run Tryd.prog w = .ok (.tuple #[.agg #[.string ⟨#[]⟩, .pointer none], .bool false]) w := by kernel_rfl
theorem ty86 (v : Value) (w : World) : (Instr.typeAssert (.iface 86 v) 20 86 false).run Tryd.prog w = .ok v w := by kernel_rfl
theorem tz88 (w : World) : (do pure (Value.tuple #[← zeroValue 88, .bool false]) : Sem Value).run Tryd.prog w = .ok (.tuple #[.agg #[.int .u64 (0), .int .u64 (0), .nilIface, .pointer none], .bool false]) w := by kernel_rfl
theorem ta88_20 (u : TypeId) (v : Value) (w : World) : (Instr.typeAssert (.iface u v) 20 88 true).run Tryd.prog w = .ok (.tuple (if u = 88 then #[v, .bool true] else #[.agg #[.int .u64 (0), .int .u64 (0), .nilIface, .pointer none], .bool false])) w := by
  have e : (Instr.typeAssert (.iface u v) 20 88 true).run Tryd.prog w = (if u = 88 then (pure (Value.tuple #[v, .bool true]) : Sem Value) else (do pure (Value.tuple #[← zeroValue 88, .bool false]))).run Tryd.prog w := by kernel_rfl
  rw [e]; by_cases h : u = 88
  · rw [if_pos h, if_pos h]; rfl
  · rw [if_neg h, if_neg h]; exact tz88 w
theorem tn88_20 (w : World) : (Instr.typeAssert .nilIface 20 88 true).run Tryd.prog w = .ok (.tuple #[.agg #[.int .u64 (0), .int .u64 (0), .nilIface, .pointer none], .bool false]) w := by kernel_rfl
theorem ta88_65 (u : TypeId) (v : Value) (w : World) : (Instr.typeAssert (.iface u v) 65 88 true).run Tryd.prog w = .ok (.tuple (if u = 88 then #[v, .bool true] else #[.agg #[.int .u64 (0), .int .u64 (0), .nilIface, .pointer none], .bool false])) w := by
  have e : (Instr.typeAssert (.iface u v) 65 88 true).run Tryd.prog w = (if u = 88 then (pure (Value.tuple #[v, .bool true]) : Sem Value) else (do pure (Value.tuple #[← zeroValue 88, .bool false]))).run Tryd.prog w := by kernel_rfl
  rw [e]; by_cases h : u = 88
  · rw [if_pos h, if_pos h]; rfl
  · rw [if_neg h, if_neg h]; exact tz88 w
theorem tn88_65 (w : World) : (Instr.typeAssert .nilIface 65 88 true).run Tryd.prog w = .ok (.tuple #[.agg #[.int .u64 (0), .int .u64 (0), .nilIface, .pointer none], .bool false]) w := by kernel_rfl
theorem ty88 (v : Value) (w : World) : (Instr.typeAssert (.iface 88 v) 20 88 false).run Tryd.prog w = .ok v w := by kernel_rfl
theorem ti65_9 (v : Value) (w : World) : (Instr.typeAssert (.iface 9 v) 20 65 true).run Tryd.prog w = .ok (.tuple #[.nilIface, .bool false]) w := run_typeAssert_lacksB Tryd.underlying65 (by kernel_rfl) (by kernel_rfl) v 20 w
theorem ti65_3 (v : Value) (w : World) : (Instr.typeAssert (.iface 3 v) 20 65 true).run Tryd.prog w = .ok (.tuple #[.nilIface, .bool false]) w := run_typeAssert_lacksB Tryd.underlying65 (by kernel_rfl) (by kernel_rfl) v 20 w
theorem ti65_103 (v : Value) (w : World) : (Instr.typeAssert (.iface 103 v) 20 65 true).run Tryd.prog w = .ok (.tuple #[.nilIface, .bool false]) w := run_typeAssert_lacksB Tryd.underlying65 (by kernel_rfl) (by kernel_rfl) v 20 w
theorem ti65_2 (v : Value) (w : World) : (Instr.typeAssert (.iface 2 v) 20 65 true).run Tryd.prog w = .ok (.tuple #[.nilIface, .bool false]) w := run_typeAssert_lacksB Tryd.underlying65 (by kernel_rfl) (by kernel_rfl) v 20 w
theorem ti65_22 (v : Value) (w : World) : (Instr.typeAssert (.iface 22 v) 20 65 true).run Tryd.prog w = .ok (.tuple #[.nilIface, .bool false]) w := run_typeAssert_lacksB Tryd.underlying65 (by kernel_rfl) (by kernel_rfl) v 20 w
theorem ti65_4 (v : Value) (w : World) : (Instr.typeAssert (.iface 4 v) 20 65 true).run Tryd.prog w = .ok (.tuple #[.nilIface, .bool false]) w := run_typeAssert_lacksB Tryd.underlying65 (by kernel_rfl) (by kernel_rfl) v 20 w
theorem ti65_58 (v : Value) (w : World) : (Instr.typeAssert (.iface 58 v) 20 65 true).run Tryd.prog w = .ok (.tuple #[.nilIface, .bool false]) w := run_typeAssert_lacksB Tryd.underlying65 (by kernel_rfl) (by kernel_rfl) v 20 w
theorem ti65_68 (v : Value) (w : World) : (Instr.typeAssert (.iface 68 v) 20 65 true).run Tryd.prog w = .ok (.tuple #[.nilIface, .bool false]) w := run_typeAssert_lacksB Tryd.underlying65 (by kernel_rfl) (by kernel_rfl) v 20 w
theorem ti65_5 (v : Value) (w : World) : (Instr.typeAssert (.iface 5 v) 20 65 true).run Tryd.prog w = .ok (.tuple #[.nilIface, .bool false]) w := run_typeAssert_lacksB Tryd.underlying65 (by kernel_rfl) (by kernel_rfl) v 20 w
theorem ti65_104 (v : Value) (w : World) : (Instr.typeAssert (.iface 104 v) 20 65 true).run Tryd.prog w = .ok (.tuple #[.nilIface, .bool false]) w := run_typeAssert_lacksB Tryd.underlying65 (by kernel_rfl) (by kernel_rfl) v 20 w
theorem ti65_105 (v : Value) (w : World) : (Instr.typeAssert (.iface 105 v) 20 65 true).run Tryd.prog w = .ok (.tuple #[.nilIface, .bool false]) w := run_typeAssert_lacksB Tryd.underlying65 (by kernel_rfl) (by kernel_rfl) v 20 w
theorem ti65_12 (v : Value) (w : World) : (Instr.typeAssert (.iface 12 v) 20 65 true).run Tryd.prog w = .ok (.tuple #[.nilIface, .bool false]) w := run_typeAssert_lacksB Tryd.underlying65 (by kernel_rfl) (by kernel_rfl) v 20 w
theorem ti65_106 (v : Value) (w : World) : (Instr.typeAssert (.iface 106 v) 20 65 true).run Tryd.prog w = .ok (.tuple #[.nilIface, .bool false]) w := run_typeAssert_lacksB Tryd.underlying65 (by kernel_rfl) (by kernel_rfl) v 20 w
theorem ti65_107 (v : Value) (w : World) : (Instr.typeAssert (.iface 107 v) 20 65 true).run Tryd.prog w = .ok (.tuple #[.nilIface, .bool false]) w := run_typeAssert_lacksB Tryd.underlying65 (by kernel_rfl) (by kernel_rfl) v 20 w
theorem ti65_21 (v : Value) (w : World) : (Instr.typeAssert (.iface 21 v) 20 65 true).run Tryd.prog w = .ok (.tuple #[.nilIface, .bool false]) w := run_typeAssert_lacksB Tryd.underlying65 (by kernel_rfl) (by kernel_rfl) v 20 w
theorem ti65_44 (v : Value) (w : World) : (Instr.typeAssert (.iface 44 v) 20 65 true).run Tryd.prog w = .ok (.tuple #[.nilIface, .bool false]) w := run_typeAssert_lacksB Tryd.underlying65 (by kernel_rfl) (by kernel_rfl) v 20 w
theorem ti65_108 (v : Value) (w : World) : (Instr.typeAssert (.iface 108 v) 20 65 true).run Tryd.prog w = .ok (.tuple #[.nilIface, .bool false]) w := run_typeAssert_lacksB Tryd.underlying65 (by kernel_rfl) (by kernel_rfl) v 20 w
theorem ti65_61 (v : Value) (w : World) : (Instr.typeAssert (.iface 61 v) 20 65 true).run Tryd.prog w = .ok (.tuple #[.nilIface, .bool false]) w := run_typeAssert_lacksB Tryd.underlying65 (by kernel_rfl) (by kernel_rfl) v 20 w
theorem ti65_90 (v : Value) (w : World) : (Instr.typeAssert (.iface 90 v) 20 65 true).run Tryd.prog w = .ok (.tuple #[.nilIface, .bool false]) w := run_typeAssert_lacksB Tryd.underlying65 (by kernel_rfl) (by kernel_rfl) v 20 w
theorem ti65_51 (v : Value) (w : World) : (Instr.typeAssert (.iface 51 v) 20 65 true).run Tryd.prog w = .ok (.tuple #[.nilIface, .bool false]) w := run_typeAssert_lacksB Tryd.underlying65 (by kernel_rfl) (by kernel_rfl) v 20 w
theorem ti65_99 (v : Value) (w : World) : (Instr.typeAssert (.iface 99 v) 20 65 true).run Tryd.prog w = .ok (.tuple #[.nilIface, .bool false]) w := run_typeAssert_lacksB Tryd.underlying65 (by kernel_rfl) (by kernel_rfl) v 20 w
theorem ti65_100 (v : Value) (w : World) : (Instr.typeAssert (.iface 100 v) 20 65 true).run Tryd.prog w = .ok (.tuple #[.nilIface, .bool false]) w := run_typeAssert_lacksB Tryd.underlying65 (by kernel_rfl) (by kernel_rfl) v 20 w
theorem ti65_96 (v : Value) (w : World) : (Instr.typeAssert (.iface 96 v) 20 65 true).run Tryd.prog w = .ok (.tuple #[.nilIface, .bool false]) w := run_typeAssert_lacksB Tryd.underlying65 (by kernel_rfl) (by kernel_rfl) v 20 w
theorem ti65_109 (v : Value) (w : World) : (Instr.typeAssert (.iface 109 v) 20 65 true).run Tryd.prog w = .ok (.tuple #[.nilIface, .bool false]) w := run_typeAssert_lacksB Tryd.underlying65 (by kernel_rfl) (by kernel_rfl) v 20 w
theorem ti65_111 (v : Value) (w : World) : (Instr.typeAssert (.iface 111 v) 20 65 true).run Tryd.prog w = .ok (.tuple #[.nilIface, .bool false]) w := run_typeAssert_lacksB Tryd.underlying65 (by kernel_rfl) (by kernel_rfl) v 20 w
theorem ti65_112 (v : Value) (w : World) : (Instr.typeAssert (.iface 112 v) 20 65 true).run Tryd.prog w = .ok (.tuple #[.nilIface, .bool false]) w := run_typeAssert_lacksB Tryd.underlying65 (by kernel_rfl) (by kernel_rfl) v 20 w
theorem ti65_113 (v : Value) (w : World) : (Instr.typeAssert (.iface 113 v) 20 65 true).run Tryd.prog w = .ok (.tuple #[.nilIface, .bool false]) w := run_typeAssert_lacksB Tryd.underlying65 (by kernel_rfl) (by kernel_rfl) v 20 w
theorem ti65_114 (v : Value) (w : World) : (Instr.typeAssert (.iface 114 v) 20 65 true).run Tryd.prog w = .ok (.tuple #[.nilIface, .bool false]) w := run_typeAssert_lacksB Tryd.underlying65 (by kernel_rfl) (by kernel_rfl) v 20 w
theorem ti65_115 (v : Value) (w : World) : (Instr.typeAssert (.iface 115 v) 20 65 true).run Tryd.prog w = .ok (.tuple #[.nilIface, .bool false]) w := run_typeAssert_lacksB Tryd.underlying65 (by kernel_rfl) (by kernel_rfl) v 20 w
theorem ti65_116 (v : Value) (w : World) : (Instr.typeAssert (.iface 116 v) 20 65 true).run Tryd.prog w = .ok (.tuple #[.nilIface, .bool false]) w := run_typeAssert_lacksB Tryd.underlying65 (by kernel_rfl) (by kernel_rfl) v 20 w
theorem ti65_117 (v : Value) (w : World) : (Instr.typeAssert (.iface 117 v) 20 65 true).run Tryd.prog w = .ok (.tuple #[.nilIface, .bool false]) w := run_typeAssert_lacksB Tryd.underlying65 (by kernel_rfl) (by kernel_rfl) v 20 w
theorem ti65_119 (v : Value) (w : World) : (Instr.typeAssert (.iface 119 v) 20 65 true).run Tryd.prog w = .ok (.tuple #[.nilIface, .bool false]) w := run_typeAssert_lacksB Tryd.underlying65 (by kernel_rfl) (by kernel_rfl) v 20 w
theorem ti65_120 (v : Value) (w : World) : (Instr.typeAssert (.iface 120 v) 20 65 true).run Tryd.prog w = .ok (.tuple #[.nilIface, .bool false]) w := run_typeAssert_lacksB Tryd.underlying65 (by kernel_rfl) (by kernel_rfl) v 20 w
theorem ti65_121 (v : Value) (w : World) : (Instr.typeAssert (.iface 121 v) 20 65 true).run Tryd.prog w = .ok (.tuple #[.nilIface, .bool false]) w := run_typeAssert_lacksB Tryd.underlying65 (by kernel_rfl) (by kernel_rfl) v 20 w
theorem ti65_122 (v : Value) (w : World) : (Instr.typeAssert (.iface 122 v) 20 65 true).run Tryd.prog w = .ok (.tuple #[.nilIface, .bool false]) w := run_typeAssert_lacksB Tryd.underlying65 (by kernel_rfl) (by kernel_rfl) v 20 w
theorem ti65_123 (v : Value) (w : World) : (Instr.typeAssert (.iface 123 v) 20 65 true).run Tryd.prog w = .ok (.tuple #[.nilIface, .bool false]) w := run_typeAssert_lacksB Tryd.underlying65 (by kernel_rfl) (by kernel_rfl) v 20 w
theorem ti65_127 (v : Value) (w : World) : (Instr.typeAssert (.iface 127 v) 20 65 true).run Tryd.prog w = .ok (.tuple #[.nilIface, .bool false]) w := run_typeAssert_lacksB Tryd.underlying65 (by kernel_rfl) (by kernel_rfl) v 20 w
theorem ti65_55 (v : Value) (w : World) : (Instr.typeAssert (.iface 55 v) 20 65 true).run Tryd.prog w = .ok (.tuple #[.nilIface, .bool false]) w := run_typeAssert_lacksB Tryd.underlying65 (by kernel_rfl) (by kernel_rfl) v 20 w
theorem ti65_86 (v : Value) (w : World) : (Instr.typeAssert (.iface 86 v) 20 65 true).run Tryd.prog w = .ok (.tuple #[.iface 86 v, .bool true]) w := run_typeAssert_hasB Tryd.underlying65 (by kernel_rfl) v 20 w
theorem tj65_86 (v : Value) (w : World) : (Instr.typeAssert (.iface 86 v) 20 65 false).run Tryd.prog w = .ok (.iface 86 v) w := by kernel_rfl
theorem ti65_88 (v : Value) (w : World) : (Instr.typeAssert (.iface 88 v) 20 65 true).run Tryd.prog w = .ok (.tuple #[.iface 88 v, .bool true]) w := run_typeAssert_hasB Tryd.underlying65 (by kernel_rfl) v 20 w
theorem tj65_88 (v : Value) (w : World) : (Instr.typeAssert (.iface 88 v) 20 65 false).run Tryd.prog w = .ok (.iface 88 v) w := by kernel_rfl
theorem tm65 (w : World) : (Instr.typeAssert .nilIface 20 65 true).run Tryd.prog w = .ok (.tuple #[.nilIface, .bool false]) w := by kernel_rfl
theorem ti149_9 (v : Value) (w : World) : (Instr.typeAssert (.iface 9 v) 20 149 true).run Tryd.prog w = .ok (.tuple #[.nilIface, .bool false]) w := run_typeAssert_lacksB Tryd.underlying149 (by kernel_rfl) (by kernel_rfl) v 20 w
theorem ti149_3 (v : Value) (w : World) : (Instr.typeAssert (.iface 3 v) 20 149 true).run Tryd.prog w = .ok (.tuple #[.nilIface, .bool false]) w := run_typeAssert_lacksB Tryd.underlying149 (by kernel_rfl) (by kernel_rfl) v 20 w
theorem ti149_103 (v : Value) (w : World) : (Instr.typeAssert (.iface 103 v) 20 149 true).run Tryd.prog w = .ok (.tuple #[.nilIface, .bool false]) w := run_typeAssert_lacksB Tryd.underlying149 (by kernel_rfl) (by kernel_rfl) v 20 w
theorem ti149_2 (v : Value) (w : World) : (Instr.typeAssert (.iface 2 v) 20 149 true).run Tryd.prog w = .ok (.tuple #[.nilIface, .bool false]) w := run_typeAssert_lacksB Tryd.underlying149 (by kernel_rfl) (by kernel_rfl) v 20 w
theorem ti149_22 (v : Value) (w : World) : (Instr.typeAssert (.iface 22 v) 20 149 true).run Tryd.prog w = .ok (.tuple #[.nilIface, .bool false]) w := run_typeAssert_lacksB Tryd.underlying149 (by kernel_rfl) (by kernel_rfl) v 20 w
theorem ti149_4 (v : Value) (w : World) : (Instr.typeAssert (.iface 4 v) 20 149 true).run Tryd.prog w = .ok (.tuple #[.nilIface, .bool false]) w := run_typeAssert_lacksB Tryd.underlying149 (by kernel_rfl) (by kernel_rfl) v 20 w
theorem ti149_58 (v : Value) (w : World) : (Instr.typeAssert (.iface 58 v) 20 149 true).run Tryd.prog w = .ok (.tuple #[.nilIface, .bool false]) w := run_typeAssert_lacksB Tryd.underlying149 (by kernel_rfl) (by kernel_rfl) v 20 w
theorem ti149_68 (v : Value) (w : World) : (Instr.typeAssert (.iface 68 v) 20 149 true).run Tryd.prog w = .ok (.tuple #[.nilIface, .bool false]) w := run_typeAssert_lacksB Tryd.underlying149 (by kernel_rfl) (by kernel_rfl) v 20 w
theorem ti149_5 (v : Value) (w : World) : (Instr.typeAssert (.iface 5 v) 20 149 true).run Tryd.prog w = .ok (.tuple #[.nilIface, .bool false]) w := run_typeAssert_lacksB Tryd.underlying149 (by kernel_rfl) (by kernel_rfl) v 20 w
theorem ti149_104 (v : Value) (w : World) : (Instr.typeAssert (.iface 104 v) 20 149 true).run Tryd.prog w = .ok (.tuple #[.nilIface, .bool false]) w := run_typeAssert_lacksB Tryd.underlying149 (by kernel_rfl) (by kernel_rfl) v 20 w
theorem ti149_105 (v : Value) (w : World) : (Instr.typeAssert (.iface 105 v) 20 149 true).run Tryd.prog w = .ok (.tuple #[.nilIface, .bool false]) w := run_typeAssert_lacksB Tryd.underlying149 (by kernel_rfl) (by kernel_rfl) v 20 w
theorem ti149_12 (v : Value) (w : World) : (Instr.typeAssert (.iface 12 v) 20 149 true).run Tryd.prog w = .ok (.tuple #[.nilIface, .bool false]) w := run_typeAssert_lacksB Tryd.underlying149 (by kernel_rfl) (by kernel_rfl) v 20 w
theorem ti149_106 (v : Value) (w : World) : (Instr.typeAssert (.iface 106 v) 20 149 true).run Tryd.prog w = .ok (.tuple #[.nilIface, .bool false]) w := run_typeAssert_lacksB Tryd.underlying149 (by kernel_rfl) (by kernel_rfl) v 20 w
theorem ti149_107 (v : Value) (w : World) : (Instr.typeAssert (.iface 107 v) 20 149 true).run Tryd.prog w = .ok (.tuple #[.nilIface, .bool false]) w := run_typeAssert_lacksB Tryd.underlying149 (by kernel_rfl) (by kernel_rfl) v 20 w
theorem ti149_21 (v : Value) (w : World) : (Instr.typeAssert (.iface 21 v) 20 149 true).run Tryd.prog w = .ok (.tuple #[.nilIface, .bool false]) w := run_typeAssert_lacksB Tryd.underlying149 (by kernel_rfl) (by kernel_rfl) v 20 w
theorem ti149_44 (v : Value) (w : World) : (Instr.typeAssert (.iface 44 v) 20 149 true).run Tryd.prog w = .ok (.tuple #[.nilIface, .bool false]) w := run_typeAssert_lacksB Tryd.underlying149 (by kernel_rfl) (by kernel_rfl) v 20 w
theorem ti149_108 (v : Value) (w : World) : (Instr.typeAssert (.iface 108 v) 20 149 true).run Tryd.prog w = .ok (.tuple #[.nilIface, .bool false]) w := run_typeAssert_lacksB Tryd.underlying149 (by kernel_rfl) (by kernel_rfl) v 20 w
theorem ti149_61 (v : Value) (w : World) : (Instr.typeAssert (.iface 61 v) 20 149 true).run Tryd.prog w = .ok (.tuple #[.nilIface, .bool false]) w := run_typeAssert_lacksB Tryd.underlying149 (by kernel_rfl) (by kernel_rfl) v 20 w
theorem ti149_90 (v : Value) (w : World) : (Instr.typeAssert (.iface 90 v) 20 149 true).run Tryd.prog w = .ok (.tuple #[.nilIface, .bool false]) w := run_typeAssert_lacksB Tryd.underlying149 (by kernel_rfl) (by kernel_rfl) v 20 w
theorem ti149_51 (v : Value) (w : World) : (Instr.typeAssert (.iface 51 v) 20 149 true).run Tryd.prog w = .ok (.tuple #[.nilIface, .bool false]) w := run_typeAssert_lacksB Tryd.underlying149 (by kernel_rfl) (by kernel_rfl) v 20 w
theorem ti149_99 (v : Value) (w : World) : (Instr.typeAssert (.iface 99 v) 20 149 true).run Tryd.prog w = .ok (.tuple #[.nilIface, .bool false]) w := run_typeAssert_lacksB Tryd.underlying149 (by kernel_rfl) (by kernel_rfl) v 20 w
theorem ti149_100 (v : Value) (w : World) : (Instr.typeAssert (.iface 100 v) 20 149 true).run Tryd.prog w = .ok (.tuple #[.nilIface, .bool false]) w := run_typeAssert_lacksB Tryd.underlying149 (by kernel_rfl) (by kernel_rfl) v 20 w
theorem ti149_96 (v : Value) (w : World) : (Instr.typeAssert (.iface 96 v) 20 149 true).run Tryd.prog w = .ok (.tuple #[.nilIface, .bool false]) w := run_typeAssert_lacksB Tryd.underlying149 (by kernel_rfl) (by kernel_rfl) v 20 w
theorem ti149_109 (v : Value) (w : World) : (Instr.typeAssert (.iface 109 v) 20 149 true).run Tryd.prog w = .ok (.tuple #[.nilIface, .bool false]) w := run_typeAssert_lacksB Tryd.underlying149 (by kernel_rfl) (by kernel_rfl) v 20 w
theorem ti149_111 (v : Value) (w : World) : (Instr.typeAssert (.iface 111 v) 20 149 true).run Tryd.prog w = .ok (.tuple #[.iface 111 v, .bool true]) w := run_typeAssert_hasB Tryd.underlying149 (by kernel_rfl) v 20 w
theorem tj149_111 (v : Value) (w : World) : (Instr.typeAssert (.iface 111 v) 20 149 false).run Tryd.prog w = .ok (.iface 111 v) w := by kernel_rfl
theorem ti149_112 (v : Value) (w : World) : (Instr.typeAssert (.iface 112 v) 20 149 true).run Tryd.prog w = .ok (.tuple #[.nilIface, .bool false]) w := run_typeAssert_lacksB Tryd.underlying149 (by kernel_rfl) (by kernel_rfl) v 20 w
theorem ti149_113 (v : Value) (w : World) : (Instr.typeAssert (.iface 113 v) 20 149 true).run Tryd.prog w = .ok (.tuple #[.nilIface, .bool false]) w := run_typeAssert_lacksB Tryd.underlying149 (by kernel_rfl) (by kernel_rfl) v 20 w
theorem ti149_114 (v : Value) (w : World) : (Instr.typeAssert (.iface 114 v) 20 149 true).run Tryd.prog w = .ok (.tuple #[.nilIface, .bool false]) w := run_typeAssert_lacksB Tryd.underlying149 (by kernel_rfl) (by kernel_rfl) v 20 w
theorem ti149_115 (v : Value) (w : World) : (Instr.typeAssert (.iface 115 v) 20 149 true).run Tryd.prog w = .ok (.tuple #[.nilIface, .bool false]) w := run_typeAssert_lacksB Tryd.underlying149 (by kernel_rfl) (by kernel_rfl) v 20 w
theorem ti149_116 (v : Value) (w : World) : (Instr.typeAssert (.iface 116 v) 20 149 true).run Tryd.prog w = .ok (.tuple #[.nilIface, .bool false]) w := run_typeAssert_lacksB Tryd.underlying149 (by kernel_rfl) (by kernel_rfl) v 20 w
theorem ti149_117 (v : Value) (w : World) : (Instr.typeAssert (.iface 117 v) 20 149 true).run Tryd.prog w = .ok (.tuple #[.nilIface, .bool false]) w := run_typeAssert_lacksB Tryd.underlying149 (by kernel_rfl) (by kernel_rfl) v 20 w
theorem ti149_119 (v : Value) (w : World) : (Instr.typeAssert (.iface 119 v) 20 149 true).run Tryd.prog w = .ok (.tuple #[.nilIface, .bool false]) w := run_typeAssert_lacksB Tryd.underlying149 (by kernel_rfl) (by kernel_rfl) v 20 w
theorem ti149_120 (v : Value) (w : World) : (Instr.typeAssert (.iface 120 v) 20 149 true).run Tryd.prog w = .ok (.tuple #[.nilIface, .bool false]) w := run_typeAssert_lacksB Tryd.underlying149 (by kernel_rfl) (by kernel_rfl) v 20 w
theorem ti149_121 (v : Value) (w : World) : (Instr.typeAssert (.iface 121 v) 20 149 true).run Tryd.prog w = .ok (.tuple #[.nilIface, .bool false]) w := run_typeAssert_lacksB Tryd.underlying149 (by kernel_rfl) (by kernel_rfl) v 20 w
theorem ti149_122 (v : Value) (w : World) : (Instr.typeAssert (.iface 122 v) 20 149 true).run Tryd.prog w = .ok (.tuple #[.nilIface, .bool false]) w := run_typeAssert_lacksB Tryd.underlying149 (by kernel_rfl) (by kernel_rfl) v 20 w
theorem ti149_123 (v : Value) (w : World) : (Instr.typeAssert (.iface 123 v) 20 149 true).run Tryd.prog w = .ok (.tuple #[.nilIface, .bool false]) w := run_typeAssert_lacksB Tryd.underlying149 (by kernel_rfl) (by kernel_rfl) v 20 w
theorem ti149_127 (v : Value) (w : World) : (Instr.typeAssert (.iface 127 v) 20 149 true).run Tryd.prog w = .ok (.tuple #[.iface 127 v, .bool true]) w := run_typeAssert_hasB Tryd.underlying149 (by kernel_rfl) v 20 w
theorem tj149_127 (v : Value) (w : World) : (Instr.typeAssert (.iface 127 v) 20 149 false).run Tryd.prog w = .ok (.iface 127 v) w := by kernel_rfl
theorem ti149_55 (v : Value) (w : World) : (Instr.typeAssert (.iface 55 v) 20 149 true).run Tryd.prog w = .ok (.tuple #[.nilIface, .bool false]) w := run_typeAssert_lacksB Tryd.underlying149 (by kernel_rfl) (by kernel_rfl) v 20 w
theorem ti149_86 (v : Value) (w : World) : (Instr.typeAssert (.iface 86 v) 20 149 true).run Tryd.prog w = .ok (.tuple #[.nilIface, .bool false]) w := run_typeAssert_lacksB Tryd.underlying149 (by kernel_rfl) (by kernel_rfl) v 20 w
theorem ti149_88 (v : Value) (w : World) : (Instr.typeAssert (.iface 88 v) 20 149 true).run Tryd.prog w = .ok (.tuple #[.nilIface, .bool false]) w := run_typeAssert_lacksB Tryd.underlying149 (by kernel_rfl) (by kernel_rfl) v 20 w
theorem tm149 (w : World) : (Instr.typeAssert .nilIface 20 149 true).run Tryd.prog w = .ok (.tuple #[.nilIface, .bool false]) w := by kernel_rfl
theorem mk9 (v : Value) (w : World) : (Instr.makeInterface 9 v).run Tryd.prog w = .ok (.iface 9 v) w := by kernel_rfl
theorem mk3 (v : Value) (w : World) : (Instr.makeInterface 3 v).run Tryd.prog w = .ok (.iface 3 v) w := by kernel_rfl
theorem mk103 (v : Value) (w : World) : (Instr.makeInterface 103 v).run Tryd.prog w = .ok (.iface 103 v) w := by kernel_rfl
theorem mk2 (v : Value) (w : World) : (Instr.makeInterface 2 v).run Tryd.prog w = .ok (.iface 2 v) w := by kernel_rfl
theorem mk22 (v : Value) (w : World) : (Instr.makeInterface 22 v).run Tryd.prog w = .ok (.iface 22 v) w := by kernel_rfl
theorem mk4 (v : Value) (w : World) : (Instr.makeInterface 4 v).run Tryd.prog w = .ok (.iface 4 v) w := by kernel_rfl
theorem mk58 (v : Value) (w : World) : (Instr.makeInterface 58 v).run Tryd.prog w = .ok (.iface 58 v) w := by kernel_rfl
theorem mk68 (v : Value) (w : World) : (Instr.makeInterface 68 v).run Tryd.prog w = .ok (.iface 68 v) w := by kernel_rfl
theorem mk5 (v : Value) (w : World) : (Instr.makeInterface 5 v).run Tryd.prog w = .ok (.iface 5 v) w := by kernel_rfl
theorem mk104 (v : Value) (w : World) : (Instr.makeInterface 104 v).run Tryd.prog w = .ok (.iface 104 v) w := by kernel_rfl
theorem mk105 (v : Value) (w : World) : (Instr.makeInterface 105 v).run Tryd.prog w = .ok (.iface 105 v) w := by kernel_rfl
theorem mk12 (v : Value) (w : World) : (Instr.makeInterface 12 v).run Tryd.prog w = .ok (.iface 12 v) w := by kernel_rfl
theorem mk106 (v : Value) (w : World) : (Instr.makeInterface 106 v).run Tryd.prog w = .ok (.iface 106 v) w := by kernel_rfl
theorem mk107 (v : Value) (w : World) : (Instr.makeInterface 107 v).run Tryd.prog w = .ok (.iface 107 v) w := by kernel_rfl
theorem mk21 (v : Value) (w : World) : (Instr.makeInterface 21 v).run Tryd.prog w = .ok (.iface 21 v) w := by kernel_rfl
theorem mk44 (v : Value) (w : World) : (Instr.makeInterface 44 v).run Tryd.prog w = .ok (.iface 44 v) w := by kernel_rfl
theorem mk108 (v : Value) (w : World) : (Instr.makeInterface 108 v).run Tryd.prog w = .ok (.iface 108 v) w := by kernel_rfl
theorem mk61 (v : Value) (w : World) : (Instr.makeInterface 61 v).run Tryd.prog w = .ok (.iface 61 v) w := by kernel_rfl
theorem mk90 (v : Value) (w : World) : (Instr.makeInterface 90 v).run Tryd.prog w = .ok (.iface 90 v) w := by kernel_rfl
theorem mk51 (v : Value) (w : World) : (Instr.makeInterface 51 v).run Tryd.prog w = .ok (.iface 51 v) w := by kernel_rfl
theorem mk99 (v : Value) (w : World) : (Instr.makeInterface 99 v).run Tryd.prog w = .ok (.iface 99 v) w := by kernel_rfl
theorem mk100 (v : Value) (w : World) : (Instr.makeInterface 100 v).run Tryd.prog w = .ok (.iface 100 v) w := by kernel_rfl
theorem mk96 (v : Value) (w : World) : (Instr.makeInterface 96 v).run Tryd.prog w = .ok (.iface 96 v) w := by kernel_rfl
theorem mk109 (v : Value) (w : World) : (Instr.makeInterface 109 v).run Tryd.prog w = .ok (.iface 109 v) w := by kernel_rfl
theorem mk111 (v : Value) (w : World) : (Instr.makeInterface 111 v).run Tryd.prog w = .ok (.iface 111 v) w := by kernel_rfl
theorem mk112 (v : Value) (w : World) : (Instr.makeInterface 112 v).run Tryd.prog w = .ok (.iface 112 v) w := by kernel_rfl
theorem mk113 (v : Value) (w : World) : (Instr.makeInterface 113 v).run Tryd.prog w = .ok (.iface 113 v) w := by kernel_rfl
theorem mk114 (v : Value) (w : World) : (Instr.makeInterface 114 v).run Tryd.prog w = .ok (.iface 114 v) w := by kernel_rfl
theorem mk115 (v : Value) (w : World) : (Instr.makeInterface 115 v).run Tryd.prog w = .ok (.iface 115 v) w := by kernel_rfl
theorem mk116 (v : Value) (w : World) : (Instr.makeInterface 116 v).run Tryd.prog w = .ok (.iface 116 v) w := by kernel_rfl
theorem mk117 (v : Value) (w : World) : (Instr.makeInterface 117 v).run Tryd.prog w = .ok (.iface 117 v) w := by kernel_rfl
theorem mk119 (v : Value) (w : World) : (Instr.makeInterface 119 v).run Tryd.prog w = .ok (.iface 119 v) w := by kernel_rfl
theorem mk120 (v : Value) (w : World) : (Instr.makeInterface 120 v).run Tryd.prog w = .ok (.iface 120 v) w := by kernel_rfl
theorem mk121 (v : Value) (w : World) : (Instr.makeInterface 121 v).run Tryd.prog w = .ok (.iface 121 v) w := by kernel_rfl
theorem mk122 (v : Value) (w : World) : (Instr.makeInterface 122 v).run Tryd.prog w = .ok (.iface 122 v) w := by kernel_rfl
theorem mk123 (v : Value) (w : World) : (Instr.makeInterface 123 v).run Tryd.prog w = .ok (.iface 123 v) w := by kernel_rfl
theorem mk127 (v : Value) (w : World) : (Instr.makeInterface 127 v).run Tryd.prog w = .ok (.iface 127 v) w := by kernel_rfl
theorem mk55 (v : Value) (w : World) : (Instr.makeInterface 55 v).run Tryd.prog w = .ok (.iface 55 v) w := by kernel_rfl
theorem mk86 (v : Value) (w : World) : (Instr.makeInterface 86 v).run Tryd.prog w = .ok (.iface 86 v) w := by kernel_rfl
theorem mk88 (v : Value) (w : World) : (Instr.makeInterface 88 v).run Tryd.prog w = .ok (.iface 88 v) w := by kernel_rfl

attribute [go_sem] ta9_20 tn9_20 ty9 ta3_20 tn3_20 ty3 ta103_20 tn103_20 ty103 ta2_20 tn2_20 ty2 ta22_20 tn22_20 ty22 ta4_20 tn4_20 ty4 ta58_20 tn58_20 ty58 ta68_20 tn68_20 ty68 ta5_20 tn5_20 ty5 ta104_20 tn104_20 ty104 ta105_20 tn105_20 ty105 ta12_20 tn12_20 ty12 ta106_20 tn106_20 ty106 ta107_20 tn107_20 ty107 ta21_20 tn21_20 ty21 ta44_20 tn44_20 ty44 ta108_20 tn108_20 ty108 ta61_20 tn61_20 ty61 ta90_20 tn90_20 ty90 ta51_20 tn51_20 ty51 ta99_20 tn99_20 ty99 ta100_20 tn100_20 ty100 ta96_20 tn96_20 ty96 ta109_20 tn109_20 ty109 ta111_20 tn111_20 ty111 ta112_20 tn112_20 ty112 ta113_20 tn113_20 ty113 ta114_20 tn114_20 ty114 ta115_20 tn115_20 ty115 ta116_20 tn116_20 ty116 ta117_20 tn117_20 ty117 ta119_20 tn119_20 ty119 ta120_20 tn120_20 ty120 ta121_20 tn121_20 ty121 ta122_20 tn122_20 ty122 ta123_20 tn123_20 ty123 ta127_20 tn127_20 ty127 ta55_20 tn55_20 ty55 ta86_20 tn86_20 ta86_65 tn86_65 ty86 ta88_20 tn88_20 ta88_65 tn88_65 ty88 ti65_9 ti65_3 ti65_103 ti65_2 ti65_22 ti65_4 ti65_58 ti65_68 ti65_5 ti65_104 ti65_105 ti65_12 ti65_106 ti65_107 ti65_21 ti65_44 ti65_108 ti65_61 ti65_90 ti65_51 ti65_99 ti65_100 ti65_96 ti65_109 ti65_111 ti65_112 ti65_113 ti65_114 ti65_115 ti65_116 ti65_117 ti65_119 ti65_120 ti65_121 ti65_122 ti65_123 ti65_127 ti65_55 ti65_86 tj65_86 ti65_88 tj65_88 tm65 ti149_9 ti149_3 ti149_103 ti149_2 ti149_22 ti149_4 ti149_58 ti149_68 ti149_5 ti149_104 ti149_105 ti149_12 ti149_106 ti149_107 ti149_21 ti149_44 ti149_108 ti149_61 ti149_90 ti149_51 ti149_99 ti149_100 ti149_96 ti149_109 ti149_111 tj149_111 ti149_112 ti149_113 ti149_114 ti149_115 ti149_116 ti149_117 ti149_119 ti149_120 ti149_121 ti149_122 ti149_123 ti149_127 tj149_127 ti149_55 ti149_86 ti149_88 tm149 mk9 mk3 mk103 mk2 mk22 mk4 mk58 mk68 mk5 mk104 mk105 mk12 mk106 mk107 mk21 mk44 mk108 mk61 mk90 mk51 mk99 mk100 mk96 mk109 mk111 mk112 mk113 mk114 mk115 mk116 mk117 mk119 mk120 mk121 mk122 mk123 mk127 mk55 mk86 mk88
end Go.Proofs.YtcgdnjigocknbaaDoor.Facts
