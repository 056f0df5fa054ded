/- What type assertions and conversions to interface values come to: closed facts of this program, each by the kernel, as rules of the walk. Written by a program of mine (facts.py). -/
import Derived.Test.YtdeomgfapffidaaGreatDoorProg
import Derived.WalkKit
import Derived.Stop.Asserts
import Derived.WalkLawsBesides
namespace Go.Proofs.YtdeomgfapffidaaGreatDoor.Facts
open Go

theorem tz9 (w : World) : (do pure (Value.tuple #[← zeroValue 9, .bool false]) : Sem Value).run Tryz.prog w = .ok (.tuple #[.string ⟨#[]⟩, .bool false]) w := by kernel_rfl
theorem ta9_20 (u : TypeId) (v : Value) (w : World) : (Instr.typeAssert (.iface u v) 20 9 true).run Tryz.prog w = .ok (.tuple (if u = 9 then #[v, .bool true] else #[.string ⟨#[]⟩, .bool false])) w := by
  have e : (Instr.typeAssert (.iface u v) 20 9 true).run Tryz.prog w = (if u = 9 then (pure (Value.tuple #[v, .bool true]) : Sem Value) else (do pure (Value.tuple #[← zeroValue 9, .bool false]))).run Tryz.prog w := by kernel_rfl
  rw [e]; by_cases h : u = 9
  · rw [if_pos h, if_pos h]; rfl
  · rw [if_neg h, if_neg h]; exact tz9 w
theorem tn9_20 (w : World) : (Instr.typeAssert .nilIface 20 9 true).run Tryz.prog w = .ok (.tuple #[.string ⟨#[]⟩, .bool false]) w := by kernel_rfl
theorem ty9 (v : Value) (w : World) : (Instr.typeAssert (.iface 9 v) 20 9 false).run Tryz.prog w = .ok v w := by kernel_rfl
theorem tz3 (w : World) : (do pure (Value.tuple #[← zeroValue 3, .bool false]) : Sem Value).run Tryz.prog w = .ok (.tuple #[.int .i64 (0), .bool false]) w := by kernel_rfl
theorem ta3_20 (u : TypeId) (v : Value) (w : World) : (Instr.typeAssert (.iface u v) 20 3 true).run Tryz.prog w = .ok (.tuple (if u = 3 then #[v, .bool true] else #[.int .i64 (0), .bool false])) w := by
  have e : (Instr.typeAssert (.iface u v) 20 3 true).run Tryz.prog w = (if u = 3 then (pure (Value.tuple #[v, .bool true]) : Sem Value) else (do pure (Value.tuple #[← zeroValue 3, .bool false]))).run Tryz.prog w := by kernel_rfl
  rw [e]; by_cases h : u = 3
  · rw [if_pos h, if_pos h]; rfl
  · rw [if_neg h, if_neg h]; exact tz3 w
theorem tn3_20 (w : World) : (Instr.typeAssert .nilIface 20 3 true).run Tryz.prog w = .ok (.tuple #[.int .i64 (0), .bool false]) w := by kernel_rfl
theorem ty3 (v : Value) (w : World) : (Instr.typeAssert (.iface 3 v) 20 3 false).run Tryz.prog w = .ok v w := by kernel_rfl
theorem tz176 (w : World) : (do pure (Value.tuple #[← zeroValue 176, .bool false]) : Sem Value).run Tryz.prog w = .ok (.tuple #[.int .u64 (0), .bool false]) w := by kernel_rfl
theorem ta176_20 (u : TypeId) (v : Value) (w : World) : (Instr.typeAssert (.iface u v) 20 176 true).run Tryz.prog w = .ok (.tuple (if u = 176 then #[v, .bool true] else #[.int .u64 (0), .bool false])) w := by
  have e : (Instr.typeAssert (.iface u v) 20 176 true).run Tryz.prog w = (if u = 176 then (pure (Value.tuple #[v, .bool true]) : Sem Value) else (do pure (Value.tuple #[← zeroValue 176, .bool false]))).run Tryz.prog w := by kernel_rfl
  rw [e]; by_cases h : u = 176
  · rw [if_pos h, if_pos h]; rfl
  · rw [if_neg h, if_neg h]; exact tz176 w
theorem tn176_20 (w : World) : (Instr.typeAssert .nilIface 20 176 true).run Tryz.prog w = .ok (.tuple #[.int .u64 (0), .bool false]) w := by kernel_rfl
theorem ty176 (v : Value) (w : World) : (Instr.typeAssert (.iface 176 v) 20 176 false).run Tryz.prog w = .ok v w := by kernel_rfl
theorem tz2 (w : World) : (do pure (Value.tuple #[← zeroValue 2, .bool false]) : Sem Value).run Tryz.prog w = .ok (.tuple #[.int .i64 (0), .bool false]) w := by kernel_rfl
theorem ta2_20 (u : TypeId) (v : Value) (w : World) : (Instr.typeAssert (.iface u v) 20 2 true).run Tryz.prog w = .ok (.tuple (if u = 2 then #[v, .bool true] else #[.int .i64 (0), .bool false])) w := by
  have e : (Instr.typeAssert (.iface u v) 20 2 true).run Tryz.prog w = (if u = 2 then (pure (Value.tuple #[v, .bool true]) : Sem Value) else (do pure (Value.tuple #[← zeroValue 2, .bool false]))).run Tryz.prog w := by kernel_rfl
  rw [e]; by_cases h : u = 2
  · rw [if_pos h, if_pos h]; rfl
  · rw [if_neg h, if_neg h]; exact tz2 w
theorem tn2_20 (w : World) : (Instr.typeAssert .nilIface 20 2 true).run Tryz.prog w = .ok (.tuple #[.int .i64 (0), .bool false]) w := by kernel_rfl
theorem ty2 (v : Value) (w : World) : (Instr.typeAssert (.iface 2 v) 20 2 false).run Tryz.prog w = .ok v w := by kernel_rfl
theorem tz22 (w : World) : (do pure (Value.tuple #[← zeroValue 22, .bool false]) : Sem Value).run Tryz.prog w = .ok (.tuple #[.int .u64 (0), .bool false]) w := by kernel_rfl
theorem ta22_20 (u : TypeId) (v : Value) (w : World) : (Instr.typeAssert (.iface u v) 20 22 true).run Tryz.prog w = .ok (.tuple (if u = 22 then #[v, .bool true] else #[.int .u64 (0), .bool false])) w := by
  have e : (Instr.typeAssert (.iface u v) 20 22 true).run Tryz.prog w = (if u = 22 then (pure (Value.tuple #[v, .bool true]) : Sem Value) else (do pure (Value.tuple #[← zeroValue 22, .bool false]))).run Tryz.prog w := by kernel_rfl
  rw [e]; by_cases h : u = 22
  · rw [if_pos h, if_pos h]; rfl
  · rw [if_neg h, if_neg h]; exact tz22 w
theorem tn22_20 (w : World) : (Instr.typeAssert .nilIface 20 22 true).run Tryz.prog w = .ok (.tuple #[.int .u64 (0), .bool false]) w := by kernel_rfl
theorem ty22 (v : Value) (w : World) : (Instr.typeAssert (.iface 22 v) 20 22 false).run Tryz.prog w = .ok v w := by kernel_rfl
theorem tz4 (w : World) : (do pure (Value.tuple #[← zeroValue 4, .bool false]) : Sem Value).run Tryz.prog w = .ok (.tuple #[.bool false, .bool false]) w := by kernel_rfl
theorem ta4_20 (u : TypeId) (v : Value) (w : World) : (Instr.typeAssert (.iface u v) 20 4 true).run Tryz.prog w = .ok (.tuple (if u = 4 then #[v, .bool true] else #[.bool false, .bool false])) w := by
  have e : (Instr.typeAssert (.iface u v) 20 4 true).run Tryz.prog w = (if u = 4 then (pure (Value.tuple #[v, .bool true]) : Sem Value) else (do pure (Value.tuple #[← zeroValue 4, .bool false]))).run Tryz.prog w := by kernel_rfl
  rw [e]; by_cases h : u = 4
  · rw [if_pos h, if_pos h]; rfl
  · rw [if_neg h, if_neg h]; exact tz4 w
theorem tn4_20 (w : World) : (Instr.typeAssert .nilIface 20 4 true).run Tryz.prog w = .ok (.tuple #[.bool false, .bool false]) w := by kernel_rfl
theorem ty4 (v : Value) (w : World) : (Instr.typeAssert (.iface 4 v) 20 4 false).run Tryz.prog w = .ok v w := by kernel_rfl
theorem tz128 (w : World) : (do pure (Value.tuple #[← zeroValue 128, .bool false]) : Sem Value).run Tryz.prog w = .ok (.tuple #[.int .i64 (0), .bool false]) w := by kernel_rfl
theorem ta128_20 (u : TypeId) (v : Value) (w : World) : (Instr.typeAssert (.iface u v) 20 128 true).run Tryz.prog w = .ok (.tuple (if u = 128 then #[v, .bool true] else #[.int .i64 (0), .bool false])) w := by
  have e : (Instr.typeAssert (.iface u v) 20 128 true).run Tryz.prog w = (if u = 128 then (pure (Value.tuple #[v, .bool true]) : Sem Value) else (do pure (Value.tuple #[← zeroValue 128, .bool false]))).run Tryz.prog w := by kernel_rfl
  rw [e]; by_cases h : u = 128
  · rw [if_pos h, if_pos h]; rfl
  · rw [if_neg h, if_neg h]; exact tz128 w
theorem tn128_20 (w : World) : (Instr.typeAssert .nilIface 20 128 true).run Tryz.prog w = .ok (.tuple #[.int .i64 (0), .bool false]) w := by kernel_rfl
theorem ty128 (v : Value) (w : World) : (Instr.typeAssert (.iface 128 v) 20 128 false).run Tryz.prog w = .ok v w := by kernel_rfl
theorem tz106 (w : World) : (do pure (Value.tuple #[← zeroValue 106, .bool false]) : Sem Value).run Tryz.prog w = .ok (.tuple #[.agg #[.int .i64 (0), .int .i64 (0), .int .i64 (0), .string ⟨#[]⟩], .bool false]) w := by kernel_rfl
theorem ta106_20 (u : TypeId) (v : Value) (w : World) : (Instr.typeAssert (.iface u v) 20 106 true).run Tryz.prog w = .ok (.tuple (if u = 106 then #[v, .bool true] else #[.agg #[.int .i64 (0), .int .i64 (0), .int .i64 (0), .string ⟨#[]⟩], .bool false])) w := by
  have e : (Instr.typeAssert (.iface u v) 20 106 true).run Tryz.prog w = (if u = 106 then (pure (Value.tuple #[v, .bool true]) : Sem Value) else (do pure (Value.tuple #[← zeroValue 106, .bool false]))).run Tryz.prog w := by kernel_rfl
  rw [e]; by_cases h : u = 106
  · rw [if_pos h, if_pos h]; rfl
  · rw [if_neg h, if_neg h]; exact tz106 w
theorem tn106_20 (w : World) : (Instr.typeAssert .nilIface 20 106 true).run Tryz.prog w = .ok (.tuple #[.agg #[.int .i64 (0), .int .i64 (0), .int .i64 (0), .string ⟨#[]⟩], .bool false]) w := by kernel_rfl
theorem ty106 (v : Value) (w : World) : (Instr.typeAssert (.iface 106 v) 20 106 false).run Tryz.prog w = .ok v w := by kernel_rfl
theorem tz5 (w : World) : (do pure (Value.tuple #[← zeroValue 5, .bool false]) : Sem Value).run Tryz.prog w = .ok (.tuple #[.int .u8 (0), .bool false]) w := by kernel_rfl
theorem ta5_20 (u : TypeId) (v : Value) (w : World) : (Instr.typeAssert (.iface u v) 20 5 true).run Tryz.prog w = .ok (.tuple (if u = 5 then #[v, .bool true] else #[.int .u8 (0), .bool false])) w := by
  have e : (Instr.typeAssert (.iface u v) 20 5 true).run Tryz.prog w = (if u = 5 then (pure (Value.tuple #[v, .bool true]) : Sem Value) else (do pure (Value.tuple #[← zeroValue 5, .bool false]))).run Tryz.prog w := by kernel_rfl
  rw [e]; by_cases h : u = 5
  · rw [if_pos h, if_pos h]; rfl
  · rw [if_neg h, if_neg h]; exact tz5 w
theorem tn5_20 (w : World) : (Instr.typeAssert .nilIface 20 5 true).run Tryz.prog w = .ok (.tuple #[.int .u8 (0), .bool false]) w := by kernel_rfl
theorem ty5 (v : Value) (w : World) : (Instr.typeAssert (.iface 5 v) 20 5 false).run Tryz.prog w = .ok v w := by kernel_rfl
theorem tz177 (w : World) : (do pure (Value.tuple #[← zeroValue 177, .bool false]) : Sem Value).run Tryz.prog w = .ok (.tuple #[.int .u16 (0), .bool false]) w := by kernel_rfl
theorem ta177_20 (u : TypeId) (v : Value) (w : World) : (Instr.typeAssert (.iface u v) 20 177 true).run Tryz.prog w = .ok (.tuple (if u = 177 then #[v, .bool true] else #[.int .u16 (0), .bool false])) w := by
  have e : (Instr.typeAssert (.iface u v) 20 177 true).run Tryz.prog w = (if u = 177 then (pure (Value.tuple #[v, .bool true]) : Sem Value) else (do pure (Value.tuple #[← zeroValue 177, .bool false]))).run Tryz.prog w := by kernel_rfl
  rw [e]; by_cases h : u = 177
  · rw [if_pos h, if_pos h]; rfl
  · rw [if_neg h, if_neg h]; exact tz177 w
theorem tn177_20 (w : World) : (Instr.typeAssert .nilIface 20 177 true).run Tryz.prog w = .ok (.tuple #[.int .u16 (0), .bool false]) w := by kernel_rfl
theorem ty177 (v : Value) (w : World) : (Instr.typeAssert (.iface 177 v) 20 177 false).run Tryz.prog w = .ok v w := by kernel_rfl
theorem tz178 (w : World) : (do pure (Value.tuple #[← zeroValue 178, .bool false]) : Sem Value).run Tryz.prog w = .ok (.tuple #[.int .u32 (0), .bool false]) w := by kernel_rfl
theorem ta178_20 (u : TypeId) (v : Value) (w : World) : (Instr.typeAssert (.iface u v) 20 178 true).run Tryz.prog w = .ok (.tuple (if u = 178 then #[v, .bool true] else #[.int .u32 (0), .bool false])) w := by
  have e : (Instr.typeAssert (.iface u v) 20 178 true).run Tryz.prog w = (if u = 178 then (pure (Value.tuple #[v, .bool true]) : Sem Value) else (do pure (Value.tuple #[← zeroValue 178, .bool false]))).run Tryz.prog w := by kernel_rfl
  rw [e]; by_cases h : u = 178
  · rw [if_pos h, if_pos h]; rfl
  · rw [if_neg h, if_neg h]; exact tz178 w
theorem tn178_20 (w : World) : (Instr.typeAssert .nilIface 20 178 true).run Tryz.prog w = .ok (.tuple #[.int .u32 (0), .bool false]) w := by kernel_rfl
theorem ty178 (v : Value) (w : World) : (Instr.typeAssert (.iface 178 v) 20 178 false).run Tryz.prog w = .ok v w := by kernel_rfl
theorem tz12 (w : World) : (do pure (Value.tuple #[← zeroValue 12, .bool false]) : Sem Value).run Tryz.prog w = .ok (.tuple #[.int .u64 (0), .bool false]) w := by kernel_rfl
theorem ta12_20 (u : TypeId) (v : Value) (w : World) : (Instr.typeAssert (.iface u v) 20 12 true).run Tryz.prog w = .ok (.tuple (if u = 12 then #[v, .bool true] else #[.int .u64 (0), .bool false])) w := by
  have e : (Instr.typeAssert (.iface u v) 20 12 true).run Tryz.prog w = (if u = 12 then (pure (Value.tuple #[v, .bool true]) : Sem Value) else (do pure (Value.tuple #[← zeroValue 12, .bool false]))).run Tryz.prog w := by kernel_rfl
  rw [e]; by_cases h : u = 12
  · rw [if_pos h, if_pos h]; rfl
  · rw [if_neg h, if_neg h]; exact tz12 w
theorem tn12_20 (w : World) : (Instr.typeAssert .nilIface 20 12 true).run Tryz.prog w = .ok (.tuple #[.int .u64 (0), .bool false]) w := by kernel_rfl
theorem ty12 (v : Value) (w : World) : (Instr.typeAssert (.iface 12 v) 20 12 false).run Tryz.prog w = .ok v w := by kernel_rfl
theorem tz179 (w : World) : (do pure (Value.tuple #[← zeroValue 179, .bool false]) : Sem Value).run Tryz.prog w = .ok (.tuple #[.int .i8 (0), .bool false]) w := by kernel_rfl
theorem ta179_20 (u : TypeId) (v : Value) (w : World) : (Instr.typeAssert (.iface u v) 20 179 true).run Tryz.prog w = .ok (.tuple (if u = 179 then #[v, .bool true] else #[.int .i8 (0), .bool false])) w := by
  have e : (Instr.typeAssert (.iface u v) 20 179 true).run Tryz.prog w = (if u = 179 then (pure (Value.tuple #[v, .bool true]) : Sem Value) else (do pure (Value.tuple #[← zeroValue 179, .bool false]))).run Tryz.prog w := by kernel_rfl
  rw [e]; by_cases h : u = 179
  · rw [if_pos h, if_pos h]; rfl
  · rw [if_neg h, if_neg h]; exact tz179 w
theorem tn179_20 (w : World) : (Instr.typeAssert .nilIface 20 179 true).run Tryz.prog w = .ok (.tuple #[.int .i8 (0), .bool false]) w := by kernel_rfl
theorem ty179 (v : Value) (w : World) : (Instr.typeAssert (.iface 179 v) 20 179 false).run Tryz.prog w = .ok v w := by kernel_rfl
theorem tz180 (w : World) : (do pure (Value.tuple #[← zeroValue 180, .bool false]) : Sem Value).run Tryz.prog w = .ok (.tuple #[.int .i16 (0), .bool false]) w := by kernel_rfl
theorem ta180_20 (u : TypeId) (v : Value) (w : World) : (Instr.typeAssert (.iface u v) 20 180 true).run Tryz.prog w = .ok (.tuple (if u = 180 then #[v, .bool true] else #[.int .i16 (0), .bool false])) w := by
  have e : (Instr.typeAssert (.iface u v) 20 180 true).run Tryz.prog w = (if u = 180 then (pure (Value.tuple #[v, .bool true]) : Sem Value) else (do pure (Value.tuple #[← zeroValue 180, .bool false]))).run Tryz.prog w := by kernel_rfl
  rw [e]; by_cases h : u = 180
  · rw [if_pos h, if_pos h]; rfl
  · rw [if_neg h, if_neg h]; exact tz180 w
theorem tn180_20 (w : World) : (Instr.typeAssert .nilIface 20 180 true).run Tryz.prog w = .ok (.tuple #[.int .i16 (0), .bool false]) w := by kernel_rfl
theorem ty180 (v : Value) (w : World) : (Instr.typeAssert (.iface 180 v) 20 180 false).run Tryz.prog w = .ok v w := by kernel_rfl
theorem tz21 (w : World) : (do pure (Value.tuple #[← zeroValue 21, .bool false]) : Sem Value).run Tryz.prog w = .ok (.tuple #[.int .i32 (0), .bool false]) w := by kernel_rfl
theorem ta21_20 (u : TypeId) (v : Value) (w : World) : (Instr.typeAssert (.iface u v) 20 21 true).run Tryz.prog w = .ok (.tuple (if u = 21 then #[v, .bool true] else #[.int .i32 (0), .bool false])) w := by
  have e : (Instr.typeAssert (.iface u v) 20 21 true).run Tryz.prog w = (if u = 21 then (pure (Value.tuple #[v, .bool true]) : Sem Value) else (do pure (Value.tuple #[← zeroValue 21, .bool false]))).run Tryz.prog w := by kernel_rfl
  rw [e]; by_cases h : u = 21
  · rw [if_pos h, if_pos h]; rfl
  · rw [if_neg h, if_neg h]; exact tz21 w
theorem tn21_20 (w : World) : (Instr.typeAssert .nilIface 20 21 true).run Tryz.prog w = .ok (.tuple #[.int .i32 (0), .bool false]) w := by kernel_rfl
theorem ty21 (v : Value) (w : World) : (Instr.typeAssert (.iface 21 v) 20 21 false).run Tryz.prog w = .ok v w := by kernel_rfl
theorem tz131 (w : World) : (do pure (Value.tuple #[← zeroValue 131, .bool false]) : Sem Value).run Tryz.prog w = .ok (.tuple #[.float .f64 0, .bool false]) w := by kernel_rfl
theorem ta131_20 (u : TypeId) (v : Value) (w : World) : (Instr.typeAssert (.iface u v) 20 131 true).run Tryz.prog w = .ok (.tuple (if u = 131 then #[v, .bool true] else #[.float .f64 0, .bool false])) w := by
  have e : (Instr.typeAssert (.iface u v) 20 131 true).run Tryz.prog w = (if u = 131 then (pure (Value.tuple #[v, .bool true]) : Sem Value) else (do pure (Value.tuple #[← zeroValue 131, .bool false]))).run Tryz.prog w := by kernel_rfl
  rw [e]; by_cases h : u = 131
  · rw [if_pos h, if_pos h]; rfl
  · rw [if_neg h, if_neg h]; exact tz131 w
theorem tn131_20 (w : World) : (Instr.typeAssert .nilIface 20 131 true).run Tryz.prog w = .ok (.tuple #[.float .f64 0, .bool false]) w := by kernel_rfl
theorem ty131 (v : Value) (w : World) : (Instr.typeAssert (.iface 131 v) 20 131 false).run Tryz.prog w = .ok v w := by kernel_rfl
theorem tz181 (w : World) : (do pure (Value.tuple #[← zeroValue 181, .bool false]) : Sem Value).run Tryz.prog w = .ok (.tuple #[.float .f32 0, .bool false]) w := by kernel_rfl
theorem ta181_20 (u : TypeId) (v : Value) (w : World) : (Instr.typeAssert (.iface u v) 20 181 true).run Tryz.prog w = .ok (.tuple (if u = 181 then #[v, .bool true] else #[.float .f32 0, .bool false])) w := by
  have e : (Instr.typeAssert (.iface u v) 20 181 true).run Tryz.prog w = (if u = 181 then (pure (Value.tuple #[v, .bool true]) : Sem Value) else (do pure (Value.tuple #[← zeroValue 181, .bool false]))).run Tryz.prog w := by kernel_rfl
  rw [e]; by_cases h : u = 181
  · rw [if_pos h, if_pos h]; rfl
  · rw [if_neg h, if_neg h]; exact tz181 w
theorem tn181_20 (w : World) : (Instr.typeAssert .nilIface 20 181 true).run Tryz.prog w = .ok (.tuple #[.float .f32 0, .bool false]) w := by kernel_rfl
theorem ty181 (v : Value) (w : World) : (Instr.typeAssert (.iface 181 v) 20 181 false).run Tryz.prog w = .ok v w := by kernel_rfl
theorem tz88 (w : World) : (do pure (Value.tuple #[← zeroValue 88, .bool false]) : Sem Value).run Tryz.prog w = .ok (.tuple #[.slice none 0 0, .bool false]) w := by kernel_rfl
theorem ta88_20 (u : TypeId) (v : Value) (w : World) : (Instr.typeAssert (.iface u v) 20 88 true).run Tryz.prog w = .ok (.tuple (if u = 88 then #[v, .bool true] else #[.slice none 0 0, .bool false])) w := by
  have e : (Instr.typeAssert (.iface u v) 20 88 true).run Tryz.prog w = (if u = 88 then (pure (Value.tuple #[v, .bool true]) : Sem Value) else (do pure (Value.tuple #[← zeroValue 88, .bool false]))).run Tryz.prog w := by kernel_rfl
  rw [e]; by_cases h : u = 88
  · rw [if_pos h, if_pos h]; rfl
  · rw [if_neg h, if_neg h]; exact tz88 w
theorem tn88_20 (w : World) : (Instr.typeAssert .nilIface 20 88 true).run Tryz.prog w = .ok (.tuple #[.slice none 0 0, .bool false]) w := by kernel_rfl
theorem ty88 (v : Value) (w : World) : (Instr.typeAssert (.iface 88 v) 20 88 false).run Tryz.prog w = .ok v w := by kernel_rfl
theorem tz125 (w : World) : (do pure (Value.tuple #[← zeroValue 125, .bool false]) : Sem Value).run Tryz.prog w = .ok (.tuple #[.int .i64 (0), .bool false]) w := by kernel_rfl
theorem ta125_20 (u : TypeId) (v : Value) (w : World) : (Instr.typeAssert (.iface u v) 20 125 true).run Tryz.prog w = .ok (.tuple (if u = 125 then #[v, .bool true] else #[.int .i64 (0), .bool false])) w := by
  have e : (Instr.typeAssert (.iface u v) 20 125 true).run Tryz.prog w = (if u = 125 then (pure (Value.tuple #[v, .bool true]) : Sem Value) else (do pure (Value.tuple #[← zeroValue 125, .bool false]))).run Tryz.prog w := by kernel_rfl
  rw [e]; by_cases h : u = 125
  · rw [if_pos h, if_pos h]; rfl
  · rw [if_neg h, if_neg h]; exact tz125 w
theorem tn125_20 (w : World) : (Instr.typeAssert .nilIface 20 125 true).run Tryz.prog w = .ok (.tuple #[.int .i64 (0), .bool false]) w := by kernel_rfl
theorem ty125 (v : Value) (w : World) : (Instr.typeAssert (.iface 125 v) 20 125 false).run Tryz.prog w = .ok v w := by kernel_rfl
theorem tz77 (w : World) : (do pure (Value.tuple #[← zeroValue 77, .bool false]) : Sem Value).run Tryz.prog w = .ok (.tuple #[.agg #[.int .u64 (0), .nilIface], .bool false]) w := by kernel_rfl
theorem ta77_20 (u : TypeId) (v : Value) (w : World) : (Instr.typeAssert (.iface u v) 20 77 true).run Tryz.prog w = .ok (.tuple (if u = 77 then #[v, .bool true] else #[.agg #[.int .u64 (0), .nilIface], .bool false])) w := by
  have e : (Instr.typeAssert (.iface u v) 20 77 true).run Tryz.prog w = (if u = 77 then (pure (Value.tuple #[v, .bool true]) : Sem Value) else (do pure (Value.tuple #[← zeroValue 77, .bool false]))).run Tryz.prog w := by kernel_rfl
  rw [e]; by_cases h : u = 77
  · rw [if_pos h, if_pos h]; rfl
  · rw [if_neg h, if_neg h]; exact tz77 w
theorem tn77_20 (w : World) : (Instr.typeAssert .nilIface 20 77 true).run Tryz.prog w = .ok (.tuple #[.agg #[.int .u64 (0), .nilIface], .bool false]) w := by kernel_rfl
theorem ty77 (v : Value) (w : World) : (Instr.typeAssert (.iface 77 v) 20 77 false).run Tryz.prog w = .ok v w := by kernel_rfl
theorem tz197 (w : World) : (do pure (Value.tuple #[← zeroValue 197, .bool false]) : Sem Value).run Tryz.prog w = .ok (.tuple #[.string ⟨#[]⟩, .bool false]) w := by kernel_rfl
theorem ta197_20 (u : TypeId) (v : Value) (w : World) : (Instr.typeAssert (.iface u v) 20 197 true).run Tryz.prog w = .ok (.tuple (if u = 197 then #[v, .bool true] else #[.string ⟨#[]⟩, .bool false])) w := by
  have e : (Instr.typeAssert (.iface u v) 20 197 true).run Tryz.prog w = (if u = 197 then (pure (Value.tuple #[v, .bool true]) : Sem Value) else (do pure (Value.tuple #[← zeroValue 197, .bool false]))).run Tryz.prog w := by kernel_rfl
  rw [e]; by_cases h : u = 197
  · rw [if_pos h, if_pos h]; rfl
  · rw [if_neg h, if_neg h]; exact tz197 w
theorem tn197_20 (w : World) : (Instr.typeAssert .nilIface 20 197 true).run Tryz.prog w = .ok (.tuple #[.string ⟨#[]⟩, .bool false]) w := by kernel_rfl
theorem ty197 (v : Value) (w : World) : (Instr.typeAssert (.iface 197 v) 20 197 false).run Tryz.prog w = .ok v w := by kernel_rfl
theorem tz198 (w : World) : (do pure (Value.tuple #[← zeroValue 198, .bool false]) : Sem Value).run Tryz.prog w = .ok (.tuple #[.agg #[.int .i64 (0), .int .i64 (0), .int .i64 (0), .string ⟨#[]⟩], .bool false]) w := by kernel_rfl
theorem ta198_20 (u : TypeId) (v : Value) (w : World) : (Instr.typeAssert (.iface u v) 20 198 true).run Tryz.prog w = .ok (.tuple (if u = 198 then #[v, .bool true] else #[.agg #[.int .i64 (0), .int .i64 (0), .int .i64 (0), .string ⟨#[]⟩], .bool false])) w := by
  have e : (Instr.typeAssert (.iface u v) 20 198 true).run Tryz.prog w = (if u = 198 then (pure (Value.tuple #[v, .bool true]) : Sem Value) else (do pure (Value.tuple #[← zeroValue 198, .bool false]))).run Tryz.prog w := by kernel_rfl
  rw [e]; by_cases h : u = 198
  · rw [if_pos h, if_pos h]; rfl
  · rw [if_neg h, if_neg h]; exact tz198 w
theorem tn198_20 (w : World) : (Instr.typeAssert .nilIface 20 198 true).run Tryz.prog w = .ok (.tuple #[.agg #[.int .i64 (0), .int .i64 (0), .int .i64 (0), .string ⟨#[]⟩], .bool false]) w := by kernel_rfl
theorem ty198 (v : Value) (w : World) : (Instr.typeAssert (.iface 198 v) 20 198 false).run Tryz.prog w = .ok v w := by kernel_rfl
theorem tz199 (w : World) : (do pure (Value.tuple #[← zeroValue 199, .bool false]) : Sem Value).run Tryz.prog w = .ok (.tuple #[.slice none 0 0, .bool false]) w := by kernel_rfl
theorem ta199_20 (u : TypeId) (v : Value) (w : World) : (Instr.typeAssert (.iface u v) 20 199 true).run Tryz.prog w = .ok (.tuple (if u = 199 then #[v, .bool true] else #[.slice none 0 0, .bool false])) w := by
  have e : (Instr.typeAssert (.iface u v) 20 199 true).run Tryz.prog w = (if u = 199 then (pure (Value.tuple #[v, .bool true]) : Sem Value) else (do pure (Value.tuple #[← zeroValue 199, .bool false]))).run Tryz.prog w := by kernel_rfl
  rw [e]; by_cases h : u = 199
  · rw [if_pos h, if_pos h]; rfl
  · rw [if_neg h, if_neg h]; exact tz199 w
theorem tn199_20 (w : World) : (Instr.typeAssert .nilIface 20 199 true).run Tryz.prog w = .ok (.tuple #[.slice none 0 0, .bool false]) w := by kernel_rfl
theorem ty199 (v : Value) (w : World) : (Instr.typeAssert (.iface 199 v) 20 199 false).run Tryz.prog w = .ok v w := by kernel_rfl
theorem tz182 (w : World) : (do pure (Value.tuple #[← zeroValue 182, .bool false]) : Sem Value).run Tryz.prog w = .ok (.tuple #[.int .i64 (0), .bool false]) w := by kernel_rfl
theorem ta182_20 (u : TypeId) (v : Value) (w : World) : (Instr.typeAssert (.iface u v) 20 182 true).run Tryz.prog w = .ok (.tuple (if u = 182 then #[v, .bool true] else #[.int .i64 (0), .bool false])) w := by
  have e : (Instr.typeAssert (.iface u v) 20 182 true).run Tryz.prog w = (if u = 182 then (pure (Value.tuple #[v, .bool true]) : Sem Value) else (do pure (Value.tuple #[← zeroValue 182, .bool false]))).run Tryz.prog w := by kernel_rfl
  rw [e]; by_cases h : u = 182
  · rw [if_pos h, if_pos h]; rfl
  · rw [if_neg h, if_neg h]; exact tz182 w
theorem tn182_20 (w : World) : (Instr.typeAssert .nilIface 20 182 true).run Tryz.prog w = .ok (.tuple #[.int .i64 (0), .bool false]) w := by kernel_rfl
theorem ty182 (v : Value) (w : World) : (Instr.typeAssert (.iface 182 v) 20 182 false).run Tryz.prog w = .ok v w := by kernel_rfl
theorem tz146 (w : World) : (do pure (Value.tuple #[← zeroValue 146, .bool false]) : Sem Value).run Tryz.prog w = .ok (.tuple #[.agg #[.string ⟨#[]⟩], .bool false]) w := by kernel_rfl
theorem ta146_20 (u : TypeId) (v : Value) (w : World) : (Instr.typeAssert (.iface u v) 20 146 true).run Tryz.prog w = .ok (.tuple (if u = 146 then #[v, .bool true] else #[.agg #[.string ⟨#[]⟩], .bool false])) w := by
  have e : (Instr.typeAssert (.iface u v) 20 146 true).run Tryz.prog w = (if u = 146 then (pure (Value.tuple #[v, .bool true]) : Sem Value) else (do pure (Value.tuple #[← zeroValue 146, .bool false]))).run Tryz.prog w := by kernel_rfl
  rw [e]; by_cases h : u = 146
  · rw [if_pos h, if_pos h]; rfl
  · rw [if_neg h, if_neg h]; exact tz146 w
theorem tn146_20 (w : World) : (Instr.typeAssert .nilIface 20 146 true).run Tryz.prog w = .ok (.tuple #[.agg #[.string ⟨#[]⟩], .bool false]) w := by kernel_rfl
theorem ty146 (v : Value) (w : World) : (Instr.typeAssert (.iface 146 v) 20 146 false).run Tryz.prog w = .ok v w := by kernel_rfl
theorem tz147 (w : World) : (do pure (Value.tuple #[← zeroValue 147, .bool false]) : Sem Value).run Tryz.prog w = .ok (.tuple #[.agg #[.string ⟨#[]⟩], .bool false]) w := by kernel_rfl
theorem ta147_20 (u : TypeId) (v : Value) (w : World) : (Instr.typeAssert (.iface u v) 20 147 true).run Tryz.prog w = .ok (.tuple (if u = 147 then #[v, .bool true] else #[.agg #[.string ⟨#[]⟩], .bool false])) w := by
  have e : (Instr.typeAssert (.iface u v) 20 147 true).run Tryz.prog w = (if u = 147 then (pure (Value.tuple #[v, .bool true]) : Sem Value) else (do pure (Value.tuple #[← zeroValue 147, .bool false]))).run Tryz.prog w := by kernel_rfl
  rw [e]; by_cases h : u = 147
  · rw [if_pos h, if_pos h]; rfl
  · rw [if_neg h, if_neg h]; exact tz147 w
theorem tn147_20 (w : World) : (Instr.typeAssert .nilIface 20 147 true).run Tryz.prog w = .ok (.tuple #[.agg #[.string ⟨#[]⟩], .bool false]) w := by kernel_rfl
theorem ty147 (v : Value) (w : World) : (Instr.typeAssert (.iface 147 v) 20 147 false).run Tryz.prog w = .ok v w := by kernel_rfl
theorem tz148 (w : World) : (do pure (Value.tuple #[← zeroValue 148, .bool false]) : Sem Value).run Tryz.prog w = .ok (.tuple #[.slice none 0 0, .bool false]) w := by kernel_rfl
theorem ta148_20 (u : TypeId) (v : Value) (w : World) : (Instr.typeAssert (.iface u v) 20 148 true).run Tryz.prog w = .ok (.tuple (if u = 148 then #[v, .bool true] else #[.slice none 0 0, .bool false])) w := by
  have e : (Instr.typeAssert (.iface u v) 20 148 true).run Tryz.prog w = (if u = 148 then (pure (Value.tuple #[v, .bool true]) : Sem Value) else (do pure (Value.tuple #[← zeroValue 148, .bool false]))).run Tryz.prog w := by kernel_rfl
  rw [e]; by_cases h : u = 148
  · rw [if_pos h, if_pos h]; rfl
  · rw [if_neg h, if_neg h]; exact tz148 w
theorem tn148_20 (w : World) : (Instr.typeAssert .nilIface 20 148 true).run Tryz.prog w = .ok (.tuple #[.slice none 0 0, .bool false]) w := by kernel_rfl
theorem ty148 (v : Value) (w : World) : (Instr.typeAssert (.iface 148 v) 20 148 false).run Tryz.prog w = .ok v w := by kernel_rfl
theorem tz149 (w : World) : (do pure (Value.tuple #[← zeroValue 149, .bool false]) : Sem Value).run Tryz.prog w = .ok (.tuple #[.agg #[.string ⟨#[]⟩], .bool false]) w := by kernel_rfl
theorem ta149_20 (u : TypeId) (v : Value) (w : World) : (Instr.typeAssert (.iface u v) 20 149 true).run Tryz.prog w = .ok (.tuple (if u = 149 then #[v, .bool true] else #[.agg #[.string ⟨#[]⟩], .bool false])) w := by
  have e : (Instr.typeAssert (.iface u v) 20 149 true).run Tryz.prog w = (if u = 149 then (pure (Value.tuple #[v, .bool true]) : Sem Value) else (do pure (Value.tuple #[← zeroValue 149, .bool false]))).run Tryz.prog w := by kernel_rfl
  rw [e]; by_cases h : u = 149
  · rw [if_pos h, if_pos h]; rfl
  · rw [if_neg h, if_neg h]; exact tz149 w
theorem tn149_20 (w : World) : (Instr.typeAssert .nilIface 20 149 true).run Tryz.prog w = .ok (.tuple #[.agg #[.string ⟨#[]⟩], .bool false]) w := by kernel_rfl
theorem ty149 (v : Value) (w : World) : (Instr.typeAssert (.iface 149 v) 20 149 false).run Tryz.prog w = .ok v w := by kernel_rfl
theorem tz150 (w : World) : (do pure (Value.tuple #[← zeroValue 150, .bool false]) : Sem Value).run Tryz.prog w = .ok (.tuple #[.agg #[.string ⟨#[]⟩], .bool false]) w := by kernel_rfl
theorem ta150_20 (u : TypeId) (v : Value) (w : World) : (Instr.typeAssert (.iface u v) 20 150 true).run Tryz.prog w = .ok (.tuple (if u = 150 then #[v, .bool true] else #[.agg #[.string ⟨#[]⟩], .bool false])) w := by
  have e : (Instr.typeAssert (.iface u v) 20 150 true).run Tryz.prog w = (if u = 150 then (pure (Value.tuple #[v, .bool true]) : Sem Value) else (do pure (Value.tuple #[← zeroValue 150, .bool false]))).run Tryz.prog w := by kernel_rfl
  rw [e]; by_cases h : u = 150
  · rw [if_pos h, if_pos h]; rfl
  · rw [if_neg h, if_neg h]; exact tz150 w
theorem tn150_20 (w : World) : (Instr.typeAssert .nilIface 20 150 true).run Tryz.prog w = .ok (.tuple #[.agg #[.string ⟨#[]⟩], .bool false]) w := by kernel_rfl
theorem ty150 (v : Value) (w : World) : (Instr.typeAssert (.iface 150 v) 20 150 false).run Tryz.prog w = .ok v w := by kernel_rfl
theorem tz151 (w : World) : (do pure (Value.tuple #[← zeroValue 151, .bool false]) : Sem Value).run Tryz.prog w = .ok (.tuple #[.int .i64 (0), .bool false]) w := by kernel_rfl
theorem ta151_20 (u : TypeId) (v : Value) (w : World) : (Instr.typeAssert (.iface u v) 20 151 true).run Tryz.prog w = .ok (.tuple (if u = 151 then #[v, .bool true] else #[.int .i64 (0), .bool false])) w := by
  have e : (Instr.typeAssert (.iface u v) 20 151 true).run Tryz.prog w = (if u = 151 then (pure (Value.tuple #[v, .bool true]) : Sem Value) else (do pure (Value.tuple #[← zeroValue 151, .bool false]))).run Tryz.prog w := by kernel_rfl
  rw [e]; by_cases h : u = 151
  · rw [if_pos h, if_pos h]; rfl
  · rw [if_neg h, if_neg h]; exact tz151 w
theorem tn151_20 (w : World) : (Instr.typeAssert .nilIface 20 151 true).run Tryz.prog w = .ok (.tuple #[.int .i64 (0), .bool false]) w := by kernel_rfl
theorem ty151 (v : Value) (w : World) : (Instr.typeAssert (.iface 151 v) 20 151 false).run Tryz.prog w = .ok v w := by kernel_rfl
theorem tz101 (w : World) : (do pure (Value.tuple #[← zeroValue 101, .bool false]) : Sem Value).run Tryz.prog w = .ok (.tuple #[.int .i64 (0), .bool false]) w := by kernel_rfl
theorem ta101_20 (u : TypeId) (v : Value) (w : World) : (Instr.typeAssert (.iface u v) 20 101 true).run Tryz.prog w = .ok (.tuple (if u = 101 then #[v, .bool true] else #[.int .i64 (0), .bool false])) w := by
  have e : (Instr.typeAssert (.iface u v) 20 101 true).run Tryz.prog w = (if u = 101 then (pure (Value.tuple #[v, .bool true]) : Sem Value) else (do pure (Value.tuple #[← zeroValue 101, .bool false]))).run Tryz.prog w := by kernel_rfl
  rw [e]; by_cases h : u = 101
  · rw [if_pos h, if_pos h]; rfl
  · rw [if_neg h, if_neg h]; exact tz101 w
theorem tn101_20 (w : World) : (Instr.typeAssert .nilIface 20 101 true).run Tryz.prog w = .ok (.tuple #[.int .i64 (0), .bool false]) w := by kernel_rfl
theorem ty101 (v : Value) (w : World) : (Instr.typeAssert (.iface 101 v) 20 101 false).run Tryz.prog w = .ok v w := by kernel_rfl
theorem tz153 (w : World) : (do pure (Value.tuple #[← zeroValue 153, .bool false]) : Sem Value).run Tryz.prog w = .ok (.tuple #[.agg #[.string ⟨#[]⟩, .string ⟨#[]⟩], .bool false]) w := by kernel_rfl
theorem ta153_20 (u : TypeId) (v : Value) (w : World) : (Instr.typeAssert (.iface u v) 20 153 true).run Tryz.prog w = .ok (.tuple (if u = 153 then #[v, .bool true] else #[.agg #[.string ⟨#[]⟩, .string ⟨#[]⟩], .bool false])) w := by
  have e : (Instr.typeAssert (.iface u v) 20 153 true).run Tryz.prog w = (if u = 153 then (pure (Value.tuple #[v, .bool true]) : Sem Value) else (do pure (Value.tuple #[← zeroValue 153, .bool false]))).run Tryz.prog w := by kernel_rfl
  rw [e]; by_cases h : u = 153
  · rw [if_pos h, if_pos h]; rfl
  · rw [if_neg h, if_neg h]; exact tz153 w
theorem tn153_20 (w : World) : (Instr.typeAssert .nilIface 20 153 true).run Tryz.prog w = .ok (.tuple #[.agg #[.string ⟨#[]⟩, .string ⟨#[]⟩], .bool false]) w := by kernel_rfl
theorem ty153 (v : Value) (w : World) : (Instr.typeAssert (.iface 153 v) 20 153 false).run Tryz.prog w = .ok v w := by kernel_rfl
theorem tz154 (w : World) : (do pure (Value.tuple #[← zeroValue 154, .bool false]) : Sem Value).run Tryz.prog w = .ok (.tuple #[.agg #[.string ⟨#[]⟩], .bool false]) w := by kernel_rfl
theorem ta154_20 (u : TypeId) (v : Value) (w : World) : (Instr.typeAssert (.iface u v) 20 154 true).run Tryz.prog w = .ok (.tuple (if u = 154 then #[v, .bool true] else #[.agg #[.string ⟨#[]⟩], .bool false])) w := by
  have e : (Instr.typeAssert (.iface u v) 20 154 true).run Tryz.prog w = (if u = 154 then (pure (Value.tuple #[v, .bool true]) : Sem Value) else (do pure (Value.tuple #[← zeroValue 154, .bool false]))).run Tryz.prog w := by kernel_rfl
  rw [e]; by_cases h : u = 154
  · rw [if_pos h, if_pos h]; rfl
  · rw [if_neg h, if_neg h]; exact tz154 w
theorem tn154_20 (w : World) : (Instr.typeAssert .nilIface 20 154 true).run Tryz.prog w = .ok (.tuple #[.agg #[.string ⟨#[]⟩], .bool false]) w := by kernel_rfl
theorem ty154 (v : Value) (w : World) : (Instr.typeAssert (.iface 154 v) 20 154 false).run Tryz.prog w = .ok v w := by kernel_rfl
theorem tz155 (w : World) : (do pure (Value.tuple #[← zeroValue 155, .bool false]) : Sem Value).run Tryz.prog w = .ok (.tuple #[.agg #[.string ⟨#[]⟩], .bool false]) w := by kernel_rfl
theorem ta155_20 (u : TypeId) (v : Value) (w : World) : (Instr.typeAssert (.iface u v) 20 155 true).run Tryz.prog w = .ok (.tuple (if u = 155 then #[v, .bool true] else #[.agg #[.string ⟨#[]⟩], .bool false])) w := by
  have e : (Instr.typeAssert (.iface u v) 20 155 true).run Tryz.prog w = (if u = 155 then (pure (Value.tuple #[v, .bool true]) : Sem Value) else (do pure (Value.tuple #[← zeroValue 155, .bool false]))).run Tryz.prog w := by kernel_rfl
  rw [e]; by_cases h : u = 155
  · rw [if_pos h, if_pos h]; rfl
  · rw [if_neg h, if_neg h]; exact tz155 w
theorem tn155_20 (w : World) : (Instr.typeAssert .nilIface 20 155 true).run Tryz.prog w = .ok (.tuple #[.agg #[.string ⟨#[]⟩], .bool false]) w := by kernel_rfl
theorem ty155 (v : Value) (w : World) : (Instr.typeAssert (.iface 155 v) 20 155 false).run Tryz.prog w = .ok v w := by kernel_rfl
theorem tz156 (w : World) : (do pure (Value.tuple #[← zeroValue 156, .bool false]) : Sem Value).run Tryz.prog w = .ok (.tuple #[.pointer none, .bool false]) w := by kernel_rfl
theorem ta156_20 (u : TypeId) (v : Value) (w : World) : (Instr.typeAssert (.iface u v) 20 156 true).run Tryz.prog w = .ok (.tuple (if u = 156 then #[v, .bool true] else #[.pointer none, .bool false])) w := by
  have e : (Instr.typeAssert (.iface u v) 20 156 true).run Tryz.prog w = (if u = 156 then (pure (Value.tuple #[v, .bool true]) : Sem Value) else (do pure (Value.tuple #[← zeroValue 156, .bool false]))).run Tryz.prog w := by kernel_rfl
  rw [e]; by_cases h : u = 156
  · rw [if_pos h, if_pos h]; rfl
  · rw [if_neg h, if_neg h]; exact tz156 w
theorem tn156_20 (w : World) : (Instr.typeAssert .nilIface 20 156 true).run Tryz.prog w = .ok (.tuple #[.pointer none, .bool false]) w := by kernel_rfl
theorem ty156 (v : Value) (w : World) : (Instr.typeAssert (.iface 156 v) 20 156 false).run Tryz.prog w = .ok v w := by kernel_rfl
theorem tz107 (w : World) : (do pure (Value.tuple #[← zeroValue 107, .bool false]) : Sem Value).run Tryz.prog w = .ok (.tuple #[.pointer none, .bool false]) w := by kernel_rfl
theorem ta107_20 (u : TypeId) (v : Value) (w : World) : (Instr.typeAssert (.iface u v) 20 107 true).run Tryz.prog w = .ok (.tuple (if u = 107 then #[v, .bool true] else #[.pointer none, .bool false])) w := by
  have e : (Instr.typeAssert (.iface u v) 20 107 true).run Tryz.prog w = (if u = 107 then (pure (Value.tuple #[v, .bool true]) : Sem Value) else (do pure (Value.tuple #[← zeroValue 107, .bool false]))).run Tryz.prog w := by kernel_rfl
  rw [e]; by_cases h : u = 107
  · rw [if_pos h, if_pos h]; rfl
  · rw [if_neg h, if_neg h]; exact tz107 w
theorem tn107_20 (w : World) : (Instr.typeAssert .nilIface 20 107 true).run Tryz.prog w = .ok (.tuple #[.pointer none, .bool false]) w := by kernel_rfl
theorem ty107 (v : Value) (w : World) : (Instr.typeAssert (.iface 107 v) 20 107 false).run Tryz.prog w = .ok v w := by kernel_rfl
theorem tz160 (w : World) : (do pure (Value.tuple #[← zeroValue 160, .bool false]) : Sem Value).run Tryz.prog w = .ok (.tuple #[.agg #[.string ⟨#[]⟩, .string ⟨#[]⟩], .bool false]) w := by kernel_rfl
theorem ta160_20 (u : TypeId) (v : Value) (w : World) : (Instr.typeAssert (.iface u v) 20 160 true).run Tryz.prog w = .ok (.tuple (if u = 160 then #[v, .bool true] else #[.agg #[.string ⟨#[]⟩, .string ⟨#[]⟩], .bool false])) w := by
  have e : (Instr.typeAssert (.iface u v) 20 160 true).run Tryz.prog w = (if u = 160 then (pure (Value.tuple #[v, .bool true]) : Sem Value) else (do pure (Value.tuple #[← zeroValue 160, .bool false]))).run Tryz.prog w := by kernel_rfl
  rw [e]; by_cases h : u = 160
  · rw [if_pos h, if_pos h]; rfl
  · rw [if_neg h, if_neg h]; exact tz160 w
theorem tn160_20 (w : World) : (Instr.typeAssert .nilIface 20 160 true).run Tryz.prog w = .ok (.tuple #[.agg #[.string ⟨#[]⟩, .string ⟨#[]⟩], .bool false]) w := by kernel_rfl
theorem ty160 (v : Value) (w : World) : (Instr.typeAssert (.iface 160 v) 20 160 false).run Tryz.prog w = .ok v w := by kernel_rfl
theorem tz86 (w : World) : (do pure (Value.tuple #[← zeroValue 86, .bool false]) : Sem Value).run Tryz.prog w = .ok (.tuple #[.agg #[.string ⟨#[]⟩, .int .u64 (0), .nilIface], .bool false]) w := by kernel_rfl
theorem ta86_20 (u : TypeId) (v : Value) (w : World) : (Instr.typeAssert (.iface u v) 20 86 true).run Tryz.prog w = .ok (.tuple (if u = 86 then #[v, .bool true] else #[.agg #[.string ⟨#[]⟩, .int .u64 (0), .nilIface], .bool false])) w := by
  have e : (Instr.typeAssert (.iface u v) 20 86 true).run Tryz.prog w = (if u = 86 then (pure (Value.tuple #[v, .bool true]) : Sem Value) else (do pure (Value.tuple #[← zeroValue 86, .bool false]))).run Tryz.prog w := by kernel_rfl
  rw [e]; by_cases h : u = 86
  · rw [if_pos h, if_pos h]; rfl
  · rw [if_neg h, if_neg h]; exact tz86 w
theorem tn86_20 (w : World) : (Instr.typeAssert .nilIface 20 86 true).run Tryz.prog w = .ok (.tuple #[.agg #[.string ⟨#[]⟩, .int .u64 (0), .nilIface], .bool false]) w := by kernel_rfl
theorem ty86 (v : Value) (w : World) : (Instr.typeAssert (.iface 86 v) 20 86 false).run Tryz.prog w = .ok v w := by kernel_rfl
theorem tz142 (w : World) : (do pure (Value.tuple #[← zeroValue 142, .bool false]) : Sem Value).run Tryz.prog w = .ok (.tuple #[.agg #[.string ⟨#[]⟩, .pointer none], .bool false]) w := by kernel_rfl
theorem ta142_20 (u : TypeId) (v : Value) (w : World) : (Instr.typeAssert (.iface u v) 20 142 true).run Tryz.prog w = .ok (.tuple (if u = 142 then #[v, .bool true] else #[.agg #[.string ⟨#[]⟩, .pointer none], .bool false])) w := by
  have e : (Instr.typeAssert (.iface u v) 20 142 true).run Tryz.prog w = (if u = 142 then (pure (Value.tuple #[v, .bool true]) : Sem Value) else (do pure (Value.tuple #[← zeroValue 142, .bool false]))).run Tryz.prog w := by kernel_rfl
  rw [e]; by_cases h : u = 142
  · rw [if_pos h, if_pos h]; rfl
  · rw [if_neg h, if_neg h]; exact tz142 w
theorem tn142_20 (w : World) : (Instr.typeAssert .nilIface 20 142 true).run Tryz.prog w = .ok (.tuple #[.agg #[.string ⟨#[]⟩, .pointer none], .bool false]) w := by kernel_rfl
theorem ta142_139 (u : TypeId) (v : Value) (w : World) : (Instr.typeAssert (.iface u v) 139 142 true).run Tryz.prog w = .ok (.tuple (if u = 142 then #[v, .bool true] else #[.agg #[.string ⟨#[]⟩, .pointer none], .bool false])) w := by
  have e : (Instr.typeAssert (.iface u v) 139 142 true).run Tryz.prog w = (if u = 142 then (pure (Value.tuple #[v, .bool true]) : Sem Value) else (do pure (Value.tuple #[← zeroValue 142, .bool false]))).run Tryz.prog w := by kernel_rfl
  rw [e]; by_cases h : u = 142
  · rw [if_pos h, if_pos h]; rfl
  · rw [if_neg h, if_neg h]; exact tz142 w
theorem tn142_139 (w : World) : (Instr.typeAssert .nilIface 139 142 true).run Tryz.prog w = .ok (.tuple #[.agg #[.string ⟨#[]⟩, .pointer none], .bool false]) w := by kernel_rfl
theorem ty142 (v : Value) (w : World) : (Instr.typeAssert (.iface 142 v) 20 142 false).run Tryz.prog w = .ok v w := by kernel_rfl
theorem tz144 (w : World) : (do pure (Value.tuple #[← zeroValue 144, .bool false]) : Sem Value).run Tryz.prog w = .ok (.tuple #[.agg #[.int .u64 (0), .int .u64 (0), .nilIface, .pointer none], .bool false]) w := by kernel_rfl
theorem ta144_20 (u : TypeId) (v : Value) (w : World) : (Instr.typeAssert (.iface u v) 20 144 true).run Tryz.prog w = .ok (.tuple (if u = 144 then #[v, .bool true] else #[.agg #[.int .u64 (0), .int .u64 (0), .nilIface, .pointer none], .bool false])) w := by
  have e : (Instr.typeAssert (.iface u v) 20 144 true).run Tryz.prog w = (if u = 144 then (pure (Value.tuple #[v, .bool true]) : Sem Value) else (do pure (Value.tuple #[← zeroValue 144, .bool false]))).run Tryz.prog w := by kernel_rfl
  rw [e]; by_cases h : u = 144
  · rw [if_pos h, if_pos h]; rfl
  · rw [if_neg h, if_neg h]; exact tz144 w
theorem tn144_20 (w : World) : (Instr.typeAssert .nilIface 20 144 true).run Tryz.prog w = .ok (.tuple #[.agg #[.int .u64 (0), .int .u64 (0), .nilIface, .pointer none], .bool false]) w := by kernel_rfl
theorem ta144_139 (u : TypeId) (v : Value) (w : World) : (Instr.typeAssert (.iface u v) 139 144 true).run Tryz.prog w = .ok (.tuple (if u = 144 then #[v, .bool true] else #[.agg #[.int .u64 (0), .int .u64 (0), .nilIface, .pointer none], .bool false])) w := by
  have e : (Instr.typeAssert (.iface u v) 139 144 true).run Tryz.prog w = (if u = 144 then (pure (Value.tuple #[v, .bool true]) : Sem Value) else (do pure (Value.tuple #[← zeroValue 144, .bool false]))).run Tryz.prog w := by kernel_rfl
  rw [e]; by_cases h : u = 144
  · rw [if_pos h, if_pos h]; rfl
  · rw [if_neg h, if_neg h]; exact tz144 w
theorem tn144_139 (w : World) : (Instr.typeAssert .nilIface 139 144 true).run Tryz.prog w = .ok (.tuple #[.agg #[.int .u64 (0), .int .u64 (0), .nilIface, .pointer none], .bool false]) w := by kernel_rfl
theorem ty144 (v : Value) (w : World) : (Instr.typeAssert (.iface 144 v) 20 144 false).run Tryz.prog w = .ok v w := by kernel_rfl
theorem tz205 (w : World) : (do pure (Value.tuple #[← zeroValue 205, .bool false]) : Sem Value).run Tryz.prog w = .ok (.tuple #[.pointer none, .bool false]) w := by kernel_rfl
theorem ta205_20 (u : TypeId) (v : Value) (w : World) : (Instr.typeAssert (.iface u v) 20 205 true).run Tryz.prog w = .ok (.tuple (if u = 205 then #[v, .bool true] else #[.pointer none, .bool false])) w := by
  have e : (Instr.typeAssert (.iface u v) 20 205 true).run Tryz.prog w = (if u = 205 then (pure (Value.tuple #[v, .bool true]) : Sem Value) else (do pure (Value.tuple #[← zeroValue 205, .bool false]))).run Tryz.prog w := by kernel_rfl
  rw [e]; by_cases h : u = 205
  · rw [if_pos h, if_pos h]; rfl
  · rw [if_neg h, if_neg h]; exact tz205 w
theorem tn205_20 (w : World) : (Instr.typeAssert .nilIface 20 205 true).run Tryz.prog w = .ok (.tuple #[.pointer none, .bool false]) w := by kernel_rfl
theorem ty205 (v : Value) (w : World) : (Instr.typeAssert (.iface 205 v) 20 205 false).run Tryz.prog w = .ok v w := by kernel_rfl
theorem ti139_9 (v : Value) (w : World) : (Instr.typeAssert (.iface 9 v) 20 139 true).run Tryz.prog w = .ok (.tuple #[.nilIface, .bool false]) w := run_typeAssert_lacksB Tryz.underlying139 (by kernel_rfl) (by kernel_rfl) v 20 w
theorem ti139_3 (v : Value) (w : World) : (Instr.typeAssert (.iface 3 v) 20 139 true).run Tryz.prog w = .ok (.tuple #[.nilIface, .bool false]) w := run_typeAssert_lacksB Tryz.underlying139 (by kernel_rfl) (by kernel_rfl) v 20 w
theorem ti139_176 (v : Value) (w : World) : (Instr.typeAssert (.iface 176 v) 20 139 true).run Tryz.prog w = .ok (.tuple #[.nilIface, .bool false]) w := run_typeAssert_lacksB Tryz.underlying139 (by kernel_rfl) (by kernel_rfl) v 20 w
theorem ti139_2 (v : Value) (w : World) : (Instr.typeAssert (.iface 2 v) 20 139 true).run Tryz.prog w = .ok (.tuple #[.nilIface, .bool false]) w := run_typeAssert_lacksB Tryz.underlying139 (by kernel_rfl) (by kernel_rfl) v 20 w
theorem ti139_22 (v : Value) (w : World) : (Instr.typeAssert (.iface 22 v) 20 139 true).run Tryz.prog w = .ok (.tuple #[.nilIface, .bool false]) w := run_typeAssert_lacksB Tryz.underlying139 (by kernel_rfl) (by kernel_rfl) v 20 w
theorem ti139_4 (v : Value) (w : World) : (Instr.typeAssert (.iface 4 v) 20 139 true).run Tryz.prog w = .ok (.tuple #[.nilIface, .bool false]) w := run_typeAssert_lacksB Tryz.underlying139 (by kernel_rfl) (by kernel_rfl) v 20 w
theorem ti139_128 (v : Value) (w : World) : (Instr.typeAssert (.iface 128 v) 20 139 true).run Tryz.prog w = .ok (.tuple #[.nilIface, .bool false]) w := run_typeAssert_lacksB Tryz.underlying139 (by kernel_rfl) (by kernel_rfl) v 20 w
theorem ti139_106 (v : Value) (w : World) : (Instr.typeAssert (.iface 106 v) 20 139 true).run Tryz.prog w = .ok (.tuple #[.nilIface, .bool false]) w := run_typeAssert_lacksB Tryz.underlying139 (by kernel_rfl) (by kernel_rfl) v 20 w
theorem ti139_5 (v : Value) (w : World) : (Instr.typeAssert (.iface 5 v) 20 139 true).run Tryz.prog w = .ok (.tuple #[.nilIface, .bool false]) w := run_typeAssert_lacksB Tryz.underlying139 (by kernel_rfl) (by kernel_rfl) v 20 w
theorem ti139_177 (v : Value) (w : World) : (Instr.typeAssert (.iface 177 v) 20 139 true).run Tryz.prog w = .ok (.tuple #[.nilIface, .bool false]) w := run_typeAssert_lacksB Tryz.underlying139 (by kernel_rfl) (by kernel_rfl) v 20 w
theorem ti139_178 (v : Value) (w : World) : (Instr.typeAssert (.iface 178 v) 20 139 true).run Tryz.prog w = .ok (.tuple #[.nilIface, .bool false]) w := run_typeAssert_lacksB Tryz.underlying139 (by kernel_rfl) (by kernel_rfl) v 20 w
theorem ti139_12 (v : Value) (w : World) : (Instr.typeAssert (.iface 12 v) 20 139 true).run Tryz.prog w = .ok (.tuple #[.nilIface, .bool false]) w := run_typeAssert_lacksB Tryz.underlying139 (by kernel_rfl) (by kernel_rfl) v 20 w
theorem ti139_179 (v : Value) (w : World) : (Instr.typeAssert (.iface 179 v) 20 139 true).run Tryz.prog w = .ok (.tuple #[.nilIface, .bool false]) w := run_typeAssert_lacksB Tryz.underlying139 (by kernel_rfl) (by kernel_rfl) v 20 w
theorem ti139_180 (v : Value) (w : World) : (Instr.typeAssert (.iface 180 v) 20 139 true).run Tryz.prog w = .ok (.tuple #[.nilIface, .bool false]) w := run_typeAssert_lacksB Tryz.underlying139 (by kernel_rfl) (by kernel_rfl) v 20 w
theorem ti139_21 (v : Value) (w : World) : (Instr.typeAssert (.iface 21 v) 20 139 true).run Tryz.prog w = .ok (.tuple #[.nilIface, .bool false]) w := run_typeAssert_lacksB Tryz.underlying139 (by kernel_rfl) (by kernel_rfl) v 20 w
theorem ti139_131 (v : Value) (w : World) : (Instr.typeAssert (.iface 131 v) 20 139 true).run Tryz.prog w = .ok (.tuple #[.nilIface, .bool false]) w := run_typeAssert_lacksB Tryz.underlying139 (by kernel_rfl) (by kernel_rfl) v 20 w
theorem ti139_181 (v : Value) (w : World) : (Instr.typeAssert (.iface 181 v) 20 139 true).run Tryz.prog w = .ok (.tuple #[.nilIface, .bool false]) w := run_typeAssert_lacksB Tryz.underlying139 (by kernel_rfl) (by kernel_rfl) v 20 w
theorem ti139_88 (v : Value) (w : World) : (Instr.typeAssert (.iface 88 v) 20 139 true).run Tryz.prog w = .ok (.tuple #[.nilIface, .bool false]) w := run_typeAssert_lacksB Tryz.underlying139 (by kernel_rfl) (by kernel_rfl) v 20 w
theorem ti139_125 (v : Value) (w : World) : (Instr.typeAssert (.iface 125 v) 20 139 true).run Tryz.prog w = .ok (.tuple #[.nilIface, .bool false]) w := run_typeAssert_lacksB Tryz.underlying139 (by kernel_rfl) (by kernel_rfl) v 20 w
theorem ti139_77 (v : Value) (w : World) : (Instr.typeAssert (.iface 77 v) 20 139 true).run Tryz.prog w = .ok (.tuple #[.nilIface, .bool false]) w := run_typeAssert_lacksB Tryz.underlying139 (by kernel_rfl) (by kernel_rfl) v 20 w
theorem ti139_197 (v : Value) (w : World) : (Instr.typeAssert (.iface 197 v) 20 139 true).run Tryz.prog w = .ok (.tuple #[.nilIface, .bool false]) w := run_typeAssert_lacksB Tryz.underlying139 (by kernel_rfl) (by kernel_rfl) v 20 w
theorem ti139_198 (v : Value) (w : World) : (Instr.typeAssert (.iface 198 v) 20 139 true).run Tryz.prog w = .ok (.tuple #[.nilIface, .bool false]) w := run_typeAssert_lacksB Tryz.underlying139 (by kernel_rfl) (by kernel_rfl) v 20 w
theorem ti139_199 (v : Value) (w : World) : (Instr.typeAssert (.iface 199 v) 20 139 true).run Tryz.prog w = .ok (.tuple #[.nilIface, .bool false]) w := run_typeAssert_lacksB Tryz.underlying139 (by kernel_rfl) (by kernel_rfl) v 20 w
theorem ti139_182 (v : Value) (w : World) : (Instr.typeAssert (.iface 182 v) 20 139 true).run Tryz.prog w = .ok (.tuple #[.nilIface, .bool false]) w := run_typeAssert_lacksB Tryz.underlying139 (by kernel_rfl) (by kernel_rfl) v 20 w
theorem ti139_146 (v : Value) (w : World) : (Instr.typeAssert (.iface 146 v) 20 139 true).run Tryz.prog w = .ok (.tuple #[.nilIface, .bool false]) w := run_typeAssert_lacksB Tryz.underlying139 (by kernel_rfl) (by kernel_rfl) v 20 w
theorem ti139_147 (v : Value) (w : World) : (Instr.typeAssert (.iface 147 v) 20 139 true).run Tryz.prog w = .ok (.tuple #[.nilIface, .bool false]) w := run_typeAssert_lacksB Tryz.underlying139 (by kernel_rfl) (by kernel_rfl) v 20 w
theorem ti139_148 (v : Value) (w : World) : (Instr.typeAssert (.iface 148 v) 20 139 true).run Tryz.prog w = .ok (.tuple #[.nilIface, .bool false]) w := run_typeAssert_lacksB Tryz.underlying139 (by kernel_rfl) (by kernel_rfl) v 20 w
theorem ti139_149 (v : Value) (w : World) : (Instr.typeAssert (.iface 149 v) 20 139 true).run Tryz.prog w = .ok (.tuple #[.nilIface, .bool false]) w := run_typeAssert_lacksB Tryz.underlying139 (by kernel_rfl) (by kernel_rfl) v 20 w
theorem ti139_150 (v : Value) (w : World) : (Instr.typeAssert (.iface 150 v) 20 139 true).run Tryz.prog w = .ok (.tuple #[.nilIface, .bool false]) w := run_typeAssert_lacksB Tryz.underlying139 (by kernel_rfl) (by kernel_rfl) v 20 w
theorem ti139_151 (v : Value) (w : World) : (Instr.typeAssert (.iface 151 v) 20 139 true).run Tryz.prog w = .ok (.tuple #[.nilIface, .bool false]) w := run_typeAssert_lacksB Tryz.underlying139 (by kernel_rfl) (by kernel_rfl) v 20 w
theorem ti139_101 (v : Value) (w : World) : (Instr.typeAssert (.iface 101 v) 20 139 true).run Tryz.prog w = .ok (.tuple #[.nilIface, .bool false]) w := run_typeAssert_lacksB Tryz.underlying139 (by kernel_rfl) (by kernel_rfl) v 20 w
theorem ti139_153 (v : Value) (w : World) : (Instr.typeAssert (.iface 153 v) 20 139 true).run Tryz.prog w = .ok (.tuple #[.nilIface, .bool false]) w := run_typeAssert_lacksB Tryz.underlying139 (by kernel_rfl) (by kernel_rfl) v 20 w
theorem ti139_154 (v : Value) (w : World) : (Instr.typeAssert (.iface 154 v) 20 139 true).run Tryz.prog w = .ok (.tuple #[.nilIface, .bool false]) w := run_typeAssert_lacksB Tryz.underlying139 (by kernel_rfl) (by kernel_rfl) v 20 w
theorem ti139_155 (v : Value) (w : World) : (Instr.typeAssert (.iface 155 v) 20 139 true).run Tryz.prog w = .ok (.tuple #[.nilIface, .bool false]) w := run_typeAssert_lacksB Tryz.underlying139 (by kernel_rfl) (by kernel_rfl) v 20 w
theorem ti139_156 (v : Value) (w : World) : (Instr.typeAssert (.iface 156 v) 20 139 true).run Tryz.prog w = .ok (.tuple #[.nilIface, .bool false]) w := run_typeAssert_lacksB Tryz.underlying139 (by kernel_rfl) (by kernel_rfl) v 20 w
theorem ti139_107 (v : Value) (w : World) : (Instr.typeAssert (.iface 107 v) 20 139 true).run Tryz.prog w = .ok (.tuple #[.nilIface, .bool false]) w := run_typeAssert_lacksB Tryz.underlying139 (by kernel_rfl) (by kernel_rfl) v 20 w
theorem ti139_160 (v : Value) (w : World) : (Instr.typeAssert (.iface 160 v) 20 139 true).run Tryz.prog w = .ok (.tuple #[.nilIface, .bool false]) w := run_typeAssert_lacksB Tryz.underlying139 (by kernel_rfl) (by kernel_rfl) v 20 w
theorem ti139_86 (v : Value) (w : World) : (Instr.typeAssert (.iface 86 v) 20 139 true).run Tryz.prog w = .ok (.tuple #[.nilIface, .bool false]) w := run_typeAssert_lacksB Tryz.underlying139 (by kernel_rfl) (by kernel_rfl) v 20 w
theorem ti139_142 (v : Value) (w : World) : (Instr.typeAssert (.iface 142 v) 20 139 true).run Tryz.prog w = .ok (.tuple #[.iface 142 v, .bool true]) w := run_typeAssert_hasB Tryz.underlying139 (by kernel_rfl) v 20 w
theorem tj139_142 (v : Value) (w : World) : (Instr.typeAssert (.iface 142 v) 20 139 false).run Tryz.prog w = .ok (.iface 142 v) w := by kernel_rfl
theorem ti139_144 (v : Value) (w : World) : (Instr.typeAssert (.iface 144 v) 20 139 true).run Tryz.prog w = .ok (.tuple #[.iface 144 v, .bool true]) w := run_typeAssert_hasB Tryz.underlying139 (by kernel_rfl) v 20 w
theorem tj139_144 (v : Value) (w : World) : (Instr.typeAssert (.iface 144 v) 20 139 false).run Tryz.prog w = .ok (.iface 144 v) w := by kernel_rfl
theorem ti139_205 (v : Value) (w : World) : (Instr.typeAssert (.iface 205 v) 20 139 true).run Tryz.prog w = .ok (.tuple #[.nilIface, .bool false]) w := run_typeAssert_lacksB Tryz.underlying139 (by kernel_rfl) (by kernel_rfl) v 20 w
theorem tm139 (w : World) : (Instr.typeAssert .nilIface 20 139 true).run Tryz.prog w = .ok (.tuple #[.nilIface, .bool false]) w := by kernel_rfl
theorem ti162_9 (v : Value) (w : World) : (Instr.typeAssert (.iface 9 v) 20 162 true).run Tryz.prog w = .ok (.tuple #[.nilIface, .bool false]) w := run_typeAssert_lacksB Tryz.underlying162 (by kernel_rfl) (by kernel_rfl) v 20 w
theorem ti162_3 (v : Value) (w : World) : (Instr.typeAssert (.iface 3 v) 20 162 true).run Tryz.prog w = .ok (.tuple #[.nilIface, .bool false]) w := run_typeAssert_lacksB Tryz.underlying162 (by kernel_rfl) (by kernel_rfl) v 20 w
theorem ti162_176 (v : Value) (w : World) : (Instr.typeAssert (.iface 176 v) 20 162 true).run Tryz.prog w = .ok (.tuple #[.nilIface, .bool false]) w := run_typeAssert_lacksB Tryz.underlying162 (by kernel_rfl) (by kernel_rfl) v 20 w
theorem ti162_2 (v : Value) (w : World) : (Instr.typeAssert (.iface 2 v) 20 162 true).run Tryz.prog w = .ok (.tuple #[.nilIface, .bool false]) w := run_typeAssert_lacksB Tryz.underlying162 (by kernel_rfl) (by kernel_rfl) v 20 w
theorem ti162_22 (v : Value) (w : World) : (Instr.typeAssert (.iface 22 v) 20 162 true).run Tryz.prog w = .ok (.tuple #[.nilIface, .bool false]) w := run_typeAssert_lacksB Tryz.underlying162 (by kernel_rfl) (by kernel_rfl) v 20 w
theorem ti162_4 (v : Value) (w : World) : (Instr.typeAssert (.iface 4 v) 20 162 true).run Tryz.prog w = .ok (.tuple #[.nilIface, .bool false]) w := run_typeAssert_lacksB Tryz.underlying162 (by kernel_rfl) (by kernel_rfl) v 20 w
theorem ti162_128 (v : Value) (w : World) : (Instr.typeAssert (.iface 128 v) 20 162 true).run Tryz.prog w = .ok (.tuple #[.nilIface, .bool false]) w := run_typeAssert_lacksB Tryz.underlying162 (by kernel_rfl) (by kernel_rfl) v 20 w
theorem ti162_106 (v : Value) (w : World) : (Instr.typeAssert (.iface 106 v) 20 162 true).run Tryz.prog w = .ok (.tuple #[.nilIface, .bool false]) w := run_typeAssert_lacksB Tryz.underlying162 (by kernel_rfl) (by kernel_rfl) v 20 w
theorem ti162_5 (v : Value) (w : World) : (Instr.typeAssert (.iface 5 v) 20 162 true).run Tryz.prog w = .ok (.tuple #[.nilIface, .bool false]) w := run_typeAssert_lacksB Tryz.underlying162 (by kernel_rfl) (by kernel_rfl) v 20 w
theorem ti162_177 (v : Value) (w : World) : (Instr.typeAssert (.iface 177 v) 20 162 true).run Tryz.prog w = .ok (.tuple #[.nilIface, .bool false]) w := run_typeAssert_lacksB Tryz.underlying162 (by kernel_rfl) (by kernel_rfl) v 20 w
theorem ti162_178 (v : Value) (w : World) : (Instr.typeAssert (.iface 178 v) 20 162 true).run Tryz.prog w = .ok (.tuple #[.nilIface, .bool false]) w := run_typeAssert_lacksB Tryz.underlying162 (by kernel_rfl) (by kernel_rfl) v 20 w
theorem ti162_12 (v : Value) (w : World) : (Instr.typeAssert (.iface 12 v) 20 162 true).run Tryz.prog w = .ok (.tuple #[.nilIface, .bool false]) w := run_typeAssert_lacksB Tryz.underlying162 (by kernel_rfl) (by kernel_rfl) v 20 w
theorem ti162_179 (v : Value) (w : World) : (Instr.typeAssert (.iface 179 v) 20 162 true).run Tryz.prog w = .ok (.tuple #[.nilIface, .bool false]) w := run_typeAssert_lacksB Tryz.underlying162 (by kernel_rfl) (by kernel_rfl) v 20 w
theorem ti162_180 (v : Value) (w : World) : (Instr.typeAssert (.iface 180 v) 20 162 true).run Tryz.prog w = .ok (.tuple #[.nilIface, .bool false]) w := run_typeAssert_lacksB Tryz.underlying162 (by kernel_rfl) (by kernel_rfl) v 20 w
theorem ti162_21 (v : Value) (w : World) : (Instr.typeAssert (.iface 21 v) 20 162 true).run Tryz.prog w = .ok (.tuple #[.nilIface, .bool false]) w := run_typeAssert_lacksB Tryz.underlying162 (by kernel_rfl) (by kernel_rfl) v 20 w
theorem ti162_131 (v : Value) (w : World) : (Instr.typeAssert (.iface 131 v) 20 162 true).run Tryz.prog w = .ok (.tuple #[.nilIface, .bool false]) w := run_typeAssert_lacksB Tryz.underlying162 (by kernel_rfl) (by kernel_rfl) v 20 w
theorem ti162_181 (v : Value) (w : World) : (Instr.typeAssert (.iface 181 v) 20 162 true).run Tryz.prog w = .ok (.tuple #[.nilIface, .bool false]) w := run_typeAssert_lacksB Tryz.underlying162 (by kernel_rfl) (by kernel_rfl) v 20 w
theorem ti162_88 (v : Value) (w : World) : (Instr.typeAssert (.iface 88 v) 20 162 true).run Tryz.prog w = .ok (.tuple #[.nilIface, .bool false]) w := run_typeAssert_lacksB Tryz.underlying162 (by kernel_rfl) (by kernel_rfl) v 20 w
theorem ti162_125 (v : Value) (w : World) : (Instr.typeAssert (.iface 125 v) 20 162 true).run Tryz.prog w = .ok (.tuple #[.nilIface, .bool false]) w := run_typeAssert_lacksB Tryz.underlying162 (by kernel_rfl) (by kernel_rfl) v 20 w
theorem ti162_77 (v : Value) (w : World) : (Instr.typeAssert (.iface 77 v) 20 162 true).run Tryz.prog w = .ok (.tuple #[.nilIface, .bool false]) w := run_typeAssert_lacksB Tryz.underlying162 (by kernel_rfl) (by kernel_rfl) v 20 w
theorem ti162_197 (v : Value) (w : World) : (Instr.typeAssert (.iface 197 v) 20 162 true).run Tryz.prog w = .ok (.tuple #[.nilIface, .bool false]) w := run_typeAssert_lacksB Tryz.underlying162 (by kernel_rfl) (by kernel_rfl) v 20 w
theorem ti162_198 (v : Value) (w : World) : (Instr.typeAssert (.iface 198 v) 20 162 true).run Tryz.prog w = .ok (.tuple #[.nilIface, .bool false]) w := run_typeAssert_lacksB Tryz.underlying162 (by kernel_rfl) (by kernel_rfl) v 20 w
theorem ti162_199 (v : Value) (w : World) : (Instr.typeAssert (.iface 199 v) 20 162 true).run Tryz.prog w = .ok (.tuple #[.nilIface, .bool false]) w := run_typeAssert_lacksB Tryz.underlying162 (by kernel_rfl) (by kernel_rfl) v 20 w
theorem ti162_182 (v : Value) (w : World) : (Instr.typeAssert (.iface 182 v) 20 162 true).run Tryz.prog w = .ok (.tuple #[.nilIface, .bool false]) w := run_typeAssert_lacksB Tryz.underlying162 (by kernel_rfl) (by kernel_rfl) v 20 w
theorem ti162_146 (v : Value) (w : World) : (Instr.typeAssert (.iface 146 v) 20 162 true).run Tryz.prog w = .ok (.tuple #[.iface 146 v, .bool true]) w := run_typeAssert_hasB Tryz.underlying162 (by kernel_rfl) v 20 w
theorem tj162_146 (v : Value) (w : World) : (Instr.typeAssert (.iface 146 v) 20 162 false).run Tryz.prog w = .ok (.iface 146 v) w := by kernel_rfl
theorem ti162_147 (v : Value) (w : World) : (Instr.typeAssert (.iface 147 v) 20 162 true).run Tryz.prog w = .ok (.tuple #[.nilIface, .bool false]) w := run_typeAssert_lacksB Tryz.underlying162 (by kernel_rfl) (by kernel_rfl) v 20 w
theorem ti162_148 (v : Value) (w : World) : (Instr.typeAssert (.iface 148 v) 20 162 true).run Tryz.prog w = .ok (.tuple #[.nilIface, .bool false]) w := run_typeAssert_lacksB Tryz.underlying162 (by kernel_rfl) (by kernel_rfl) v 20 w
theorem ti162_149 (v : Value) (w : World) : (Instr.typeAssert (.iface 149 v) 20 162 true).run Tryz.prog w = .ok (.tuple #[.nilIface, .bool false]) w := run_typeAssert_lacksB Tryz.underlying162 (by kernel_rfl) (by kernel_rfl) v 20 w
theorem ti162_150 (v : Value) (w : World) : (Instr.typeAssert (.iface 150 v) 20 162 true).run Tryz.prog w = .ok (.tuple #[.nilIface, .bool false]) w := run_typeAssert_lacksB Tryz.underlying162 (by kernel_rfl) (by kernel_rfl) v 20 w
theorem ti162_151 (v : Value) (w : World) : (Instr.typeAssert (.iface 151 v) 20 162 true).run Tryz.prog w = .ok (.tuple #[.nilIface, .bool false]) w := run_typeAssert_lacksB Tryz.underlying162 (by kernel_rfl) (by kernel_rfl) v 20 w
theorem ti162_101 (v : Value) (w : World) : (Instr.typeAssert (.iface 101 v) 20 162 true).run Tryz.prog w = .ok (.tuple #[.nilIface, .bool false]) w := run_typeAssert_lacksB Tryz.underlying162 (by kernel_rfl) (by kernel_rfl) v 20 w
theorem ti162_153 (v : Value) (w : World) : (Instr.typeAssert (.iface 153 v) 20 162 true).run Tryz.prog w = .ok (.tuple #[.nilIface, .bool false]) w := run_typeAssert_lacksB Tryz.underlying162 (by kernel_rfl) (by kernel_rfl) v 20 w
theorem ti162_154 (v : Value) (w : World) : (Instr.typeAssert (.iface 154 v) 20 162 true).run Tryz.prog w = .ok (.tuple #[.nilIface, .bool false]) w := run_typeAssert_lacksB Tryz.underlying162 (by kernel_rfl) (by kernel_rfl) v 20 w
theorem ti162_155 (v : Value) (w : World) : (Instr.typeAssert (.iface 155 v) 20 162 true).run Tryz.prog w = .ok (.tuple #[.nilIface, .bool false]) w := run_typeAssert_lacksB Tryz.underlying162 (by kernel_rfl) (by kernel_rfl) v 20 w
theorem ti162_156 (v : Value) (w : World) : (Instr.typeAssert (.iface 156 v) 20 162 true).run Tryz.prog w = .ok (.tuple #[.nilIface, .bool false]) w := run_typeAssert_lacksB Tryz.underlying162 (by kernel_rfl) (by kernel_rfl) v 20 w
theorem ti162_107 (v : Value) (w : World) : (Instr.typeAssert (.iface 107 v) 20 162 true).run Tryz.prog w = .ok (.tuple #[.nilIface, .bool false]) w := run_typeAssert_lacksB Tryz.underlying162 (by kernel_rfl) (by kernel_rfl) v 20 w
theorem ti162_160 (v : Value) (w : World) : (Instr.typeAssert (.iface 160 v) 20 162 true).run Tryz.prog w = .ok (.tuple #[.iface 160 v, .bool true]) w := run_typeAssert_hasB Tryz.underlying162 (by kernel_rfl) v 20 w
theorem tj162_160 (v : Value) (w : World) : (Instr.typeAssert (.iface 160 v) 20 162 false).run Tryz.prog w = .ok (.iface 160 v) w := by kernel_rfl
theorem ti162_86 (v : Value) (w : World) : (Instr.typeAssert (.iface 86 v) 20 162 true).run Tryz.prog w = .ok (.tuple #[.nilIface, .bool false]) w := run_typeAssert_lacksB Tryz.underlying162 (by kernel_rfl) (by kernel_rfl) v 20 w
theorem ti162_142 (v : Value) (w : World) : (Instr.typeAssert (.iface 142 v) 20 162 true).run Tryz.prog w = .ok (.tuple #[.nilIface, .bool false]) w := run_typeAssert_lacksB Tryz.underlying162 (by kernel_rfl) (by kernel_rfl) v 20 w
theorem ti162_144 (v : Value) (w : World) : (Instr.typeAssert (.iface 144 v) 20 162 true).run Tryz.prog w = .ok (.tuple #[.nilIface, .bool false]) w := run_typeAssert_lacksB Tryz.underlying162 (by kernel_rfl) (by kernel_rfl) v 20 w
theorem ti162_205 (v : Value) (w : World) : (Instr.typeAssert (.iface 205 v) 20 162 true).run Tryz.prog w = .ok (.tuple #[.iface 205 v, .bool true]) w := run_typeAssert_hasB Tryz.underlying162 (by kernel_rfl) v 20 w
theorem tj162_205 (v : Value) (w : World) : (Instr.typeAssert (.iface 205 v) 20 162 false).run Tryz.prog w = .ok (.iface 205 v) w := by kernel_rfl
theorem tm162 (w : World) : (Instr.typeAssert .nilIface 20 162 true).run Tryz.prog w = .ok (.tuple #[.nilIface, .bool false]) w := by kernel_rfl
theorem ti225_9 (v : Value) (w : World) : (Instr.typeAssert (.iface 9 v) 20 225 true).run Tryz.prog w = .ok (.tuple #[.nilIface, .bool false]) w := run_typeAssert_lacksB Tryz.underlying225 (by kernel_rfl) (by kernel_rfl) v 20 w
theorem ti225_3 (v : Value) (w : World) : (Instr.typeAssert (.iface 3 v) 20 225 true).run Tryz.prog w = .ok (.tuple #[.nilIface, .bool false]) w := run_typeAssert_lacksB Tryz.underlying225 (by kernel_rfl) (by kernel_rfl) v 20 w
theorem ti225_176 (v : Value) (w : World) : (Instr.typeAssert (.iface 176 v) 20 225 true).run Tryz.prog w = .ok (.tuple #[.nilIface, .bool false]) w := run_typeAssert_lacksB Tryz.underlying225 (by kernel_rfl) (by kernel_rfl) v 20 w
theorem ti225_2 (v : Value) (w : World) : (Instr.typeAssert (.iface 2 v) 20 225 true).run Tryz.prog w = .ok (.tuple #[.nilIface, .bool false]) w := run_typeAssert_lacksB Tryz.underlying225 (by kernel_rfl) (by kernel_rfl) v 20 w
theorem ti225_22 (v : Value) (w : World) : (Instr.typeAssert (.iface 22 v) 20 225 true).run Tryz.prog w = .ok (.tuple #[.nilIface, .bool false]) w := run_typeAssert_lacksB Tryz.underlying225 (by kernel_rfl) (by kernel_rfl) v 20 w
theorem ti225_4 (v : Value) (w : World) : (Instr.typeAssert (.iface 4 v) 20 225 true).run Tryz.prog w = .ok (.tuple #[.nilIface, .bool false]) w := run_typeAssert_lacksB Tryz.underlying225 (by kernel_rfl) (by kernel_rfl) v 20 w
theorem ti225_128 (v : Value) (w : World) : (Instr.typeAssert (.iface 128 v) 20 225 true).run Tryz.prog w = .ok (.tuple #[.iface 128 v, .bool true]) w := run_typeAssert_hasB Tryz.underlying225 (by kernel_rfl) v 20 w
theorem tj225_128 (v : Value) (w : World) : (Instr.typeAssert (.iface 128 v) 20 225 false).run Tryz.prog w = .ok (.iface 128 v) w := by kernel_rfl
theorem ti225_106 (v : Value) (w : World) : (Instr.typeAssert (.iface 106 v) 20 225 true).run Tryz.prog w = .ok (.tuple #[.nilIface, .bool false]) w := run_typeAssert_lacksB Tryz.underlying225 (by kernel_rfl) (by kernel_rfl) v 20 w
theorem ti225_5 (v : Value) (w : World) : (Instr.typeAssert (.iface 5 v) 20 225 true).run Tryz.prog w = .ok (.tuple #[.nilIface, .bool false]) w := run_typeAssert_lacksB Tryz.underlying225 (by kernel_rfl) (by kernel_rfl) v 20 w
theorem ti225_177 (v : Value) (w : World) : (Instr.typeAssert (.iface 177 v) 20 225 true).run Tryz.prog w = .ok (.tuple #[.nilIface, .bool false]) w := run_typeAssert_lacksB Tryz.underlying225 (by kernel_rfl) (by kernel_rfl) v 20 w
theorem ti225_178 (v : Value) (w : World) : (Instr.typeAssert (.iface 178 v) 20 225 true).run Tryz.prog w = .ok (.tuple #[.nilIface, .bool false]) w := run_typeAssert_lacksB Tryz.underlying225 (by kernel_rfl) (by kernel_rfl) v 20 w
theorem ti225_12 (v : Value) (w : World) : (Instr.typeAssert (.iface 12 v) 20 225 true).run Tryz.prog w = .ok (.tuple #[.nilIface, .bool false]) w := run_typeAssert_lacksB Tryz.underlying225 (by kernel_rfl) (by kernel_rfl) v 20 w
theorem ti225_179 (v : Value) (w : World) : (Instr.typeAssert (.iface 179 v) 20 225 true).run Tryz.prog w = .ok (.tuple #[.nilIface, .bool false]) w := run_typeAssert_lacksB Tryz.underlying225 (by kernel_rfl) (by kernel_rfl) v 20 w
theorem ti225_180 (v : Value) (w : World) : (Instr.typeAssert (.iface 180 v) 20 225 true).run Tryz.prog w = .ok (.tuple #[.nilIface, .bool false]) w := run_typeAssert_lacksB Tryz.underlying225 (by kernel_rfl) (by kernel_rfl) v 20 w
theorem ti225_21 (v : Value) (w : World) : (Instr.typeAssert (.iface 21 v) 20 225 true).run Tryz.prog w = .ok (.tuple #[.nilIface, .bool false]) w := run_typeAssert_lacksB Tryz.underlying225 (by kernel_rfl) (by kernel_rfl) v 20 w
theorem ti225_131 (v : Value) (w : World) : (Instr.typeAssert (.iface 131 v) 20 225 true).run Tryz.prog w = .ok (.tuple #[.nilIface, .bool false]) w := run_typeAssert_lacksB Tryz.underlying225 (by kernel_rfl) (by kernel_rfl) v 20 w
theorem ti225_181 (v : Value) (w : World) : (Instr.typeAssert (.iface 181 v) 20 225 true).run Tryz.prog w = .ok (.tuple #[.nilIface, .bool false]) w := run_typeAssert_lacksB Tryz.underlying225 (by kernel_rfl) (by kernel_rfl) v 20 w
theorem ti225_88 (v : Value) (w : World) : (Instr.typeAssert (.iface 88 v) 20 225 true).run Tryz.prog w = .ok (.tuple #[.nilIface, .bool false]) w := run_typeAssert_lacksB Tryz.underlying225 (by kernel_rfl) (by kernel_rfl) v 20 w
theorem ti225_125 (v : Value) (w : World) : (Instr.typeAssert (.iface 125 v) 20 225 true).run Tryz.prog w = .ok (.tuple #[.iface 125 v, .bool true]) w := run_typeAssert_hasB Tryz.underlying225 (by kernel_rfl) v 20 w
theorem tj225_125 (v : Value) (w : World) : (Instr.typeAssert (.iface 125 v) 20 225 false).run Tryz.prog w = .ok (.iface 125 v) w := by kernel_rfl
theorem ti225_77 (v : Value) (w : World) : (Instr.typeAssert (.iface 77 v) 20 225 true).run Tryz.prog w = .ok (.tuple #[.iface 77 v, .bool true]) w := run_typeAssert_hasB Tryz.underlying225 (by kernel_rfl) v 20 w
theorem tj225_77 (v : Value) (w : World) : (Instr.typeAssert (.iface 77 v) 20 225 false).run Tryz.prog w = .ok (.iface 77 v) w := by kernel_rfl
theorem ti225_197 (v : Value) (w : World) : (Instr.typeAssert (.iface 197 v) 20 225 true).run Tryz.prog w = .ok (.tuple #[.nilIface, .bool false]) w := run_typeAssert_lacksB Tryz.underlying225 (by kernel_rfl) (by kernel_rfl) v 20 w
theorem ti225_198 (v : Value) (w : World) : (Instr.typeAssert (.iface 198 v) 20 225 true).run Tryz.prog w = .ok (.tuple #[.nilIface, .bool false]) w := run_typeAssert_lacksB Tryz.underlying225 (by kernel_rfl) (by kernel_rfl) v 20 w
theorem ti225_199 (v : Value) (w : World) : (Instr.typeAssert (.iface 199 v) 20 225 true).run Tryz.prog w = .ok (.tuple #[.nilIface, .bool false]) w := run_typeAssert_lacksB Tryz.underlying225 (by kernel_rfl) (by kernel_rfl) v 20 w
theorem ti225_182 (v : Value) (w : World) : (Instr.typeAssert (.iface 182 v) 20 225 true).run Tryz.prog w = .ok (.tuple #[.nilIface, .bool false]) w := run_typeAssert_lacksB Tryz.underlying225 (by kernel_rfl) (by kernel_rfl) v 20 w
theorem ti225_146 (v : Value) (w : World) : (Instr.typeAssert (.iface 146 v) 20 225 true).run Tryz.prog w = .ok (.tuple #[.nilIface, .bool false]) w := run_typeAssert_lacksB Tryz.underlying225 (by kernel_rfl) (by kernel_rfl) v 20 w
theorem ti225_147 (v : Value) (w : World) : (Instr.typeAssert (.iface 147 v) 20 225 true).run Tryz.prog w = .ok (.tuple #[.iface 147 v, .bool true]) w := run_typeAssert_hasB Tryz.underlying225 (by kernel_rfl) v 20 w
theorem tj225_147 (v : Value) (w : World) : (Instr.typeAssert (.iface 147 v) 20 225 false).run Tryz.prog w = .ok (.iface 147 v) w := by kernel_rfl
theorem ti225_148 (v : Value) (w : World) : (Instr.typeAssert (.iface 148 v) 20 225 true).run Tryz.prog w = .ok (.tuple #[.nilIface, .bool false]) w := run_typeAssert_lacksB Tryz.underlying225 (by kernel_rfl) (by kernel_rfl) v 20 w
theorem ti225_149 (v : Value) (w : World) : (Instr.typeAssert (.iface 149 v) 20 225 true).run Tryz.prog w = .ok (.tuple #[.nilIface, .bool false]) w := run_typeAssert_lacksB Tryz.underlying225 (by kernel_rfl) (by kernel_rfl) v 20 w
theorem ti225_150 (v : Value) (w : World) : (Instr.typeAssert (.iface 150 v) 20 225 true).run Tryz.prog w = .ok (.tuple #[.nilIface, .bool false]) w := run_typeAssert_lacksB Tryz.underlying225 (by kernel_rfl) (by kernel_rfl) v 20 w
theorem ti225_151 (v : Value) (w : World) : (Instr.typeAssert (.iface 151 v) 20 225 true).run Tryz.prog w = .ok (.tuple #[.nilIface, .bool false]) w := run_typeAssert_lacksB Tryz.underlying225 (by kernel_rfl) (by kernel_rfl) v 20 w
theorem ti225_101 (v : Value) (w : World) : (Instr.typeAssert (.iface 101 v) 20 225 true).run Tryz.prog w = .ok (.tuple #[.iface 101 v, .bool true]) w := run_typeAssert_hasB Tryz.underlying225 (by kernel_rfl) v 20 w
theorem tj225_101 (v : Value) (w : World) : (Instr.typeAssert (.iface 101 v) 20 225 false).run Tryz.prog w = .ok (.iface 101 v) w := by kernel_rfl
theorem ti225_153 (v : Value) (w : World) : (Instr.typeAssert (.iface 153 v) 20 225 true).run Tryz.prog w = .ok (.tuple #[.nilIface, .bool false]) w := run_typeAssert_lacksB Tryz.underlying225 (by kernel_rfl) (by kernel_rfl) v 20 w
theorem ti225_154 (v : Value) (w : World) : (Instr.typeAssert (.iface 154 v) 20 225 true).run Tryz.prog w = .ok (.tuple #[.nilIface, .bool false]) w := run_typeAssert_lacksB Tryz.underlying225 (by kernel_rfl) (by kernel_rfl) v 20 w
theorem ti225_155 (v : Value) (w : World) : (Instr.typeAssert (.iface 155 v) 20 225 true).run Tryz.prog w = .ok (.tuple #[.nilIface, .bool false]) w := run_typeAssert_lacksB Tryz.underlying225 (by kernel_rfl) (by kernel_rfl) v 20 w
theorem ti225_156 (v : Value) (w : World) : (Instr.typeAssert (.iface 156 v) 20 225 true).run Tryz.prog w = .ok (.tuple #[.nilIface, .bool false]) w := run_typeAssert_lacksB Tryz.underlying225 (by kernel_rfl) (by kernel_rfl) v 20 w
theorem ti225_107 (v : Value) (w : World) : (Instr.typeAssert (.iface 107 v) 20 225 true).run Tryz.prog w = .ok (.tuple #[.nilIface, .bool false]) w := run_typeAssert_lacksB Tryz.underlying225 (by kernel_rfl) (by kernel_rfl) v 20 w
theorem ti225_160 (v : Value) (w : World) : (Instr.typeAssert (.iface 160 v) 20 225 true).run Tryz.prog w = .ok (.tuple #[.nilIface, .bool false]) w := run_typeAssert_lacksB Tryz.underlying225 (by kernel_rfl) (by kernel_rfl) v 20 w
theorem ti225_86 (v : Value) (w : World) : (Instr.typeAssert (.iface 86 v) 20 225 true).run Tryz.prog w = .ok (.tuple #[.iface 86 v, .bool true]) w := run_typeAssert_hasB Tryz.underlying225 (by kernel_rfl) v 20 w
theorem tj225_86 (v : Value) (w : World) : (Instr.typeAssert (.iface 86 v) 20 225 false).run Tryz.prog w = .ok (.iface 86 v) w := by kernel_rfl
theorem ti225_142 (v : Value) (w : World) : (Instr.typeAssert (.iface 142 v) 20 225 true).run Tryz.prog w = .ok (.tuple #[.nilIface, .bool false]) w := run_typeAssert_lacksB Tryz.underlying225 (by kernel_rfl) (by kernel_rfl) v 20 w
theorem ti225_144 (v : Value) (w : World) : (Instr.typeAssert (.iface 144 v) 20 225 true).run Tryz.prog w = .ok (.tuple #[.nilIface, .bool false]) w := run_typeAssert_lacksB Tryz.underlying225 (by kernel_rfl) (by kernel_rfl) v 20 w
theorem ti225_205 (v : Value) (w : World) : (Instr.typeAssert (.iface 205 v) 20 225 true).run Tryz.prog w = .ok (.tuple #[.nilIface, .bool false]) w := run_typeAssert_lacksB Tryz.underlying225 (by kernel_rfl) (by kernel_rfl) v 20 w
theorem tm225 (w : World) : (Instr.typeAssert .nilIface 20 225 true).run Tryz.prog w = .ok (.tuple #[.nilIface, .bool false]) w := by kernel_rfl
theorem mk9 (v : Value) (w : World) : (Instr.makeInterface 9 v).run Tryz.prog w = .ok (.iface 9 v) w := by kernel_rfl
theorem mk3 (v : Value) (w : World) : (Instr.makeInterface 3 v).run Tryz.prog w = .ok (.iface 3 v) w := by kernel_rfl
theorem mk176 (v : Value) (w : World) : (Instr.makeInterface 176 v).run Tryz.prog w = .ok (.iface 176 v) w := by kernel_rfl
theorem mk2 (v : Value) (w : World) : (Instr.makeInterface 2 v).run Tryz.prog w = .ok (.iface 2 v) w := by kernel_rfl
theorem mk22 (v : Value) (w : World) : (Instr.makeInterface 22 v).run Tryz.prog w = .ok (.iface 22 v) w := by kernel_rfl
theorem mk4 (v : Value) (w : World) : (Instr.makeInterface 4 v).run Tryz.prog w = .ok (.iface 4 v) w := by kernel_rfl
theorem mk128 (v : Value) (w : World) : (Instr.makeInterface 128 v).run Tryz.prog w = .ok (.iface 128 v) w := by kernel_rfl
theorem mk106 (v : Value) (w : World) : (Instr.makeInterface 106 v).run Tryz.prog w = .ok (.iface 106 v) w := by kernel_rfl
theorem mk5 (v : Value) (w : World) : (Instr.makeInterface 5 v).run Tryz.prog w = .ok (.iface 5 v) w := by kernel_rfl
theorem mk177 (v : Value) (w : World) : (Instr.makeInterface 177 v).run Tryz.prog w = .ok (.iface 177 v) w := by kernel_rfl
theorem mk178 (v : Value) (w : World) : (Instr.makeInterface 178 v).run Tryz.prog w = .ok (.iface 178 v) w := by kernel_rfl
theorem mk12 (v : Value) (w : World) : (Instr.makeInterface 12 v).run Tryz.prog w = .ok (.iface 12 v) w := by kernel_rfl
theorem mk179 (v : Value) (w : World) : (Instr.makeInterface 179 v).run Tryz.prog w = .ok (.iface 179 v) w := by kernel_rfl
theorem mk180 (v : Value) (w : World) : (Instr.makeInterface 180 v).run Tryz.prog w = .ok (.iface 180 v) w := by kernel_rfl
theorem mk21 (v : Value) (w : World) : (Instr.makeInterface 21 v).run Tryz.prog w = .ok (.iface 21 v) w := by kernel_rfl
theorem mk131 (v : Value) (w : World) : (Instr.makeInterface 131 v).run Tryz.prog w = .ok (.iface 131 v) w := by kernel_rfl
theorem mk181 (v : Value) (w : World) : (Instr.makeInterface 181 v).run Tryz.prog w = .ok (.iface 181 v) w := by kernel_rfl
theorem mk88 (v : Value) (w : World) : (Instr.makeInterface 88 v).run Tryz.prog w = .ok (.iface 88 v) w := by kernel_rfl
theorem mk125 (v : Value) (w : World) : (Instr.makeInterface 125 v).run Tryz.prog w = .ok (.iface 125 v) w := by kernel_rfl
theorem mk77 (v : Value) (w : World) : (Instr.makeInterface 77 v).run Tryz.prog w = .ok (.iface 77 v) w := by kernel_rfl
theorem mk197 (v : Value) (w : World) : (Instr.makeInterface 197 v).run Tryz.prog w = .ok (.iface 197 v) w := by kernel_rfl
theorem mk198 (v : Value) (w : World) : (Instr.makeInterface 198 v).run Tryz.prog w = .ok (.iface 198 v) w := by kernel_rfl
theorem mk199 (v : Value) (w : World) : (Instr.makeInterface 199 v).run Tryz.prog w = .ok (.iface 199 v) w := by kernel_rfl
theorem mk182 (v : Value) (w : World) : (Instr.makeInterface 182 v).run Tryz.prog w = .ok (.iface 182 v) w := by kernel_rfl
theorem mk146 (v : Value) (w : World) : (Instr.makeInterface 146 v).run Tryz.prog w = .ok (.iface 146 v) w := by kernel_rfl
theorem mk147 (v : Value) (w : World) : (Instr.makeInterface 147 v).run Tryz.prog w = .ok (.iface 147 v) w := by kernel_rfl
theorem mk148 (v : Value) (w : World) : (Instr.makeInterface 148 v).run Tryz.prog w = .ok (.iface 148 v) w := by kernel_rfl
theorem mk149 (v : Value) (w : World) : (Instr.makeInterface 149 v).run Tryz.prog w = .ok (.iface 149 v) w := by kernel_rfl
theorem mk150 (v : Value) (w : World) : (Instr.makeInterface 150 v).run Tryz.prog w = .ok (.iface 150 v) w := by kernel_rfl
theorem mk151 (v : Value) (w : World) : (Instr.makeInterface 151 v).run Tryz.prog w = .ok (.iface 151 v) w := by kernel_rfl
theorem mk101 (v : Value) (w : World) : (Instr.makeInterface 101 v).run Tryz.prog w = .ok (.iface 101 v) w := by kernel_rfl
theorem mk153 (v : Value) (w : World) : (Instr.makeInterface 153 v).run Tryz.prog w = .ok (.iface 153 v) w := by kernel_rfl
theorem mk154 (v : Value) (w : World) : (Instr.makeInterface 154 v).run Tryz.prog w = .ok (.iface 154 v) w := by kernel_rfl
theorem mk155 (v : Value) (w : World) : (Instr.makeInterface 155 v).run Tryz.prog w = .ok (.iface 155 v) w := by kernel_rfl
theorem mk156 (v : Value) (w : World) : (Instr.makeInterface 156 v).run Tryz.prog w = .ok (.iface 156 v) w := by kernel_rfl
theorem mk107 (v : Value) (w : World) : (Instr.makeInterface 107 v).run Tryz.prog w = .ok (.iface 107 v) w := by kernel_rfl
theorem mk160 (v : Value) (w : World) : (Instr.makeInterface 160 v).run Tryz.prog w = .ok (.iface 160 v) w := by kernel_rfl
theorem mk86 (v : Value) (w : World) : (Instr.makeInterface 86 v).run Tryz.prog w = .ok (.iface 86 v) w := by kernel_rfl
theorem mk142 (v : Value) (w : World) : (Instr.makeInterface 142 v).run Tryz.prog w = .ok (.iface 142 v) w := by kernel_rfl
theorem mk144 (v : Value) (w : World) : (Instr.makeInterface 144 v).run Tryz.prog w = .ok (.iface 144 v) w := by kernel_rfl
theorem mk205 (v : Value) (w : World) : (Instr.makeInterface 205 v).run Tryz.prog w = .ok (.iface 205 v) w := by kernel_rfl

attribute [go_sem] ta9_20 tn9_20 ty9 ta3_20 tn3_20 ty3 ta176_20 tn176_20 ty176 ta2_20 tn2_20 ty2 ta22_20 tn22_20 ty22 ta4_20 tn4_20 ty4 ta128_20 tn128_20 ty128 ta106_20 tn106_20 ty106 ta5_20 tn5_20 ty5 ta177_20 tn177_20 ty177 ta178_20 tn178_20 ty178 ta12_20 tn12_20 ty12 ta179_20 tn179_20 ty179 ta180_20 tn180_20 ty180 ta21_20 tn21_20 ty21 ta131_20 tn131_20 ty131 ta181_20 tn181_20 ty181 ta88_20 tn88_20 ty88 ta125_20 tn125_20 ty125 ta77_20 tn77_20 ty77 ta197_20 tn197_20 ty197 ta198_20 tn198_20 ty198 ta199_20 tn199_20 ty199 ta182_20 tn182_20 ty182 ta146_20 tn146_20 ty146 ta147_20 tn147_20 ty147 ta148_20 tn148_20 ty148 ta149_20 tn149_20 ty149 ta150_20 tn150_20 ty150 ta151_20 tn151_20 ty151 ta101_20 tn101_20 ty101 ta153_20 tn153_20 ty153 ta154_20 tn154_20 ty154 ta155_20 tn155_20 ty155 ta156_20 tn156_20 ty156 ta107_20 tn107_20 ty107 ta160_20 tn160_20 ty160 ta86_20 tn86_20 ty86 ta142_20 tn142_20 ta142_139 tn142_139 ty142 ta144_20 tn144_20 ta144_139 tn144_139 ty144 ta205_20 tn205_20 ty205 ti139_9 ti139_3 ti139_176 ti139_2 ti139_22 ti139_4 ti139_128 ti139_106 ti139_5 ti139_177 ti139_178 ti139_12 ti139_179 ti139_180 ti139_21 ti139_131 ti139_181 ti139_88 ti139_125 ti139_77 ti139_197 ti139_198 ti139_199 ti139_182 ti139_146 ti139_147 ti139_148 ti139_149 ti139_150 ti139_151 ti139_101 ti139_153 ti139_154 ti139_155 ti139_156 ti139_107 ti139_160 ti139_86 ti139_142 tj139_142 ti139_144 tj139_144 ti139_205 tm139 ti162_9 ti162_3 ti162_176 ti162_2 ti162_22 ti162_4 ti162_128 ti162_106 ti162_5 ti162_177 ti162_178 ti162_12 ti162_179 ti162_180 ti162_21 ti162_131 ti162_181 ti162_88 ti162_125 ti162_77 ti162_197 ti162_198 ti162_199 ti162_182 ti162_146 tj162_146 ti162_147 ti162_148 ti162_149 ti162_150 ti162_151 ti162_101 ti162_153 ti162_154 ti162_155 ti162_156 ti162_107 ti162_160 tj162_160 ti162_86 ti162_142 ti162_144 ti162_205 tj162_205 tm162 ti225_9 ti225_3 ti225_176 ti225_2 ti225_22 ti225_4 ti225_128 tj225_128 ti225_106 ti225_5 ti225_177 ti225_178 ti225_12 ti225_179 ti225_180 ti225_21 ti225_131 ti225_181 ti225_88 ti225_125 tj225_125 ti225_77 tj225_77 ti225_197 ti225_198 ti225_199 ti225_182 ti225_146 ti225_147 tj225_147 ti225_148 ti225_149 ti225_150 ti225_151 ti225_101 tj225_101 ti225_153 ti225_154 ti225_155 ti225_156 ti225_107 ti225_160 ti225_86 tj225_86 ti225_142 ti225_144 ti225_205 tm225 mk9 mk3 mk176 mk2 mk22 mk4 mk128 mk106 mk5 mk177 mk178 mk12 mk179 mk180 mk21 mk131 mk181 mk88 mk125 mk77 mk197 mk198 mk199 mk182 mk146 mk147 mk148 mk149 mk150 mk151 mk101 mk153 mk154 mk155 mk156 mk107 mk160 mk86 mk142 mk144 mk205
end Go.Proofs.YtdeomgfapffidaaGreatDoor.Facts
