/- What type assertions and conversions to interface values come to: closed facts of this program, each by the kernel, as rules of the walk. Written by a program of mine (facts.py). -/
import Derived.Test.YtihhgnbgejjijaaGreatDoorProg
import Derived.WalkKit
import Derived.Stop.Asserts
import Derived.WalkLawsBesides
namespace Go.Proofs.YtihhgnbgejjijaaGreatDoor.Facts
open Go

theorem tz9 (w : World) : (do pure (Value.tuple #[← zeroValue 9, .bool false]) : Sem Value).run Tryz.prog w = .ok (.tuple #[.string ⟨#[]⟩, .bool false]) w := by kernel_rfl
theorem ta9_20 (u : TypeId) (v : Value) (w : World) : (Instr.typeAssert (.iface u v) 20 9 true).run Tryz.prog w = .ok (.tuple (if u = 9 then #[v, .bool true] else #[.string ⟨#[]⟩, .bool false])) w := by
  have e : (Instr.typeAssert (.iface u v) 20 9 true).run Tryz.prog w = (if u = 9 then (pure (Value.tuple #[v, .bool true]) : Sem Value) else (do pure (Value.tuple #[← zeroValue 9, .bool false]))).run Tryz.prog w := by kernel_rfl
  rw [e]; by_cases h : u = 9
  · rw [if_pos h, if_pos h]; rfl
  · rw [if_neg h, if_neg h]; exact tz9 w
theorem tn9_20 (w : World) : (Instr.typeAssert .nilIface 20 9 true).run Tryz.prog w = .ok (.tuple #[.string ⟨#[]⟩, .bool false]) w := by kernel_rfl
theorem ty9 (v : Value) (w : World) : (Instr.typeAssert (.iface 9 v) 20 9 false).run Tryz.prog w = .ok v w := by kernel_rfl
theorem tz3 (w : World) : (do pure (Value.tuple #[← zeroValue 3, .bool false]) : Sem Value).run Tryz.prog w = .ok (.tuple #[.int .i64 (0), .bool false]) w := by kernel_rfl
theorem ta3_20 (u : TypeId) (v : Value) (w : World) : (Instr.typeAssert (.iface u v) 20 3 true).run Tryz.prog w = .ok (.tuple (if u = 3 then #[v, .bool true] else #[.int .i64 (0), .bool false])) w := by
  have e : (Instr.typeAssert (.iface u v) 20 3 true).run Tryz.prog w = (if u = 3 then (pure (Value.tuple #[v, .bool true]) : Sem Value) else (do pure (Value.tuple #[← zeroValue 3, .bool false]))).run Tryz.prog w := by kernel_rfl
  rw [e]; by_cases h : u = 3
  · rw [if_pos h, if_pos h]; rfl
  · rw [if_neg h, if_neg h]; exact tz3 w
theorem tn3_20 (w : World) : (Instr.typeAssert .nilIface 20 3 true).run Tryz.prog w = .ok (.tuple #[.int .i64 (0), .bool false]) w := by kernel_rfl
theorem ty3 (v : Value) (w : World) : (Instr.typeAssert (.iface 3 v) 20 3 false).run Tryz.prog w = .ok v w := by kernel_rfl
theorem tz233 (w : World) : (do pure (Value.tuple #[← zeroValue 233, .bool false]) : Sem Value).run Tryz.prog w = .ok (.tuple #[.int .u64 (0), .bool false]) w := by kernel_rfl
theorem ta233_20 (u : TypeId) (v : Value) (w : World) : (Instr.typeAssert (.iface u v) 20 233 true).run Tryz.prog w = .ok (.tuple (if u = 233 then #[v, .bool true] else #[.int .u64 (0), .bool false])) w := by
  have e : (Instr.typeAssert (.iface u v) 20 233 true).run Tryz.prog w = (if u = 233 then (pure (Value.tuple #[v, .bool true]) : Sem Value) else (do pure (Value.tuple #[← zeroValue 233, .bool false]))).run Tryz.prog w := by kernel_rfl
  rw [e]; by_cases h : u = 233
  · rw [if_pos h, if_pos h]; rfl
  · rw [if_neg h, if_neg h]; exact tz233 w
theorem tn233_20 (w : World) : (Instr.typeAssert .nilIface 20 233 true).run Tryz.prog w = .ok (.tuple #[.int .u64 (0), .bool false]) w := by kernel_rfl
theorem ty233 (v : Value) (w : World) : (Instr.typeAssert (.iface 233 v) 20 233 false).run Tryz.prog w = .ok v w := by kernel_rfl
theorem tz2 (w : World) : (do pure (Value.tuple #[← zeroValue 2, .bool false]) : Sem Value).run Tryz.prog w = .ok (.tuple #[.int .i64 (0), .bool false]) w := by kernel_rfl
theorem ta2_20 (u : TypeId) (v : Value) (w : World) : (Instr.typeAssert (.iface u v) 20 2 true).run Tryz.prog w = .ok (.tuple (if u = 2 then #[v, .bool true] else #[.int .i64 (0), .bool false])) w := by
  have e : (Instr.typeAssert (.iface u v) 20 2 true).run Tryz.prog w = (if u = 2 then (pure (Value.tuple #[v, .bool true]) : Sem Value) else (do pure (Value.tuple #[← zeroValue 2, .bool false]))).run Tryz.prog w := by kernel_rfl
  rw [e]; by_cases h : u = 2
  · rw [if_pos h, if_pos h]; rfl
  · rw [if_neg h, if_neg h]; exact tz2 w
theorem tn2_20 (w : World) : (Instr.typeAssert .nilIface 20 2 true).run Tryz.prog w = .ok (.tuple #[.int .i64 (0), .bool false]) w := by kernel_rfl
theorem ty2 (v : Value) (w : World) : (Instr.typeAssert (.iface 2 v) 20 2 false).run Tryz.prog w = .ok v w := by kernel_rfl
theorem tz29 (w : World) : (do pure (Value.tuple #[← zeroValue 29, .bool false]) : Sem Value).run Tryz.prog w = .ok (.tuple #[.int .u64 (0), .bool false]) w := by kernel_rfl
theorem ta29_20 (u : TypeId) (v : Value) (w : World) : (Instr.typeAssert (.iface u v) 20 29 true).run Tryz.prog w = .ok (.tuple (if u = 29 then #[v, .bool true] else #[.int .u64 (0), .bool false])) w := by
  have e : (Instr.typeAssert (.iface u v) 20 29 true).run Tryz.prog w = (if u = 29 then (pure (Value.tuple #[v, .bool true]) : Sem Value) else (do pure (Value.tuple #[← zeroValue 29, .bool false]))).run Tryz.prog w := by kernel_rfl
  rw [e]; by_cases h : u = 29
  · rw [if_pos h, if_pos h]; rfl
  · rw [if_neg h, if_neg h]; exact tz29 w
theorem tn29_20 (w : World) : (Instr.typeAssert .nilIface 20 29 true).run Tryz.prog w = .ok (.tuple #[.int .u64 (0), .bool false]) w := by kernel_rfl
theorem ty29 (v : Value) (w : World) : (Instr.typeAssert (.iface 29 v) 20 29 false).run Tryz.prog w = .ok v w := by kernel_rfl
theorem tz4 (w : World) : (do pure (Value.tuple #[← zeroValue 4, .bool false]) : Sem Value).run Tryz.prog w = .ok (.tuple #[.bool false, .bool false]) w := by kernel_rfl
theorem ta4_20 (u : TypeId) (v : Value) (w : World) : (Instr.typeAssert (.iface u v) 20 4 true).run Tryz.prog w = .ok (.tuple (if u = 4 then #[v, .bool true] else #[.bool false, .bool false])) w := by
  have e : (Instr.typeAssert (.iface u v) 20 4 true).run Tryz.prog w = (if u = 4 then (pure (Value.tuple #[v, .bool true]) : Sem Value) else (do pure (Value.tuple #[← zeroValue 4, .bool false]))).run Tryz.prog w := by kernel_rfl
  rw [e]; by_cases h : u = 4
  · rw [if_pos h, if_pos h]; rfl
  · rw [if_neg h, if_neg h]; exact tz4 w
theorem tn4_20 (w : World) : (Instr.typeAssert .nilIface 20 4 true).run Tryz.prog w = .ok (.tuple #[.bool false, .bool false]) w := by kernel_rfl
theorem ty4 (v : Value) (w : World) : (Instr.typeAssert (.iface 4 v) 20 4 false).run Tryz.prog w = .ok v w := by kernel_rfl
theorem tz184 (w : World) : (do pure (Value.tuple #[← zeroValue 184, .bool false]) : Sem Value).run Tryz.prog w = .ok (.tuple #[.int .i64 (0), .bool false]) w := by kernel_rfl
theorem ta184_20 (u : TypeId) (v : Value) (w : World) : (Instr.typeAssert (.iface u v) 20 184 true).run Tryz.prog w = .ok (.tuple (if u = 184 then #[v, .bool true] else #[.int .i64 (0), .bool false])) w := by
  have e : (Instr.typeAssert (.iface u v) 20 184 true).run Tryz.prog w = (if u = 184 then (pure (Value.tuple #[v, .bool true]) : Sem Value) else (do pure (Value.tuple #[← zeroValue 184, .bool false]))).run Tryz.prog w := by kernel_rfl
  rw [e]; by_cases h : u = 184
  · rw [if_pos h, if_pos h]; rfl
  · rw [if_neg h, if_neg h]; exact tz184 w
theorem tn184_20 (w : World) : (Instr.typeAssert .nilIface 20 184 true).run Tryz.prog w = .ok (.tuple #[.int .i64 (0), .bool false]) w := by kernel_rfl
theorem ty184 (v : Value) (w : World) : (Instr.typeAssert (.iface 184 v) 20 184 false).run Tryz.prog w = .ok v w := by kernel_rfl
theorem tz105 (w : World) : (do pure (Value.tuple #[← zeroValue 105, .bool false]) : Sem Value).run Tryz.prog w = .ok (.tuple #[.agg #[.int .i64 (0), .int .i64 (0), .int .i64 (0), .string ⟨#[]⟩], .bool false]) w := by kernel_rfl
theorem ta105_20 (u : TypeId) (v : Value) (w : World) : (Instr.typeAssert (.iface u v) 20 105 true).run Tryz.prog w = .ok (.tuple (if u = 105 then #[v, .bool true] else #[.agg #[.int .i64 (0), .int .i64 (0), .int .i64 (0), .string ⟨#[]⟩], .bool false])) w := by
  have e : (Instr.typeAssert (.iface u v) 20 105 true).run Tryz.prog w = (if u = 105 then (pure (Value.tuple #[v, .bool true]) : Sem Value) else (do pure (Value.tuple #[← zeroValue 105, .bool false]))).run Tryz.prog w := by kernel_rfl
  rw [e]; by_cases h : u = 105
  · rw [if_pos h, if_pos h]; rfl
  · rw [if_neg h, if_neg h]; exact tz105 w
theorem tn105_20 (w : World) : (Instr.typeAssert .nilIface 20 105 true).run Tryz.prog w = .ok (.tuple #[.agg #[.int .i64 (0), .int .i64 (0), .int .i64 (0), .string ⟨#[]⟩], .bool false]) w := by kernel_rfl
theorem ty105 (v : Value) (w : World) : (Instr.typeAssert (.iface 105 v) 20 105 false).run Tryz.prog w = .ok v w := by kernel_rfl
theorem tz5 (w : World) : (do pure (Value.tuple #[← zeroValue 5, .bool false]) : Sem Value).run Tryz.prog w = .ok (.tuple #[.int .u8 (0), .bool false]) w := by kernel_rfl
theorem ta5_20 (u : TypeId) (v : Value) (w : World) : (Instr.typeAssert (.iface u v) 20 5 true).run Tryz.prog w = .ok (.tuple (if u = 5 then #[v, .bool true] else #[.int .u8 (0), .bool false])) w := by
  have e : (Instr.typeAssert (.iface u v) 20 5 true).run Tryz.prog w = (if u = 5 then (pure (Value.tuple #[v, .bool true]) : Sem Value) else (do pure (Value.tuple #[← zeroValue 5, .bool false]))).run Tryz.prog w := by kernel_rfl
  rw [e]; by_cases h : u = 5
  · rw [if_pos h, if_pos h]; rfl
  · rw [if_neg h, if_neg h]; exact tz5 w
theorem tn5_20 (w : World) : (Instr.typeAssert .nilIface 20 5 true).run Tryz.prog w = .ok (.tuple #[.int .u8 (0), .bool false]) w := by kernel_rfl
theorem ty5 (v : Value) (w : World) : (Instr.typeAssert (.iface 5 v) 20 5 false).run Tryz.prog w = .ok v w := by kernel_rfl
theorem tz234 (w : World) : (do pure (Value.tuple #[← zeroValue 234, .bool false]) : Sem Value).run Tryz.prog w = .ok (.tuple #[.int .u16 (0), .bool false]) w := by kernel_rfl
theorem ta234_20 (u : TypeId) (v : Value) (w : World) : (Instr.typeAssert (.iface u v) 20 234 true).run Tryz.prog w = .ok (.tuple (if u = 234 then #[v, .bool true] else #[.int .u16 (0), .bool false])) w := by
  have e : (Instr.typeAssert (.iface u v) 20 234 true).run Tryz.prog w = (if u = 234 then (pure (Value.tuple #[v, .bool true]) : Sem Value) else (do pure (Value.tuple #[← zeroValue 234, .bool false]))).run Tryz.prog w := by kernel_rfl
  rw [e]; by_cases h : u = 234
  · rw [if_pos h, if_pos h]; rfl
  · rw [if_neg h, if_neg h]; exact tz234 w
theorem tn234_20 (w : World) : (Instr.typeAssert .nilIface 20 234 true).run Tryz.prog w = .ok (.tuple #[.int .u16 (0), .bool false]) w := by kernel_rfl
theorem ty234 (v : Value) (w : World) : (Instr.typeAssert (.iface 234 v) 20 234 false).run Tryz.prog w = .ok v w := by kernel_rfl
theorem tz235 (w : World) : (do pure (Value.tuple #[← zeroValue 235, .bool false]) : Sem Value).run Tryz.prog w = .ok (.tuple #[.int .u32 (0), .bool false]) w := by kernel_rfl
theorem ta235_20 (u : TypeId) (v : Value) (w : World) : (Instr.typeAssert (.iface u v) 20 235 true).run Tryz.prog w = .ok (.tuple (if u = 235 then #[v, .bool true] else #[.int .u32 (0), .bool false])) w := by
  have e : (Instr.typeAssert (.iface u v) 20 235 true).run Tryz.prog w = (if u = 235 then (pure (Value.tuple #[v, .bool true]) : Sem Value) else (do pure (Value.tuple #[← zeroValue 235, .bool false]))).run Tryz.prog w := by kernel_rfl
  rw [e]; by_cases h : u = 235
  · rw [if_pos h, if_pos h]; rfl
  · rw [if_neg h, if_neg h]; exact tz235 w
theorem tn235_20 (w : World) : (Instr.typeAssert .nilIface 20 235 true).run Tryz.prog w = .ok (.tuple #[.int .u32 (0), .bool false]) w := by kernel_rfl
theorem ty235 (v : Value) (w : World) : (Instr.typeAssert (.iface 235 v) 20 235 false).run Tryz.prog w = .ok v w := by kernel_rfl
theorem tz12 (w : World) : (do pure (Value.tuple #[← zeroValue 12, .bool false]) : Sem Value).run Tryz.prog w = .ok (.tuple #[.int .u64 (0), .bool false]) w := by kernel_rfl
theorem ta12_20 (u : TypeId) (v : Value) (w : World) : (Instr.typeAssert (.iface u v) 20 12 true).run Tryz.prog w = .ok (.tuple (if u = 12 then #[v, .bool true] else #[.int .u64 (0), .bool false])) w := by
  have e : (Instr.typeAssert (.iface u v) 20 12 true).run Tryz.prog w = (if u = 12 then (pure (Value.tuple #[v, .bool true]) : Sem Value) else (do pure (Value.tuple #[← zeroValue 12, .bool false]))).run Tryz.prog w := by kernel_rfl
  rw [e]; by_cases h : u = 12
  · rw [if_pos h, if_pos h]; rfl
  · rw [if_neg h, if_neg h]; exact tz12 w
theorem tn12_20 (w : World) : (Instr.typeAssert .nilIface 20 12 true).run Tryz.prog w = .ok (.tuple #[.int .u64 (0), .bool false]) w := by kernel_rfl
theorem ty12 (v : Value) (w : World) : (Instr.typeAssert (.iface 12 v) 20 12 false).run Tryz.prog w = .ok v w := by kernel_rfl
theorem tz236 (w : World) : (do pure (Value.tuple #[← zeroValue 236, .bool false]) : Sem Value).run Tryz.prog w = .ok (.tuple #[.int .i8 (0), .bool false]) w := by kernel_rfl
theorem ta236_20 (u : TypeId) (v : Value) (w : World) : (Instr.typeAssert (.iface u v) 20 236 true).run Tryz.prog w = .ok (.tuple (if u = 236 then #[v, .bool true] else #[.int .i8 (0), .bool false])) w := by
  have e : (Instr.typeAssert (.iface u v) 20 236 true).run Tryz.prog w = (if u = 236 then (pure (Value.tuple #[v, .bool true]) : Sem Value) else (do pure (Value.tuple #[← zeroValue 236, .bool false]))).run Tryz.prog w := by kernel_rfl
  rw [e]; by_cases h : u = 236
  · rw [if_pos h, if_pos h]; rfl
  · rw [if_neg h, if_neg h]; exact tz236 w
theorem tn236_20 (w : World) : (Instr.typeAssert .nilIface 20 236 true).run Tryz.prog w = .ok (.tuple #[.int .i8 (0), .bool false]) w := by kernel_rfl
theorem ty236 (v : Value) (w : World) : (Instr.typeAssert (.iface 236 v) 20 236 false).run Tryz.prog w = .ok v w := by kernel_rfl
theorem tz237 (w : World) : (do pure (Value.tuple #[← zeroValue 237, .bool false]) : Sem Value).run Tryz.prog w = .ok (.tuple #[.int .i16 (0), .bool false]) w := by kernel_rfl
theorem ta237_20 (u : TypeId) (v : Value) (w : World) : (Instr.typeAssert (.iface u v) 20 237 true).run Tryz.prog w = .ok (.tuple (if u = 237 then #[v, .bool true] else #[.int .i16 (0), .bool false])) w := by
  have e : (Instr.typeAssert (.iface u v) 20 237 true).run Tryz.prog w = (if u = 237 then (pure (Value.tuple #[v, .bool true]) : Sem Value) else (do pure (Value.tuple #[← zeroValue 237, .bool false]))).run Tryz.prog w := by kernel_rfl
  rw [e]; by_cases h : u = 237
  · rw [if_pos h, if_pos h]; rfl
  · rw [if_neg h, if_neg h]; exact tz237 w
theorem tn237_20 (w : World) : (Instr.typeAssert .nilIface 20 237 true).run Tryz.prog w = .ok (.tuple #[.int .i16 (0), .bool false]) w := by kernel_rfl
theorem ty237 (v : Value) (w : World) : (Instr.typeAssert (.iface 237 v) 20 237 false).run Tryz.prog w = .ok v w := by kernel_rfl
theorem tz21 (w : World) : (do pure (Value.tuple #[← zeroValue 21, .bool false]) : Sem Value).run Tryz.prog w = .ok (.tuple #[.int .i32 (0), .bool false]) w := by kernel_rfl
theorem ta21_20 (u : TypeId) (v : Value) (w : World) : (Instr.typeAssert (.iface u v) 20 21 true).run Tryz.prog w = .ok (.tuple (if u = 21 then #[v, .bool true] else #[.int .i32 (0), .bool false])) w := by
  have e : (Instr.typeAssert (.iface u v) 20 21 true).run Tryz.prog w = (if u = 21 then (pure (Value.tuple #[v, .bool true]) : Sem Value) else (do pure (Value.tuple #[← zeroValue 21, .bool false]))).run Tryz.prog w := by kernel_rfl
  rw [e]; by_cases h : u = 21
  · rw [if_pos h, if_pos h]; rfl
  · rw [if_neg h, if_neg h]; exact tz21 w
theorem tn21_20 (w : World) : (Instr.typeAssert .nilIface 20 21 true).run Tryz.prog w = .ok (.tuple #[.int .i32 (0), .bool false]) w := by kernel_rfl
theorem ty21 (v : Value) (w : World) : (Instr.typeAssert (.iface 21 v) 20 21 false).run Tryz.prog w = .ok v w := by kernel_rfl
theorem tz186 (w : World) : (do pure (Value.tuple #[← zeroValue 186, .bool false]) : Sem Value).run Tryz.prog w = .ok (.tuple #[.float .f64 0, .bool false]) w := by kernel_rfl
theorem ta186_20 (u : TypeId) (v : Value) (w : World) : (Instr.typeAssert (.iface u v) 20 186 true).run Tryz.prog w = .ok (.tuple (if u = 186 then #[v, .bool true] else #[.float .f64 0, .bool false])) w := by
  have e : (Instr.typeAssert (.iface u v) 20 186 true).run Tryz.prog w = (if u = 186 then (pure (Value.tuple #[v, .bool true]) : Sem Value) else (do pure (Value.tuple #[← zeroValue 186, .bool false]))).run Tryz.prog w := by kernel_rfl
  rw [e]; by_cases h : u = 186
  · rw [if_pos h, if_pos h]; rfl
  · rw [if_neg h, if_neg h]; exact tz186 w
theorem tn186_20 (w : World) : (Instr.typeAssert .nilIface 20 186 true).run Tryz.prog w = .ok (.tuple #[.float .f64 0, .bool false]) w := by kernel_rfl
theorem ty186 (v : Value) (w : World) : (Instr.typeAssert (.iface 186 v) 20 186 false).run Tryz.prog w = .ok v w := by kernel_rfl
theorem tz238 (w : World) : (do pure (Value.tuple #[← zeroValue 238, .bool false]) : Sem Value).run Tryz.prog w = .ok (.tuple #[.float .f32 0, .bool false]) w := by kernel_rfl
theorem ta238_20 (u : TypeId) (v : Value) (w : World) : (Instr.typeAssert (.iface u v) 20 238 true).run Tryz.prog w = .ok (.tuple (if u = 238 then #[v, .bool true] else #[.float .f32 0, .bool false])) w := by
  have e : (Instr.typeAssert (.iface u v) 20 238 true).run Tryz.prog w = (if u = 238 then (pure (Value.tuple #[v, .bool true]) : Sem Value) else (do pure (Value.tuple #[← zeroValue 238, .bool false]))).run Tryz.prog w := by kernel_rfl
  rw [e]; by_cases h : u = 238
  · rw [if_pos h, if_pos h]; rfl
  · rw [if_neg h, if_neg h]; exact tz238 w
theorem tn238_20 (w : World) : (Instr.typeAssert .nilIface 20 238 true).run Tryz.prog w = .ok (.tuple #[.float .f32 0, .bool false]) w := by kernel_rfl
theorem ty238 (v : Value) (w : World) : (Instr.typeAssert (.iface 238 v) 20 238 false).run Tryz.prog w = .ok v w := by kernel_rfl
theorem tz113 (w : World) : (do pure (Value.tuple #[← zeroValue 113, .bool false]) : Sem Value).run Tryz.prog w = .ok (.tuple #[.slice none 0 0, .bool false]) w := by kernel_rfl
theorem ta113_20 (u : TypeId) (v : Value) (w : World) : (Instr.typeAssert (.iface u v) 20 113 true).run Tryz.prog w = .ok (.tuple (if u = 113 then #[v, .bool true] else #[.slice none 0 0, .bool false])) w := by
  have e : (Instr.typeAssert (.iface u v) 20 113 true).run Tryz.prog w = (if u = 113 then (pure (Value.tuple #[v, .bool true]) : Sem Value) else (do pure (Value.tuple #[← zeroValue 113, .bool false]))).run Tryz.prog w := by kernel_rfl
  rw [e]; by_cases h : u = 113
  · rw [if_pos h, if_pos h]; rfl
  · rw [if_neg h, if_neg h]; exact tz113 w
theorem tn113_20 (w : World) : (Instr.typeAssert .nilIface 20 113 true).run Tryz.prog w = .ok (.tuple #[.slice none 0 0, .bool false]) w := by kernel_rfl
theorem ty113 (v : Value) (w : World) : (Instr.typeAssert (.iface 113 v) 20 113 false).run Tryz.prog w = .ok v w := by kernel_rfl
theorem tz198 (w : World) : (do pure (Value.tuple #[← zeroValue 198, .bool false]) : Sem Value).run Tryz.prog w = .ok (.tuple #[.int .i64 (0), .bool false]) w := by kernel_rfl
theorem ta198_20 (u : TypeId) (v : Value) (w : World) : (Instr.typeAssert (.iface u v) 20 198 true).run Tryz.prog w = .ok (.tuple (if u = 198 then #[v, .bool true] else #[.int .i64 (0), .bool false])) w := by
  have e : (Instr.typeAssert (.iface u v) 20 198 true).run Tryz.prog w = (if u = 198 then (pure (Value.tuple #[v, .bool true]) : Sem Value) else (do pure (Value.tuple #[← zeroValue 198, .bool false]))).run Tryz.prog w := by kernel_rfl
  rw [e]; by_cases h : u = 198
  · rw [if_pos h, if_pos h]; rfl
  · rw [if_neg h, if_neg h]; exact tz198 w
theorem tn198_20 (w : World) : (Instr.typeAssert .nilIface 20 198 true).run Tryz.prog w = .ok (.tuple #[.int .i64 (0), .bool false]) w := by kernel_rfl
theorem ty198 (v : Value) (w : World) : (Instr.typeAssert (.iface 198 v) 20 198 false).run Tryz.prog w = .ok v w := by kernel_rfl
theorem tz109 (w : World) : (do pure (Value.tuple #[← zeroValue 109, .bool false]) : Sem Value).run Tryz.prog w = .ok (.tuple #[.agg #[.int .u64 (0), .nilIface], .bool false]) w := by kernel_rfl
theorem ta109_20 (u : TypeId) (v : Value) (w : World) : (Instr.typeAssert (.iface u v) 20 109 true).run Tryz.prog w = .ok (.tuple (if u = 109 then #[v, .bool true] else #[.agg #[.int .u64 (0), .nilIface], .bool false])) w := by
  have e : (Instr.typeAssert (.iface u v) 20 109 true).run Tryz.prog w = (if u = 109 then (pure (Value.tuple #[v, .bool true]) : Sem Value) else (do pure (Value.tuple #[← zeroValue 109, .bool false]))).run Tryz.prog w := by kernel_rfl
  rw [e]; by_cases h : u = 109
  · rw [if_pos h, if_pos h]; rfl
  · rw [if_neg h, if_neg h]; exact tz109 w
theorem tn109_20 (w : World) : (Instr.typeAssert .nilIface 20 109 true).run Tryz.prog w = .ok (.tuple #[.agg #[.int .u64 (0), .nilIface], .bool false]) w := by kernel_rfl
theorem ty109 (v : Value) (w : World) : (Instr.typeAssert (.iface 109 v) 20 109 false).run Tryz.prog w = .ok v w := by kernel_rfl
theorem tz230 (w : World) : (do pure (Value.tuple #[← zeroValue 230, .bool false]) : Sem Value).run Tryz.prog w = .ok (.tuple #[.string ⟨#[]⟩, .bool false]) w := by kernel_rfl
theorem ta230_20 (u : TypeId) (v : Value) (w : World) : (Instr.typeAssert (.iface u v) 20 230 true).run Tryz.prog w = .ok (.tuple (if u = 230 then #[v, .bool true] else #[.string ⟨#[]⟩, .bool false])) w := by
  have e : (Instr.typeAssert (.iface u v) 20 230 true).run Tryz.prog w = (if u = 230 then (pure (Value.tuple #[v, .bool true]) : Sem Value) else (do pure (Value.tuple #[← zeroValue 230, .bool false]))).run Tryz.prog w := by kernel_rfl
  rw [e]; by_cases h : u = 230
  · rw [if_pos h, if_pos h]; rfl
  · rw [if_neg h, if_neg h]; exact tz230 w
theorem tn230_20 (w : World) : (Instr.typeAssert .nilIface 20 230 true).run Tryz.prog w = .ok (.tuple #[.string ⟨#[]⟩, .bool false]) w := by kernel_rfl
theorem ty230 (v : Value) (w : World) : (Instr.typeAssert (.iface 230 v) 20 230 false).run Tryz.prog w = .ok v w := by kernel_rfl
theorem tz243 (w : World) : (do pure (Value.tuple #[← zeroValue 243, .bool false]) : Sem Value).run Tryz.prog w = .ok (.tuple #[.agg #[.int .i64 (0), .int .i64 (0), .int .i64 (0), .string ⟨#[]⟩], .bool false]) w := by kernel_rfl
theorem ta243_20 (u : TypeId) (v : Value) (w : World) : (Instr.typeAssert (.iface u v) 20 243 true).run Tryz.prog w = .ok (.tuple (if u = 243 then #[v, .bool true] else #[.agg #[.int .i64 (0), .int .i64 (0), .int .i64 (0), .string ⟨#[]⟩], .bool false])) w := by
  have e : (Instr.typeAssert (.iface u v) 20 243 true).run Tryz.prog w = (if u = 243 then (pure (Value.tuple #[v, .bool true]) : Sem Value) else (do pure (Value.tuple #[← zeroValue 243, .bool false]))).run Tryz.prog w := by kernel_rfl
  rw [e]; by_cases h : u = 243
  · rw [if_pos h, if_pos h]; rfl
  · rw [if_neg h, if_neg h]; exact tz243 w
theorem tn243_20 (w : World) : (Instr.typeAssert .nilIface 20 243 true).run Tryz.prog w = .ok (.tuple #[.agg #[.int .i64 (0), .int .i64 (0), .int .i64 (0), .string ⟨#[]⟩], .bool false]) w := by kernel_rfl
theorem ty243 (v : Value) (w : World) : (Instr.typeAssert (.iface 243 v) 20 243 false).run Tryz.prog w = .ok v w := by kernel_rfl
theorem tz245 (w : World) : (do pure (Value.tuple #[← zeroValue 245, .bool false]) : Sem Value).run Tryz.prog w = .ok (.tuple #[.slice none 0 0, .bool false]) w := by kernel_rfl
theorem ta245_20 (u : TypeId) (v : Value) (w : World) : (Instr.typeAssert (.iface u v) 20 245 true).run Tryz.prog w = .ok (.tuple (if u = 245 then #[v, .bool true] else #[.slice none 0 0, .bool false])) w := by
  have e : (Instr.typeAssert (.iface u v) 20 245 true).run Tryz.prog w = (if u = 245 then (pure (Value.tuple #[v, .bool true]) : Sem Value) else (do pure (Value.tuple #[← zeroValue 245, .bool false]))).run Tryz.prog w := by kernel_rfl
  rw [e]; by_cases h : u = 245
  · rw [if_pos h, if_pos h]; rfl
  · rw [if_neg h, if_neg h]; exact tz245 w
theorem tn245_20 (w : World) : (Instr.typeAssert .nilIface 20 245 true).run Tryz.prog w = .ok (.tuple #[.slice none 0 0, .bool false]) w := by kernel_rfl
theorem ty245 (v : Value) (w : World) : (Instr.typeAssert (.iface 245 v) 20 245 false).run Tryz.prog w = .ok v w := by kernel_rfl
theorem tz239 (w : World) : (do pure (Value.tuple #[← zeroValue 239, .bool false]) : Sem Value).run Tryz.prog w = .ok (.tuple #[.int .i64 (0), .bool false]) w := by kernel_rfl
theorem ta239_20 (u : TypeId) (v : Value) (w : World) : (Instr.typeAssert (.iface u v) 20 239 true).run Tryz.prog w = .ok (.tuple (if u = 239 then #[v, .bool true] else #[.int .i64 (0), .bool false])) w := by
  have e : (Instr.typeAssert (.iface u v) 20 239 true).run Tryz.prog w = (if u = 239 then (pure (Value.tuple #[v, .bool true]) : Sem Value) else (do pure (Value.tuple #[← zeroValue 239, .bool false]))).run Tryz.prog w := by kernel_rfl
  rw [e]; by_cases h : u = 239
  · rw [if_pos h, if_pos h]; rfl
  · rw [if_neg h, if_neg h]; exact tz239 w
theorem tn239_20 (w : World) : (Instr.typeAssert .nilIface 20 239 true).run Tryz.prog w = .ok (.tuple #[.int .i64 (0), .bool false]) w := by kernel_rfl
theorem ty239 (v : Value) (w : World) : (Instr.typeAssert (.iface 239 v) 20 239 false).run Tryz.prog w = .ok v w := by kernel_rfl
theorem tz217 (w : World) : (do pure (Value.tuple #[← zeroValue 217, .bool false]) : Sem Value).run Tryz.prog w = .ok (.tuple #[.agg #[.string ⟨#[]⟩], .bool false]) w := by kernel_rfl
theorem ta217_20 (u : TypeId) (v : Value) (w : World) : (Instr.typeAssert (.iface u v) 20 217 true).run Tryz.prog w = .ok (.tuple (if u = 217 then #[v, .bool true] else #[.agg #[.string ⟨#[]⟩], .bool false])) w := by
  have e : (Instr.typeAssert (.iface u v) 20 217 true).run Tryz.prog w = (if u = 217 then (pure (Value.tuple #[v, .bool true]) : Sem Value) else (do pure (Value.tuple #[← zeroValue 217, .bool false]))).run Tryz.prog w := by kernel_rfl
  rw [e]; by_cases h : u = 217
  · rw [if_pos h, if_pos h]; rfl
  · rw [if_neg h, if_neg h]; exact tz217 w
theorem tn217_20 (w : World) : (Instr.typeAssert .nilIface 20 217 true).run Tryz.prog w = .ok (.tuple #[.agg #[.string ⟨#[]⟩], .bool false]) w := by kernel_rfl
theorem ty217 (v : Value) (w : World) : (Instr.typeAssert (.iface 217 v) 20 217 false).run Tryz.prog w = .ok v w := by kernel_rfl
theorem tz218 (w : World) : (do pure (Value.tuple #[← zeroValue 218, .bool false]) : Sem Value).run Tryz.prog w = .ok (.tuple #[.agg #[.string ⟨#[]⟩], .bool false]) w := by kernel_rfl
theorem ta218_20 (u : TypeId) (v : Value) (w : World) : (Instr.typeAssert (.iface u v) 20 218 true).run Tryz.prog w = .ok (.tuple (if u = 218 then #[v, .bool true] else #[.agg #[.string ⟨#[]⟩], .bool false])) w := by
  have e : (Instr.typeAssert (.iface u v) 20 218 true).run Tryz.prog w = (if u = 218 then (pure (Value.tuple #[v, .bool true]) : Sem Value) else (do pure (Value.tuple #[← zeroValue 218, .bool false]))).run Tryz.prog w := by kernel_rfl
  rw [e]; by_cases h : u = 218
  · rw [if_pos h, if_pos h]; rfl
  · rw [if_neg h, if_neg h]; exact tz218 w
theorem tn218_20 (w : World) : (Instr.typeAssert .nilIface 20 218 true).run Tryz.prog w = .ok (.tuple #[.agg #[.string ⟨#[]⟩], .bool false]) w := by kernel_rfl
theorem ty218 (v : Value) (w : World) : (Instr.typeAssert (.iface 218 v) 20 218 false).run Tryz.prog w = .ok v w := by kernel_rfl
theorem tz219 (w : World) : (do pure (Value.tuple #[← zeroValue 219, .bool false]) : Sem Value).run Tryz.prog w = .ok (.tuple #[.slice none 0 0, .bool false]) w := by kernel_rfl
theorem ta219_20 (u : TypeId) (v : Value) (w : World) : (Instr.typeAssert (.iface u v) 20 219 true).run Tryz.prog w = .ok (.tuple (if u = 219 then #[v, .bool true] else #[.slice none 0 0, .bool false])) w := by
  have e : (Instr.typeAssert (.iface u v) 20 219 true).run Tryz.prog w = (if u = 219 then (pure (Value.tuple #[v, .bool true]) : Sem Value) else (do pure (Value.tuple #[← zeroValue 219, .bool false]))).run Tryz.prog w := by kernel_rfl
  rw [e]; by_cases h : u = 219
  · rw [if_pos h, if_pos h]; rfl
  · rw [if_neg h, if_neg h]; exact tz219 w
theorem tn219_20 (w : World) : (Instr.typeAssert .nilIface 20 219 true).run Tryz.prog w = .ok (.tuple #[.slice none 0 0, .bool false]) w := by kernel_rfl
theorem ty219 (v : Value) (w : World) : (Instr.typeAssert (.iface 219 v) 20 219 false).run Tryz.prog w = .ok v w := by kernel_rfl
theorem tz220 (w : World) : (do pure (Value.tuple #[← zeroValue 220, .bool false]) : Sem Value).run Tryz.prog w = .ok (.tuple #[.agg #[.string ⟨#[]⟩], .bool false]) w := by kernel_rfl
theorem ta220_20 (u : TypeId) (v : Value) (w : World) : (Instr.typeAssert (.iface u v) 20 220 true).run Tryz.prog w = .ok (.tuple (if u = 220 then #[v, .bool true] else #[.agg #[.string ⟨#[]⟩], .bool false])) w := by
  have e : (Instr.typeAssert (.iface u v) 20 220 true).run Tryz.prog w = (if u = 220 then (pure (Value.tuple #[v, .bool true]) : Sem Value) else (do pure (Value.tuple #[← zeroValue 220, .bool false]))).run Tryz.prog w := by kernel_rfl
  rw [e]; by_cases h : u = 220
  · rw [if_pos h, if_pos h]; rfl
  · rw [if_neg h, if_neg h]; exact tz220 w
theorem tn220_20 (w : World) : (Instr.typeAssert .nilIface 20 220 true).run Tryz.prog w = .ok (.tuple #[.agg #[.string ⟨#[]⟩], .bool false]) w := by kernel_rfl
theorem ty220 (v : Value) (w : World) : (Instr.typeAssert (.iface 220 v) 20 220 false).run Tryz.prog w = .ok v w := by kernel_rfl
theorem tz221 (w : World) : (do pure (Value.tuple #[← zeroValue 221, .bool false]) : Sem Value).run Tryz.prog w = .ok (.tuple #[.agg #[.string ⟨#[]⟩], .bool false]) w := by kernel_rfl
theorem ta221_20 (u : TypeId) (v : Value) (w : World) : (Instr.typeAssert (.iface u v) 20 221 true).run Tryz.prog w = .ok (.tuple (if u = 221 then #[v, .bool true] else #[.agg #[.string ⟨#[]⟩], .bool false])) w := by
  have e : (Instr.typeAssert (.iface u v) 20 221 true).run Tryz.prog w = (if u = 221 then (pure (Value.tuple #[v, .bool true]) : Sem Value) else (do pure (Value.tuple #[← zeroValue 221, .bool false]))).run Tryz.prog w := by kernel_rfl
  rw [e]; by_cases h : u = 221
  · rw [if_pos h, if_pos h]; rfl
  · rw [if_neg h, if_neg h]; exact tz221 w
theorem tn221_20 (w : World) : (Instr.typeAssert .nilIface 20 221 true).run Tryz.prog w = .ok (.tuple #[.agg #[.string ⟨#[]⟩], .bool false]) w := by kernel_rfl
theorem ty221 (v : Value) (w : World) : (Instr.typeAssert (.iface 221 v) 20 221 false).run Tryz.prog w = .ok v w := by kernel_rfl
theorem tz222 (w : World) : (do pure (Value.tuple #[← zeroValue 222, .bool false]) : Sem Value).run Tryz.prog w = .ok (.tuple #[.int .i64 (0), .bool false]) w := by kernel_rfl
theorem ta222_20 (u : TypeId) (v : Value) (w : World) : (Instr.typeAssert (.iface u v) 20 222 true).run Tryz.prog w = .ok (.tuple (if u = 222 then #[v, .bool true] else #[.int .i64 (0), .bool false])) w := by
  have e : (Instr.typeAssert (.iface u v) 20 222 true).run Tryz.prog w = (if u = 222 then (pure (Value.tuple #[v, .bool true]) : Sem Value) else (do pure (Value.tuple #[← zeroValue 222, .bool false]))).run Tryz.prog w := by kernel_rfl
  rw [e]; by_cases h : u = 222
  · rw [if_pos h, if_pos h]; rfl
  · rw [if_neg h, if_neg h]; exact tz222 w
theorem tn222_20 (w : World) : (Instr.typeAssert .nilIface 20 222 true).run Tryz.prog w = .ok (.tuple #[.int .i64 (0), .bool false]) w := by kernel_rfl
theorem ty222 (v : Value) (w : World) : (Instr.typeAssert (.iface 222 v) 20 222 false).run Tryz.prog w = .ok v w := by kernel_rfl
theorem tz97 (w : World) : (do pure (Value.tuple #[← zeroValue 97, .bool false]) : Sem Value).run Tryz.prog w = .ok (.tuple #[.int .i64 (0), .bool false]) w := by kernel_rfl
theorem ta97_20 (u : TypeId) (v : Value) (w : World) : (Instr.typeAssert (.iface u v) 20 97 true).run Tryz.prog w = .ok (.tuple (if u = 97 then #[v, .bool true] else #[.int .i64 (0), .bool false])) w := by
  have e : (Instr.typeAssert (.iface u v) 20 97 true).run Tryz.prog w = (if u = 97 then (pure (Value.tuple #[v, .bool true]) : Sem Value) else (do pure (Value.tuple #[← zeroValue 97, .bool false]))).run Tryz.prog w := by kernel_rfl
  rw [e]; by_cases h : u = 97
  · rw [if_pos h, if_pos h]; rfl
  · rw [if_neg h, if_neg h]; exact tz97 w
theorem tn97_20 (w : World) : (Instr.typeAssert .nilIface 20 97 true).run Tryz.prog w = .ok (.tuple #[.int .i64 (0), .bool false]) w := by kernel_rfl
theorem ty97 (v : Value) (w : World) : (Instr.typeAssert (.iface 97 v) 20 97 false).run Tryz.prog w = .ok v w := by kernel_rfl
theorem tz224 (w : World) : (do pure (Value.tuple #[← zeroValue 224, .bool false]) : Sem Value).run Tryz.prog w = .ok (.tuple #[.agg #[.string ⟨#[]⟩, .string ⟨#[]⟩], .bool false]) w := by kernel_rfl
theorem ta224_20 (u : TypeId) (v : Value) (w : World) : (Instr.typeAssert (.iface u v) 20 224 true).run Tryz.prog w = .ok (.tuple (if u = 224 then #[v, .bool true] else #[.agg #[.string ⟨#[]⟩, .string ⟨#[]⟩], .bool false])) w := by
  have e : (Instr.typeAssert (.iface u v) 20 224 true).run Tryz.prog w = (if u = 224 then (pure (Value.tuple #[v, .bool true]) : Sem Value) else (do pure (Value.tuple #[← zeroValue 224, .bool false]))).run Tryz.prog w := by kernel_rfl
  rw [e]; by_cases h : u = 224
  · rw [if_pos h, if_pos h]; rfl
  · rw [if_neg h, if_neg h]; exact tz224 w
theorem tn224_20 (w : World) : (Instr.typeAssert .nilIface 20 224 true).run Tryz.prog w = .ok (.tuple #[.agg #[.string ⟨#[]⟩, .string ⟨#[]⟩], .bool false]) w := by kernel_rfl
theorem ty224 (v : Value) (w : World) : (Instr.typeAssert (.iface 224 v) 20 224 false).run Tryz.prog w = .ok v w := by kernel_rfl
theorem tz225 (w : World) : (do pure (Value.tuple #[← zeroValue 225, .bool false]) : Sem Value).run Tryz.prog w = .ok (.tuple #[.agg #[.string ⟨#[]⟩], .bool false]) w := by kernel_rfl
theorem ta225_20 (u : TypeId) (v : Value) (w : World) : (Instr.typeAssert (.iface u v) 20 225 true).run Tryz.prog w = .ok (.tuple (if u = 225 then #[v, .bool true] else #[.agg #[.string ⟨#[]⟩], .bool false])) w := by
  have e : (Instr.typeAssert (.iface u v) 20 225 true).run Tryz.prog w = (if u = 225 then (pure (Value.tuple #[v, .bool true]) : Sem Value) else (do pure (Value.tuple #[← zeroValue 225, .bool false]))).run Tryz.prog w := by kernel_rfl
  rw [e]; by_cases h : u = 225
  · rw [if_pos h, if_pos h]; rfl
  · rw [if_neg h, if_neg h]; exact tz225 w
theorem tn225_20 (w : World) : (Instr.typeAssert .nilIface 20 225 true).run Tryz.prog w = .ok (.tuple #[.agg #[.string ⟨#[]⟩], .bool false]) w := by kernel_rfl
theorem ty225 (v : Value) (w : World) : (Instr.typeAssert (.iface 225 v) 20 225 false).run Tryz.prog w = .ok v w := by kernel_rfl
theorem tz226 (w : World) : (do pure (Value.tuple #[← zeroValue 226, .bool false]) : Sem Value).run Tryz.prog w = .ok (.tuple #[.agg #[.string ⟨#[]⟩], .bool false]) w := by kernel_rfl
theorem ta226_20 (u : TypeId) (v : Value) (w : World) : (Instr.typeAssert (.iface u v) 20 226 true).run Tryz.prog w = .ok (.tuple (if u = 226 then #[v, .bool true] else #[.agg #[.string ⟨#[]⟩], .bool false])) w := by
  have e : (Instr.typeAssert (.iface u v) 20 226 true).run Tryz.prog w = (if u = 226 then (pure (Value.tuple #[v, .bool true]) : Sem Value) else (do pure (Value.tuple #[← zeroValue 226, .bool false]))).run Tryz.prog w := by kernel_rfl
  rw [e]; by_cases h : u = 226
  · rw [if_pos h, if_pos h]; rfl
  · rw [if_neg h, if_neg h]; exact tz226 w
theorem tn226_20 (w : World) : (Instr.typeAssert .nilIface 20 226 true).run Tryz.prog w = .ok (.tuple #[.agg #[.string ⟨#[]⟩], .bool false]) w := by kernel_rfl
theorem ty226 (v : Value) (w : World) : (Instr.typeAssert (.iface 226 v) 20 226 false).run Tryz.prog w = .ok v w := by kernel_rfl
theorem tz227 (w : World) : (do pure (Value.tuple #[← zeroValue 227, .bool false]) : Sem Value).run Tryz.prog w = .ok (.tuple #[.pointer none, .bool false]) w := by kernel_rfl
theorem ta227_20 (u : TypeId) (v : Value) (w : World) : (Instr.typeAssert (.iface u v) 20 227 true).run Tryz.prog w = .ok (.tuple (if u = 227 then #[v, .bool true] else #[.pointer none, .bool false])) w := by
  have e : (Instr.typeAssert (.iface u v) 20 227 true).run Tryz.prog w = (if u = 227 then (pure (Value.tuple #[v, .bool true]) : Sem Value) else (do pure (Value.tuple #[← zeroValue 227, .bool false]))).run Tryz.prog w := by kernel_rfl
  rw [e]; by_cases h : u = 227
  · rw [if_pos h, if_pos h]; rfl
  · rw [if_neg h, if_neg h]; exact tz227 w
theorem tn227_20 (w : World) : (Instr.typeAssert .nilIface 20 227 true).run Tryz.prog w = .ok (.tuple #[.pointer none, .bool false]) w := by kernel_rfl
theorem ty227 (v : Value) (w : World) : (Instr.typeAssert (.iface 227 v) 20 227 false).run Tryz.prog w = .ok v w := by kernel_rfl
theorem tz106 (w : World) : (do pure (Value.tuple #[← zeroValue 106, .bool false]) : Sem Value).run Tryz.prog w = .ok (.tuple #[.pointer none, .bool false]) w := by kernel_rfl
theorem ta106_20 (u : TypeId) (v : Value) (w : World) : (Instr.typeAssert (.iface u v) 20 106 true).run Tryz.prog w = .ok (.tuple (if u = 106 then #[v, .bool true] else #[.pointer none, .bool false])) w := by
  have e : (Instr.typeAssert (.iface u v) 20 106 true).run Tryz.prog w = (if u = 106 then (pure (Value.tuple #[v, .bool true]) : Sem Value) else (do pure (Value.tuple #[← zeroValue 106, .bool false]))).run Tryz.prog w := by kernel_rfl
  rw [e]; by_cases h : u = 106
  · rw [if_pos h, if_pos h]; rfl
  · rw [if_neg h, if_neg h]; exact tz106 w
theorem tn106_20 (w : World) : (Instr.typeAssert .nilIface 20 106 true).run Tryz.prog w = .ok (.tuple #[.pointer none, .bool false]) w := by kernel_rfl
theorem ty106 (v : Value) (w : World) : (Instr.typeAssert (.iface 106 v) 20 106 false).run Tryz.prog w = .ok v w := by kernel_rfl
theorem tz229 (w : World) : (do pure (Value.tuple #[← zeroValue 229, .bool false]) : Sem Value).run Tryz.prog w = .ok (.tuple #[.agg #[.string ⟨#[]⟩, .string ⟨#[]⟩], .bool false]) w := by kernel_rfl
theorem ta229_20 (u : TypeId) (v : Value) (w : World) : (Instr.typeAssert (.iface u v) 20 229 true).run Tryz.prog w = .ok (.tuple (if u = 229 then #[v, .bool true] else #[.agg #[.string ⟨#[]⟩, .string ⟨#[]⟩], .bool false])) w := by
  have e : (Instr.typeAssert (.iface u v) 20 229 true).run Tryz.prog w = (if u = 229 then (pure (Value.tuple #[v, .bool true]) : Sem Value) else (do pure (Value.tuple #[← zeroValue 229, .bool false]))).run Tryz.prog w := by kernel_rfl
  rw [e]; by_cases h : u = 229
  · rw [if_pos h, if_pos h]; rfl
  · rw [if_neg h, if_neg h]; exact tz229 w
theorem tn229_20 (w : World) : (Instr.typeAssert .nilIface 20 229 true).run Tryz.prog w = .ok (.tuple #[.agg #[.string ⟨#[]⟩, .string ⟨#[]⟩], .bool false]) w := by kernel_rfl
theorem ty229 (v : Value) (w : World) : (Instr.typeAssert (.iface 229 v) 20 229 false).run Tryz.prog w = .ok v w := by kernel_rfl
theorem tz111 (w : World) : (do pure (Value.tuple #[← zeroValue 111, .bool false]) : Sem Value).run Tryz.prog w = .ok (.tuple #[.agg #[.string ⟨#[]⟩, .int .u64 (0), .nilIface], .bool false]) w := by kernel_rfl
theorem ta111_20 (u : TypeId) (v : Value) (w : World) : (Instr.typeAssert (.iface u v) 20 111 true).run Tryz.prog w = .ok (.tuple (if u = 111 then #[v, .bool true] else #[.agg #[.string ⟨#[]⟩, .int .u64 (0), .nilIface], .bool false])) w := by
  have e : (Instr.typeAssert (.iface u v) 20 111 true).run Tryz.prog w = (if u = 111 then (pure (Value.tuple #[v, .bool true]) : Sem Value) else (do pure (Value.tuple #[← zeroValue 111, .bool false]))).run Tryz.prog w := by kernel_rfl
  rw [e]; by_cases h : u = 111
  · rw [if_pos h, if_pos h]; rfl
  · rw [if_neg h, if_neg h]; exact tz111 w
theorem tn111_20 (w : World) : (Instr.typeAssert .nilIface 20 111 true).run Tryz.prog w = .ok (.tuple #[.agg #[.string ⟨#[]⟩, .int .u64 (0), .nilIface], .bool false]) w := by kernel_rfl
theorem ty111 (v : Value) (w : World) : (Instr.typeAssert (.iface 111 v) 20 111 false).run Tryz.prog w = .ok v w := by kernel_rfl
theorem tz194 (w : World) : (do pure (Value.tuple #[← zeroValue 194, .bool false]) : Sem Value).run Tryz.prog w = .ok (.tuple #[.agg #[.string ⟨#[]⟩, .pointer none], .bool false]) w := by kernel_rfl
theorem ta194_20 (u : TypeId) (v : Value) (w : World) : (Instr.typeAssert (.iface u v) 20 194 true).run Tryz.prog w = .ok (.tuple (if u = 194 then #[v, .bool true] else #[.agg #[.string ⟨#[]⟩, .pointer none], .bool false])) w := by
  have e : (Instr.typeAssert (.iface u v) 20 194 true).run Tryz.prog w = (if u = 194 then (pure (Value.tuple #[v, .bool true]) : Sem Value) else (do pure (Value.tuple #[← zeroValue 194, .bool false]))).run Tryz.prog w := by kernel_rfl
  rw [e]; by_cases h : u = 194
  · rw [if_pos h, if_pos h]; rfl
  · rw [if_neg h, if_neg h]; exact tz194 w
theorem tn194_20 (w : World) : (Instr.typeAssert .nilIface 20 194 true).run Tryz.prog w = .ok (.tuple #[.agg #[.string ⟨#[]⟩, .pointer none], .bool false]) w := by kernel_rfl
theorem ta194_209 (u : TypeId) (v : Value) (w : World) : (Instr.typeAssert (.iface u v) 209 194 true).run Tryz.prog w = .ok (.tuple (if u = 194 then #[v, .bool true] else #[.agg #[.string ⟨#[]⟩, .pointer none], .bool false])) w := by
  have e : (Instr.typeAssert (.iface u v) 209 194 true).run Tryz.prog w = (if u = 194 then (pure (Value.tuple #[v, .bool true]) : Sem Value) else (do pure (Value.tuple #[← zeroValue 194, .bool false]))).run Tryz.prog w := by kernel_rfl
  rw [e]; by_cases h : u = 194
  · rw [if_pos h, if_pos h]; rfl
  · rw [if_neg h, if_neg h]; exact tz194 w
theorem tn194_209 (w : World) : (Instr.typeAssert .nilIface 209 194 true).run Tryz.prog w = .ok (.tuple #[.agg #[.string ⟨#[]⟩, .pointer none], .bool false]) w := by kernel_rfl
theorem ty194 (v : Value) (w : World) : (Instr.typeAssert (.iface 194 v) 20 194 false).run Tryz.prog w = .ok v w := by kernel_rfl
theorem tz196 (w : World) : (do pure (Value.tuple #[← zeroValue 196, .bool false]) : Sem Value).run Tryz.prog w = .ok (.tuple #[.agg #[.int .u64 (0), .int .u64 (0), .nilIface, .pointer none], .bool false]) w := by kernel_rfl
theorem ta196_20 (u : TypeId) (v : Value) (w : World) : (Instr.typeAssert (.iface u v) 20 196 true).run Tryz.prog w = .ok (.tuple (if u = 196 then #[v, .bool true] else #[.agg #[.int .u64 (0), .int .u64 (0), .nilIface, .pointer none], .bool false])) w := by
  have e : (Instr.typeAssert (.iface u v) 20 196 true).run Tryz.prog w = (if u = 196 then (pure (Value.tuple #[v, .bool true]) : Sem Value) else (do pure (Value.tuple #[← zeroValue 196, .bool false]))).run Tryz.prog w := by kernel_rfl
  rw [e]; by_cases h : u = 196
  · rw [if_pos h, if_pos h]; rfl
  · rw [if_neg h, if_neg h]; exact tz196 w
theorem tn196_20 (w : World) : (Instr.typeAssert .nilIface 20 196 true).run Tryz.prog w = .ok (.tuple #[.agg #[.int .u64 (0), .int .u64 (0), .nilIface, .pointer none], .bool false]) w := by kernel_rfl
theorem ta196_209 (u : TypeId) (v : Value) (w : World) : (Instr.typeAssert (.iface u v) 209 196 true).run Tryz.prog w = .ok (.tuple (if u = 196 then #[v, .bool true] else #[.agg #[.int .u64 (0), .int .u64 (0), .nilIface, .pointer none], .bool false])) w := by
  have e : (Instr.typeAssert (.iface u v) 209 196 true).run Tryz.prog w = (if u = 196 then (pure (Value.tuple #[v, .bool true]) : Sem Value) else (do pure (Value.tuple #[← zeroValue 196, .bool false]))).run Tryz.prog w := by kernel_rfl
  rw [e]; by_cases h : u = 196
  · rw [if_pos h, if_pos h]; rfl
  · rw [if_neg h, if_neg h]; exact tz196 w
theorem tn196_209 (w : World) : (Instr.typeAssert .nilIface 209 196 true).run Tryz.prog w = .ok (.tuple #[.agg #[.int .u64 (0), .int .u64 (0), .nilIface, .pointer none], .bool false]) w := by kernel_rfl
theorem ty196 (v : Value) (w : World) : (Instr.typeAssert (.iface 196 v) 20 196 false).run Tryz.prog w = .ok v w := by kernel_rfl
theorem tz247 (w : World) : (do pure (Value.tuple #[← zeroValue 247, .bool false]) : Sem Value).run Tryz.prog w = .ok (.tuple #[.pointer none, .bool false]) w := by kernel_rfl
theorem ta247_20 (u : TypeId) (v : Value) (w : World) : (Instr.typeAssert (.iface u v) 20 247 true).run Tryz.prog w = .ok (.tuple (if u = 247 then #[v, .bool true] else #[.pointer none, .bool false])) w := by
  have e : (Instr.typeAssert (.iface u v) 20 247 true).run Tryz.prog w = (if u = 247 then (pure (Value.tuple #[v, .bool true]) : Sem Value) else (do pure (Value.tuple #[← zeroValue 247, .bool false]))).run Tryz.prog w := by kernel_rfl
  rw [e]; by_cases h : u = 247
  · rw [if_pos h, if_pos h]; rfl
  · rw [if_neg h, if_neg h]; exact tz247 w
theorem tn247_20 (w : World) : (Instr.typeAssert .nilIface 20 247 true).run Tryz.prog w = .ok (.tuple #[.pointer none, .bool false]) w := by kernel_rfl
theorem ty247 (v : Value) (w : World) : (Instr.typeAssert (.iface 247 v) 20 247 false).run Tryz.prog w = .ok v w := by kernel_rfl
theorem ti209_9 (v : Value) (w : World) : (Instr.typeAssert (.iface 9 v) 20 209 true).run Tryz.prog w = .ok (.tuple #[.nilIface, .bool false]) w := run_typeAssert_lacksB Tryz.underlying209 (by kernel_rfl) (by kernel_rfl) v 20 w
theorem ti209_3 (v : Value) (w : World) : (Instr.typeAssert (.iface 3 v) 20 209 true).run Tryz.prog w = .ok (.tuple #[.nilIface, .bool false]) w := run_typeAssert_lacksB Tryz.underlying209 (by kernel_rfl) (by kernel_rfl) v 20 w
theorem ti209_233 (v : Value) (w : World) : (Instr.typeAssert (.iface 233 v) 20 209 true).run Tryz.prog w = .ok (.tuple #[.nilIface, .bool false]) w := run_typeAssert_lacksB Tryz.underlying209 (by kernel_rfl) (by kernel_rfl) v 20 w
theorem ti209_2 (v : Value) (w : World) : (Instr.typeAssert (.iface 2 v) 20 209 true).run Tryz.prog w = .ok (.tuple #[.nilIface, .bool false]) w := run_typeAssert_lacksB Tryz.underlying209 (by kernel_rfl) (by kernel_rfl) v 20 w
theorem ti209_29 (v : Value) (w : World) : (Instr.typeAssert (.iface 29 v) 20 209 true).run Tryz.prog w = .ok (.tuple #[.nilIface, .bool false]) w := run_typeAssert_lacksB Tryz.underlying209 (by kernel_rfl) (by kernel_rfl) v 20 w
theorem ti209_4 (v : Value) (w : World) : (Instr.typeAssert (.iface 4 v) 20 209 true).run Tryz.prog w = .ok (.tuple #[.nilIface, .bool false]) w := run_typeAssert_lacksB Tryz.underlying209 (by kernel_rfl) (by kernel_rfl) v 20 w
theorem ti209_184 (v : Value) (w : World) : (Instr.typeAssert (.iface 184 v) 20 209 true).run Tryz.prog w = .ok (.tuple #[.nilIface, .bool false]) w := run_typeAssert_lacksB Tryz.underlying209 (by kernel_rfl) (by kernel_rfl) v 20 w
theorem ti209_105 (v : Value) (w : World) : (Instr.typeAssert (.iface 105 v) 20 209 true).run Tryz.prog w = .ok (.tuple #[.nilIface, .bool false]) w := run_typeAssert_lacksB Tryz.underlying209 (by kernel_rfl) (by kernel_rfl) v 20 w
theorem ti209_5 (v : Value) (w : World) : (Instr.typeAssert (.iface 5 v) 20 209 true).run Tryz.prog w = .ok (.tuple #[.nilIface, .bool false]) w := run_typeAssert_lacksB Tryz.underlying209 (by kernel_rfl) (by kernel_rfl) v 20 w
theorem ti209_234 (v : Value) (w : World) : (Instr.typeAssert (.iface 234 v) 20 209 true).run Tryz.prog w = .ok (.tuple #[.nilIface, .bool false]) w := run_typeAssert_lacksB Tryz.underlying209 (by kernel_rfl) (by kernel_rfl) v 20 w
theorem ti209_235 (v : Value) (w : World) : (Instr.typeAssert (.iface 235 v) 20 209 true).run Tryz.prog w = .ok (.tuple #[.nilIface, .bool false]) w := run_typeAssert_lacksB Tryz.underlying209 (by kernel_rfl) (by kernel_rfl) v 20 w
theorem ti209_12 (v : Value) (w : World) : (Instr.typeAssert (.iface 12 v) 20 209 true).run Tryz.prog w = .ok (.tuple #[.nilIface, .bool false]) w := run_typeAssert_lacksB Tryz.underlying209 (by kernel_rfl) (by kernel_rfl) v 20 w
theorem ti209_236 (v : Value) (w : World) : (Instr.typeAssert (.iface 236 v) 20 209 true).run Tryz.prog w = .ok (.tuple #[.nilIface, .bool false]) w := run_typeAssert_lacksB Tryz.underlying209 (by kernel_rfl) (by kernel_rfl) v 20 w
theorem ti209_237 (v : Value) (w : World) : (Instr.typeAssert (.iface 237 v) 20 209 true).run Tryz.prog w = .ok (.tuple #[.nilIface, .bool false]) w := run_typeAssert_lacksB Tryz.underlying209 (by kernel_rfl) (by kernel_rfl) v 20 w
theorem ti209_21 (v : Value) (w : World) : (Instr.typeAssert (.iface 21 v) 20 209 true).run Tryz.prog w = .ok (.tuple #[.nilIface, .bool false]) w := run_typeAssert_lacksB Tryz.underlying209 (by kernel_rfl) (by kernel_rfl) v 20 w
theorem ti209_186 (v : Value) (w : World) : (Instr.typeAssert (.iface 186 v) 20 209 true).run Tryz.prog w = .ok (.tuple #[.nilIface, .bool false]) w := run_typeAssert_lacksB Tryz.underlying209 (by kernel_rfl) (by kernel_rfl) v 20 w
theorem ti209_238 (v : Value) (w : World) : (Instr.typeAssert (.iface 238 v) 20 209 true).run Tryz.prog w = .ok (.tuple #[.nilIface, .bool false]) w := run_typeAssert_lacksB Tryz.underlying209 (by kernel_rfl) (by kernel_rfl) v 20 w
theorem ti209_113 (v : Value) (w : World) : (Instr.typeAssert (.iface 113 v) 20 209 true).run Tryz.prog w = .ok (.tuple #[.nilIface, .bool false]) w := run_typeAssert_lacksB Tryz.underlying209 (by kernel_rfl) (by kernel_rfl) v 20 w
theorem ti209_198 (v : Value) (w : World) : (Instr.typeAssert (.iface 198 v) 20 209 true).run Tryz.prog w = .ok (.tuple #[.nilIface, .bool false]) w := run_typeAssert_lacksB Tryz.underlying209 (by kernel_rfl) (by kernel_rfl) v 20 w
theorem ti209_109 (v : Value) (w : World) : (Instr.typeAssert (.iface 109 v) 20 209 true).run Tryz.prog w = .ok (.tuple #[.nilIface, .bool false]) w := run_typeAssert_lacksB Tryz.underlying209 (by kernel_rfl) (by kernel_rfl) v 20 w
theorem ti209_230 (v : Value) (w : World) : (Instr.typeAssert (.iface 230 v) 20 209 true).run Tryz.prog w = .ok (.tuple #[.nilIface, .bool false]) w := run_typeAssert_lacksB Tryz.underlying209 (by kernel_rfl) (by kernel_rfl) v 20 w
theorem ti209_243 (v : Value) (w : World) : (Instr.typeAssert (.iface 243 v) 20 209 true).run Tryz.prog w = .ok (.tuple #[.nilIface, .bool false]) w := run_typeAssert_lacksB Tryz.underlying209 (by kernel_rfl) (by kernel_rfl) v 20 w
theorem ti209_245 (v : Value) (w : World) : (Instr.typeAssert (.iface 245 v) 20 209 true).run Tryz.prog w = .ok (.tuple #[.nilIface, .bool false]) w := run_typeAssert_lacksB Tryz.underlying209 (by kernel_rfl) (by kernel_rfl) v 20 w
theorem ti209_239 (v : Value) (w : World) : (Instr.typeAssert (.iface 239 v) 20 209 true).run Tryz.prog w = .ok (.tuple #[.nilIface, .bool false]) w := run_typeAssert_lacksB Tryz.underlying209 (by kernel_rfl) (by kernel_rfl) v 20 w
theorem ti209_217 (v : Value) (w : World) : (Instr.typeAssert (.iface 217 v) 20 209 true).run Tryz.prog w = .ok (.tuple #[.nilIface, .bool false]) w := run_typeAssert_lacksB Tryz.underlying209 (by kernel_rfl) (by kernel_rfl) v 20 w
theorem ti209_218 (v : Value) (w : World) : (Instr.typeAssert (.iface 218 v) 20 209 true).run Tryz.prog w = .ok (.tuple #[.nilIface, .bool false]) w := run_typeAssert_lacksB Tryz.underlying209 (by kernel_rfl) (by kernel_rfl) v 20 w
theorem ti209_219 (v : Value) (w : World) : (Instr.typeAssert (.iface 219 v) 20 209 true).run Tryz.prog w = .ok (.tuple #[.nilIface, .bool false]) w := run_typeAssert_lacksB Tryz.underlying209 (by kernel_rfl) (by kernel_rfl) v 20 w
theorem ti209_220 (v : Value) (w : World) : (Instr.typeAssert (.iface 220 v) 20 209 true).run Tryz.prog w = .ok (.tuple #[.nilIface, .bool false]) w := run_typeAssert_lacksB Tryz.underlying209 (by kernel_rfl) (by kernel_rfl) v 20 w
theorem ti209_221 (v : Value) (w : World) : (Instr.typeAssert (.iface 221 v) 20 209 true).run Tryz.prog w = .ok (.tuple #[.nilIface, .bool false]) w := run_typeAssert_lacksB Tryz.underlying209 (by kernel_rfl) (by kernel_rfl) v 20 w
theorem ti209_222 (v : Value) (w : World) : (Instr.typeAssert (.iface 222 v) 20 209 true).run Tryz.prog w = .ok (.tuple #[.nilIface, .bool false]) w := run_typeAssert_lacksB Tryz.underlying209 (by kernel_rfl) (by kernel_rfl) v 20 w
theorem ti209_97 (v : Value) (w : World) : (Instr.typeAssert (.iface 97 v) 20 209 true).run Tryz.prog w = .ok (.tuple #[.nilIface, .bool false]) w := run_typeAssert_lacksB Tryz.underlying209 (by kernel_rfl) (by kernel_rfl) v 20 w
theorem ti209_224 (v : Value) (w : World) : (Instr.typeAssert (.iface 224 v) 20 209 true).run Tryz.prog w = .ok (.tuple #[.nilIface, .bool false]) w := run_typeAssert_lacksB Tryz.underlying209 (by kernel_rfl) (by kernel_rfl) v 20 w
theorem ti209_225 (v : Value) (w : World) : (Instr.typeAssert (.iface 225 v) 20 209 true).run Tryz.prog w = .ok (.tuple #[.nilIface, .bool false]) w := run_typeAssert_lacksB Tryz.underlying209 (by kernel_rfl) (by kernel_rfl) v 20 w
theorem ti209_226 (v : Value) (w : World) : (Instr.typeAssert (.iface 226 v) 20 209 true).run Tryz.prog w = .ok (.tuple #[.nilIface, .bool false]) w := run_typeAssert_lacksB Tryz.underlying209 (by kernel_rfl) (by kernel_rfl) v 20 w
theorem ti209_227 (v : Value) (w : World) : (Instr.typeAssert (.iface 227 v) 20 209 true).run Tryz.prog w = .ok (.tuple #[.nilIface, .bool false]) w := run_typeAssert_lacksB Tryz.underlying209 (by kernel_rfl) (by kernel_rfl) v 20 w
theorem ti209_106 (v : Value) (w : World) : (Instr.typeAssert (.iface 106 v) 20 209 true).run Tryz.prog w = .ok (.tuple #[.nilIface, .bool false]) w := run_typeAssert_lacksB Tryz.underlying209 (by kernel_rfl) (by kernel_rfl) v 20 w
theorem ti209_229 (v : Value) (w : World) : (Instr.typeAssert (.iface 229 v) 20 209 true).run Tryz.prog w = .ok (.tuple #[.nilIface, .bool false]) w := run_typeAssert_lacksB Tryz.underlying209 (by kernel_rfl) (by kernel_rfl) v 20 w
theorem ti209_111 (v : Value) (w : World) : (Instr.typeAssert (.iface 111 v) 20 209 true).run Tryz.prog w = .ok (.tuple #[.nilIface, .bool false]) w := run_typeAssert_lacksB Tryz.underlying209 (by kernel_rfl) (by kernel_rfl) v 20 w
theorem ti209_194 (v : Value) (w : World) : (Instr.typeAssert (.iface 194 v) 20 209 true).run Tryz.prog w = .ok (.tuple #[.iface 194 v, .bool true]) w := run_typeAssert_hasB Tryz.underlying209 (by kernel_rfl) v 20 w
theorem tj209_194 (v : Value) (w : World) : (Instr.typeAssert (.iface 194 v) 20 209 false).run Tryz.prog w = .ok (.iface 194 v) w := by kernel_rfl
theorem ti209_196 (v : Value) (w : World) : (Instr.typeAssert (.iface 196 v) 20 209 true).run Tryz.prog w = .ok (.tuple #[.iface 196 v, .bool true]) w := run_typeAssert_hasB Tryz.underlying209 (by kernel_rfl) v 20 w
theorem tj209_196 (v : Value) (w : World) : (Instr.typeAssert (.iface 196 v) 20 209 false).run Tryz.prog w = .ok (.iface 196 v) w := by kernel_rfl
theorem ti209_247 (v : Value) (w : World) : (Instr.typeAssert (.iface 247 v) 20 209 true).run Tryz.prog w = .ok (.tuple #[.nilIface, .bool false]) w := run_typeAssert_lacksB Tryz.underlying209 (by kernel_rfl) (by kernel_rfl) v 20 w
theorem tm209 (w : World) : (Instr.typeAssert .nilIface 20 209 true).run Tryz.prog w = .ok (.tuple #[.nilIface, .bool false]) w := by kernel_rfl
theorem ti139_9 (v : Value) (w : World) : (Instr.typeAssert (.iface 9 v) 20 139 true).run Tryz.prog w = .ok (.tuple #[.nilIface, .bool false]) w := run_typeAssert_lacksB Tryz.underlying139 (by kernel_rfl) (by kernel_rfl) v 20 w
theorem ti139_3 (v : Value) (w : World) : (Instr.typeAssert (.iface 3 v) 20 139 true).run Tryz.prog w = .ok (.tuple #[.nilIface, .bool false]) w := run_typeAssert_lacksB Tryz.underlying139 (by kernel_rfl) (by kernel_rfl) v 20 w
theorem ti139_233 (v : Value) (w : World) : (Instr.typeAssert (.iface 233 v) 20 139 true).run Tryz.prog w = .ok (.tuple #[.nilIface, .bool false]) w := run_typeAssert_lacksB Tryz.underlying139 (by kernel_rfl) (by kernel_rfl) v 20 w
theorem ti139_2 (v : Value) (w : World) : (Instr.typeAssert (.iface 2 v) 20 139 true).run Tryz.prog w = .ok (.tuple #[.nilIface, .bool false]) w := run_typeAssert_lacksB Tryz.underlying139 (by kernel_rfl) (by kernel_rfl) v 20 w
theorem ti139_29 (v : Value) (w : World) : (Instr.typeAssert (.iface 29 v) 20 139 true).run Tryz.prog w = .ok (.tuple #[.nilIface, .bool false]) w := run_typeAssert_lacksB Tryz.underlying139 (by kernel_rfl) (by kernel_rfl) v 20 w
theorem ti139_4 (v : Value) (w : World) : (Instr.typeAssert (.iface 4 v) 20 139 true).run Tryz.prog w = .ok (.tuple #[.nilIface, .bool false]) w := run_typeAssert_lacksB Tryz.underlying139 (by kernel_rfl) (by kernel_rfl) v 20 w
theorem ti139_184 (v : Value) (w : World) : (Instr.typeAssert (.iface 184 v) 20 139 true).run Tryz.prog w = .ok (.tuple #[.nilIface, .bool false]) w := run_typeAssert_lacksB Tryz.underlying139 (by kernel_rfl) (by kernel_rfl) v 20 w
theorem ti139_105 (v : Value) (w : World) : (Instr.typeAssert (.iface 105 v) 20 139 true).run Tryz.prog w = .ok (.tuple #[.nilIface, .bool false]) w := run_typeAssert_lacksB Tryz.underlying139 (by kernel_rfl) (by kernel_rfl) v 20 w
theorem ti139_5 (v : Value) (w : World) : (Instr.typeAssert (.iface 5 v) 20 139 true).run Tryz.prog w = .ok (.tuple #[.nilIface, .bool false]) w := run_typeAssert_lacksB Tryz.underlying139 (by kernel_rfl) (by kernel_rfl) v 20 w
theorem ti139_234 (v : Value) (w : World) : (Instr.typeAssert (.iface 234 v) 20 139 true).run Tryz.prog w = .ok (.tuple #[.nilIface, .bool false]) w := run_typeAssert_lacksB Tryz.underlying139 (by kernel_rfl) (by kernel_rfl) v 20 w
theorem ti139_235 (v : Value) (w : World) : (Instr.typeAssert (.iface 235 v) 20 139 true).run Tryz.prog w = .ok (.tuple #[.nilIface, .bool false]) w := run_typeAssert_lacksB Tryz.underlying139 (by kernel_rfl) (by kernel_rfl) v 20 w
theorem ti139_12 (v : Value) (w : World) : (Instr.typeAssert (.iface 12 v) 20 139 true).run Tryz.prog w = .ok (.tuple #[.nilIface, .bool false]) w := run_typeAssert_lacksB Tryz.underlying139 (by kernel_rfl) (by kernel_rfl) v 20 w
theorem ti139_236 (v : Value) (w : World) : (Instr.typeAssert (.iface 236 v) 20 139 true).run Tryz.prog w = .ok (.tuple #[.nilIface, .bool false]) w := run_typeAssert_lacksB Tryz.underlying139 (by kernel_rfl) (by kernel_rfl) v 20 w
theorem ti139_237 (v : Value) (w : World) : (Instr.typeAssert (.iface 237 v) 20 139 true).run Tryz.prog w = .ok (.tuple #[.nilIface, .bool false]) w := run_typeAssert_lacksB Tryz.underlying139 (by kernel_rfl) (by kernel_rfl) v 20 w
theorem ti139_21 (v : Value) (w : World) : (Instr.typeAssert (.iface 21 v) 20 139 true).run Tryz.prog w = .ok (.tuple #[.nilIface, .bool false]) w := run_typeAssert_lacksB Tryz.underlying139 (by kernel_rfl) (by kernel_rfl) v 20 w
theorem ti139_186 (v : Value) (w : World) : (Instr.typeAssert (.iface 186 v) 20 139 true).run Tryz.prog w = .ok (.tuple #[.nilIface, .bool false]) w := run_typeAssert_lacksB Tryz.underlying139 (by kernel_rfl) (by kernel_rfl) v 20 w
theorem ti139_238 (v : Value) (w : World) : (Instr.typeAssert (.iface 238 v) 20 139 true).run Tryz.prog w = .ok (.tuple #[.nilIface, .bool false]) w := run_typeAssert_lacksB Tryz.underlying139 (by kernel_rfl) (by kernel_rfl) v 20 w
theorem ti139_113 (v : Value) (w : World) : (Instr.typeAssert (.iface 113 v) 20 139 true).run Tryz.prog w = .ok (.tuple #[.nilIface, .bool false]) w := run_typeAssert_lacksB Tryz.underlying139 (by kernel_rfl) (by kernel_rfl) v 20 w
theorem ti139_198 (v : Value) (w : World) : (Instr.typeAssert (.iface 198 v) 20 139 true).run Tryz.prog w = .ok (.tuple #[.nilIface, .bool false]) w := run_typeAssert_lacksB Tryz.underlying139 (by kernel_rfl) (by kernel_rfl) v 20 w
theorem ti139_109 (v : Value) (w : World) : (Instr.typeAssert (.iface 109 v) 20 139 true).run Tryz.prog w = .ok (.tuple #[.nilIface, .bool false]) w := run_typeAssert_lacksB Tryz.underlying139 (by kernel_rfl) (by kernel_rfl) v 20 w
theorem ti139_230 (v : Value) (w : World) : (Instr.typeAssert (.iface 230 v) 20 139 true).run Tryz.prog w = .ok (.tuple #[.nilIface, .bool false]) w := run_typeAssert_lacksB Tryz.underlying139 (by kernel_rfl) (by kernel_rfl) v 20 w
theorem ti139_243 (v : Value) (w : World) : (Instr.typeAssert (.iface 243 v) 20 139 true).run Tryz.prog w = .ok (.tuple #[.nilIface, .bool false]) w := run_typeAssert_lacksB Tryz.underlying139 (by kernel_rfl) (by kernel_rfl) v 20 w
theorem ti139_245 (v : Value) (w : World) : (Instr.typeAssert (.iface 245 v) 20 139 true).run Tryz.prog w = .ok (.tuple #[.nilIface, .bool false]) w := run_typeAssert_lacksB Tryz.underlying139 (by kernel_rfl) (by kernel_rfl) v 20 w
theorem ti139_239 (v : Value) (w : World) : (Instr.typeAssert (.iface 239 v) 20 139 true).run Tryz.prog w = .ok (.tuple #[.nilIface, .bool false]) w := run_typeAssert_lacksB Tryz.underlying139 (by kernel_rfl) (by kernel_rfl) v 20 w
theorem ti139_217 (v : Value) (w : World) : (Instr.typeAssert (.iface 217 v) 20 139 true).run Tryz.prog w = .ok (.tuple #[.iface 217 v, .bool true]) w := run_typeAssert_hasB Tryz.underlying139 (by kernel_rfl) v 20 w
theorem tj139_217 (v : Value) (w : World) : (Instr.typeAssert (.iface 217 v) 20 139 false).run Tryz.prog w = .ok (.iface 217 v) w := by kernel_rfl
theorem ti139_218 (v : Value) (w : World) : (Instr.typeAssert (.iface 218 v) 20 139 true).run Tryz.prog w = .ok (.tuple #[.nilIface, .bool false]) w := run_typeAssert_lacksB Tryz.underlying139 (by kernel_rfl) (by kernel_rfl) v 20 w
theorem ti139_219 (v : Value) (w : World) : (Instr.typeAssert (.iface 219 v) 20 139 true).run Tryz.prog w = .ok (.tuple #[.nilIface, .bool false]) w := run_typeAssert_lacksB Tryz.underlying139 (by kernel_rfl) (by kernel_rfl) v 20 w
theorem ti139_220 (v : Value) (w : World) : (Instr.typeAssert (.iface 220 v) 20 139 true).run Tryz.prog w = .ok (.tuple #[.nilIface, .bool false]) w := run_typeAssert_lacksB Tryz.underlying139 (by kernel_rfl) (by kernel_rfl) v 20 w
theorem ti139_221 (v : Value) (w : World) : (Instr.typeAssert (.iface 221 v) 20 139 true).run Tryz.prog w = .ok (.tuple #[.nilIface, .bool false]) w := run_typeAssert_lacksB Tryz.underlying139 (by kernel_rfl) (by kernel_rfl) v 20 w
theorem ti139_222 (v : Value) (w : World) : (Instr.typeAssert (.iface 222 v) 20 139 true).run Tryz.prog w = .ok (.tuple #[.nilIface, .bool false]) w := run_typeAssert_lacksB Tryz.underlying139 (by kernel_rfl) (by kernel_rfl) v 20 w
theorem ti139_97 (v : Value) (w : World) : (Instr.typeAssert (.iface 97 v) 20 139 true).run Tryz.prog w = .ok (.tuple #[.nilIface, .bool false]) w := run_typeAssert_lacksB Tryz.underlying139 (by kernel_rfl) (by kernel_rfl) v 20 w
theorem ti139_224 (v : Value) (w : World) : (Instr.typeAssert (.iface 224 v) 20 139 true).run Tryz.prog w = .ok (.tuple #[.nilIface, .bool false]) w := run_typeAssert_lacksB Tryz.underlying139 (by kernel_rfl) (by kernel_rfl) v 20 w
theorem ti139_225 (v : Value) (w : World) : (Instr.typeAssert (.iface 225 v) 20 139 true).run Tryz.prog w = .ok (.tuple #[.nilIface, .bool false]) w := run_typeAssert_lacksB Tryz.underlying139 (by kernel_rfl) (by kernel_rfl) v 20 w
theorem ti139_226 (v : Value) (w : World) : (Instr.typeAssert (.iface 226 v) 20 139 true).run Tryz.prog w = .ok (.tuple #[.nilIface, .bool false]) w := run_typeAssert_lacksB Tryz.underlying139 (by kernel_rfl) (by kernel_rfl) v 20 w
theorem ti139_227 (v : Value) (w : World) : (Instr.typeAssert (.iface 227 v) 20 139 true).run Tryz.prog w = .ok (.tuple #[.nilIface, .bool false]) w := run_typeAssert_lacksB Tryz.underlying139 (by kernel_rfl) (by kernel_rfl) v 20 w
theorem ti139_106 (v : Value) (w : World) : (Instr.typeAssert (.iface 106 v) 20 139 true).run Tryz.prog w = .ok (.tuple #[.nilIface, .bool false]) w := run_typeAssert_lacksB Tryz.underlying139 (by kernel_rfl) (by kernel_rfl) v 20 w
theorem ti139_229 (v : Value) (w : World) : (Instr.typeAssert (.iface 229 v) 20 139 true).run Tryz.prog w = .ok (.tuple #[.iface 229 v, .bool true]) w := run_typeAssert_hasB Tryz.underlying139 (by kernel_rfl) v 20 w
theorem tj139_229 (v : Value) (w : World) : (Instr.typeAssert (.iface 229 v) 20 139 false).run Tryz.prog w = .ok (.iface 229 v) w := by kernel_rfl
theorem ti139_111 (v : Value) (w : World) : (Instr.typeAssert (.iface 111 v) 20 139 true).run Tryz.prog w = .ok (.tuple #[.nilIface, .bool false]) w := run_typeAssert_lacksB Tryz.underlying139 (by kernel_rfl) (by kernel_rfl) v 20 w
theorem ti139_194 (v : Value) (w : World) : (Instr.typeAssert (.iface 194 v) 20 139 true).run Tryz.prog w = .ok (.tuple #[.nilIface, .bool false]) w := run_typeAssert_lacksB Tryz.underlying139 (by kernel_rfl) (by kernel_rfl) v 20 w
theorem ti139_196 (v : Value) (w : World) : (Instr.typeAssert (.iface 196 v) 20 139 true).run Tryz.prog w = .ok (.tuple #[.nilIface, .bool false]) w := run_typeAssert_lacksB Tryz.underlying139 (by kernel_rfl) (by kernel_rfl) v 20 w
theorem ti139_247 (v : Value) (w : World) : (Instr.typeAssert (.iface 247 v) 20 139 true).run Tryz.prog w = .ok (.tuple #[.iface 247 v, .bool true]) w := run_typeAssert_hasB Tryz.underlying139 (by kernel_rfl) v 20 w
theorem tj139_247 (v : Value) (w : World) : (Instr.typeAssert (.iface 247 v) 20 139 false).run Tryz.prog w = .ok (.iface 247 v) w := by kernel_rfl
theorem tm139 (w : World) : (Instr.typeAssert .nilIface 20 139 true).run Tryz.prog w = .ok (.tuple #[.nilIface, .bool false]) w := by kernel_rfl
theorem ti262_9 (v : Value) (w : World) : (Instr.typeAssert (.iface 9 v) 20 262 true).run Tryz.prog w = .ok (.tuple #[.nilIface, .bool false]) w := run_typeAssert_lacksB Tryz.underlying262 (by kernel_rfl) (by kernel_rfl) v 20 w
theorem ti262_3 (v : Value) (w : World) : (Instr.typeAssert (.iface 3 v) 20 262 true).run Tryz.prog w = .ok (.tuple #[.nilIface, .bool false]) w := run_typeAssert_lacksB Tryz.underlying262 (by kernel_rfl) (by kernel_rfl) v 20 w
theorem ti262_233 (v : Value) (w : World) : (Instr.typeAssert (.iface 233 v) 20 262 true).run Tryz.prog w = .ok (.tuple #[.nilIface, .bool false]) w := run_typeAssert_lacksB Tryz.underlying262 (by kernel_rfl) (by kernel_rfl) v 20 w
theorem ti262_2 (v : Value) (w : World) : (Instr.typeAssert (.iface 2 v) 20 262 true).run Tryz.prog w = .ok (.tuple #[.nilIface, .bool false]) w := run_typeAssert_lacksB Tryz.underlying262 (by kernel_rfl) (by kernel_rfl) v 20 w
theorem ti262_29 (v : Value) (w : World) : (Instr.typeAssert (.iface 29 v) 20 262 true).run Tryz.prog w = .ok (.tuple #[.nilIface, .bool false]) w := run_typeAssert_lacksB Tryz.underlying262 (by kernel_rfl) (by kernel_rfl) v 20 w
theorem ti262_4 (v : Value) (w : World) : (Instr.typeAssert (.iface 4 v) 20 262 true).run Tryz.prog w = .ok (.tuple #[.nilIface, .bool false]) w := run_typeAssert_lacksB Tryz.underlying262 (by kernel_rfl) (by kernel_rfl) v 20 w
theorem ti262_184 (v : Value) (w : World) : (Instr.typeAssert (.iface 184 v) 20 262 true).run Tryz.prog w = .ok (.tuple #[.iface 184 v, .bool true]) w := run_typeAssert_hasB Tryz.underlying262 (by kernel_rfl) v 20 w
theorem tj262_184 (v : Value) (w : World) : (Instr.typeAssert (.iface 184 v) 20 262 false).run Tryz.prog w = .ok (.iface 184 v) w := by kernel_rfl
theorem ti262_105 (v : Value) (w : World) : (Instr.typeAssert (.iface 105 v) 20 262 true).run Tryz.prog w = .ok (.tuple #[.nilIface, .bool false]) w := run_typeAssert_lacksB Tryz.underlying262 (by kernel_rfl) (by kernel_rfl) v 20 w
theorem ti262_5 (v : Value) (w : World) : (Instr.typeAssert (.iface 5 v) 20 262 true).run Tryz.prog w = .ok (.tuple #[.nilIface, .bool false]) w := run_typeAssert_lacksB Tryz.underlying262 (by kernel_rfl) (by kernel_rfl) v 20 w
theorem ti262_234 (v : Value) (w : World) : (Instr.typeAssert (.iface 234 v) 20 262 true).run Tryz.prog w = .ok (.tuple #[.nilIface, .bool false]) w := run_typeAssert_lacksB Tryz.underlying262 (by kernel_rfl) (by kernel_rfl) v 20 w
theorem ti262_235 (v : Value) (w : World) : (Instr.typeAssert (.iface 235 v) 20 262 true).run Tryz.prog w = .ok (.tuple #[.nilIface, .bool false]) w := run_typeAssert_lacksB Tryz.underlying262 (by kernel_rfl) (by kernel_rfl) v 20 w
theorem ti262_12 (v : Value) (w : World) : (Instr.typeAssert (.iface 12 v) 20 262 true).run Tryz.prog w = .ok (.tuple #[.nilIface, .bool false]) w := run_typeAssert_lacksB Tryz.underlying262 (by kernel_rfl) (by kernel_rfl) v 20 w
theorem ti262_236 (v : Value) (w : World) : (Instr.typeAssert (.iface 236 v) 20 262 true).run Tryz.prog w = .ok (.tuple #[.nilIface, .bool false]) w := run_typeAssert_lacksB Tryz.underlying262 (by kernel_rfl) (by kernel_rfl) v 20 w
theorem ti262_237 (v : Value) (w : World) : (Instr.typeAssert (.iface 237 v) 20 262 true).run Tryz.prog w = .ok (.tuple #[.nilIface, .bool false]) w := run_typeAssert_lacksB Tryz.underlying262 (by kernel_rfl) (by kernel_rfl) v 20 w
theorem ti262_21 (v : Value) (w : World) : (Instr.typeAssert (.iface 21 v) 20 262 true).run Tryz.prog w = .ok (.tuple #[.nilIface, .bool false]) w := run_typeAssert_lacksB Tryz.underlying262 (by kernel_rfl) (by kernel_rfl) v 20 w
theorem ti262_186 (v : Value) (w : World) : (Instr.typeAssert (.iface 186 v) 20 262 true).run Tryz.prog w = .ok (.tuple #[.nilIface, .bool false]) w := run_typeAssert_lacksB Tryz.underlying262 (by kernel_rfl) (by kernel_rfl) v 20 w
theorem ti262_238 (v : Value) (w : World) : (Instr.typeAssert (.iface 238 v) 20 262 true).run Tryz.prog w = .ok (.tuple #[.nilIface, .bool false]) w := run_typeAssert_lacksB Tryz.underlying262 (by kernel_rfl) (by kernel_rfl) v 20 w
theorem ti262_113 (v : Value) (w : World) : (Instr.typeAssert (.iface 113 v) 20 262 true).run Tryz.prog w = .ok (.tuple #[.nilIface, .bool false]) w := run_typeAssert_lacksB Tryz.underlying262 (by kernel_rfl) (by kernel_rfl) v 20 w
theorem ti262_198 (v : Value) (w : World) : (Instr.typeAssert (.iface 198 v) 20 262 true).run Tryz.prog w = .ok (.tuple #[.iface 198 v, .bool true]) w := run_typeAssert_hasB Tryz.underlying262 (by kernel_rfl) v 20 w
theorem tj262_198 (v : Value) (w : World) : (Instr.typeAssert (.iface 198 v) 20 262 false).run Tryz.prog w = .ok (.iface 198 v) w := by kernel_rfl
theorem ti262_109 (v : Value) (w : World) : (Instr.typeAssert (.iface 109 v) 20 262 true).run Tryz.prog w = .ok (.tuple #[.iface 109 v, .bool true]) w := run_typeAssert_hasB Tryz.underlying262 (by kernel_rfl) v 20 w
theorem tj262_109 (v : Value) (w : World) : (Instr.typeAssert (.iface 109 v) 20 262 false).run Tryz.prog w = .ok (.iface 109 v) w := by kernel_rfl
theorem ti262_230 (v : Value) (w : World) : (Instr.typeAssert (.iface 230 v) 20 262 true).run Tryz.prog w = .ok (.tuple #[.nilIface, .bool false]) w := run_typeAssert_lacksB Tryz.underlying262 (by kernel_rfl) (by kernel_rfl) v 20 w
theorem ti262_243 (v : Value) (w : World) : (Instr.typeAssert (.iface 243 v) 20 262 true).run Tryz.prog w = .ok (.tuple #[.nilIface, .bool false]) w := run_typeAssert_lacksB Tryz.underlying262 (by kernel_rfl) (by kernel_rfl) v 20 w
theorem ti262_245 (v : Value) (w : World) : (Instr.typeAssert (.iface 245 v) 20 262 true).run Tryz.prog w = .ok (.tuple #[.nilIface, .bool false]) w := run_typeAssert_lacksB Tryz.underlying262 (by kernel_rfl) (by kernel_rfl) v 20 w
theorem ti262_239 (v : Value) (w : World) : (Instr.typeAssert (.iface 239 v) 20 262 true).run Tryz.prog w = .ok (.tuple #[.nilIface, .bool false]) w := run_typeAssert_lacksB Tryz.underlying262 (by kernel_rfl) (by kernel_rfl) v 20 w
theorem ti262_217 (v : Value) (w : World) : (Instr.typeAssert (.iface 217 v) 20 262 true).run Tryz.prog w = .ok (.tuple #[.nilIface, .bool false]) w := run_typeAssert_lacksB Tryz.underlying262 (by kernel_rfl) (by kernel_rfl) v 20 w
theorem ti262_218 (v : Value) (w : World) : (Instr.typeAssert (.iface 218 v) 20 262 true).run Tryz.prog w = .ok (.tuple #[.iface 218 v, .bool true]) w := run_typeAssert_hasB Tryz.underlying262 (by kernel_rfl) v 20 w
theorem tj262_218 (v : Value) (w : World) : (Instr.typeAssert (.iface 218 v) 20 262 false).run Tryz.prog w = .ok (.iface 218 v) w := by kernel_rfl
theorem ti262_219 (v : Value) (w : World) : (Instr.typeAssert (.iface 219 v) 20 262 true).run Tryz.prog w = .ok (.tuple #[.nilIface, .bool false]) w := run_typeAssert_lacksB Tryz.underlying262 (by kernel_rfl) (by kernel_rfl) v 20 w
theorem ti262_220 (v : Value) (w : World) : (Instr.typeAssert (.iface 220 v) 20 262 true).run Tryz.prog w = .ok (.tuple #[.nilIface, .bool false]) w := run_typeAssert_lacksB Tryz.underlying262 (by kernel_rfl) (by kernel_rfl) v 20 w
theorem ti262_221 (v : Value) (w : World) : (Instr.typeAssert (.iface 221 v) 20 262 true).run Tryz.prog w = .ok (.tuple #[.nilIface, .bool false]) w := run_typeAssert_lacksB Tryz.underlying262 (by kernel_rfl) (by kernel_rfl) v 20 w
theorem ti262_222 (v : Value) (w : World) : (Instr.typeAssert (.iface 222 v) 20 262 true).run Tryz.prog w = .ok (.tuple #[.nilIface, .bool false]) w := run_typeAssert_lacksB Tryz.underlying262 (by kernel_rfl) (by kernel_rfl) v 20 w
theorem ti262_97 (v : Value) (w : World) : (Instr.typeAssert (.iface 97 v) 20 262 true).run Tryz.prog w = .ok (.tuple #[.iface 97 v, .bool true]) w := run_typeAssert_hasB Tryz.underlying262 (by kernel_rfl) v 20 w
theorem tj262_97 (v : Value) (w : World) : (Instr.typeAssert (.iface 97 v) 20 262 false).run Tryz.prog w = .ok (.iface 97 v) w := by kernel_rfl
theorem ti262_224 (v : Value) (w : World) : (Instr.typeAssert (.iface 224 v) 20 262 true).run Tryz.prog w = .ok (.tuple #[.nilIface, .bool false]) w := run_typeAssert_lacksB Tryz.underlying262 (by kernel_rfl) (by kernel_rfl) v 20 w
theorem ti262_225 (v : Value) (w : World) : (Instr.typeAssert (.iface 225 v) 20 262 true).run Tryz.prog w = .ok (.tuple #[.nilIface, .bool false]) w := run_typeAssert_lacksB Tryz.underlying262 (by kernel_rfl) (by kernel_rfl) v 20 w
theorem ti262_226 (v : Value) (w : World) : (Instr.typeAssert (.iface 226 v) 20 262 true).run Tryz.prog w = .ok (.tuple #[.nilIface, .bool false]) w := run_typeAssert_lacksB Tryz.underlying262 (by kernel_rfl) (by kernel_rfl) v 20 w
theorem ti262_227 (v : Value) (w : World) : (Instr.typeAssert (.iface 227 v) 20 262 true).run Tryz.prog w = .ok (.tuple #[.nilIface, .bool false]) w := run_typeAssert_lacksB Tryz.underlying262 (by kernel_rfl) (by kernel_rfl) v 20 w
theorem ti262_106 (v : Value) (w : World) : (Instr.typeAssert (.iface 106 v) 20 262 true).run Tryz.prog w = .ok (.tuple #[.nilIface, .bool false]) w := run_typeAssert_lacksB Tryz.underlying262 (by kernel_rfl) (by kernel_rfl) v 20 w
theorem ti262_229 (v : Value) (w : World) : (Instr.typeAssert (.iface 229 v) 20 262 true).run Tryz.prog w = .ok (.tuple #[.nilIface, .bool false]) w := run_typeAssert_lacksB Tryz.underlying262 (by kernel_rfl) (by kernel_rfl) v 20 w
theorem ti262_111 (v : Value) (w : World) : (Instr.typeAssert (.iface 111 v) 20 262 true).run Tryz.prog w = .ok (.tuple #[.iface 111 v, .bool true]) w := run_typeAssert_hasB Tryz.underlying262 (by kernel_rfl) v 20 w
theorem tj262_111 (v : Value) (w : World) : (Instr.typeAssert (.iface 111 v) 20 262 false).run Tryz.prog w = .ok (.iface 111 v) w := by kernel_rfl
theorem ti262_194 (v : Value) (w : World) : (Instr.typeAssert (.iface 194 v) 20 262 true).run Tryz.prog w = .ok (.tuple #[.nilIface, .bool false]) w := run_typeAssert_lacksB Tryz.underlying262 (by kernel_rfl) (by kernel_rfl) v 20 w
theorem ti262_196 (v : Value) (w : World) : (Instr.typeAssert (.iface 196 v) 20 262 true).run Tryz.prog w = .ok (.tuple #[.nilIface, .bool false]) w := run_typeAssert_lacksB Tryz.underlying262 (by kernel_rfl) (by kernel_rfl) v 20 w
theorem ti262_247 (v : Value) (w : World) : (Instr.typeAssert (.iface 247 v) 20 262 true).run Tryz.prog w = .ok (.tuple #[.nilIface, .bool false]) w := run_typeAssert_lacksB Tryz.underlying262 (by kernel_rfl) (by kernel_rfl) v 20 w
theorem tm262 (w : World) : (Instr.typeAssert .nilIface 20 262 true).run Tryz.prog w = .ok (.tuple #[.nilIface, .bool false]) w := by kernel_rfl
theorem mk9 (v : Value) (w : World) : (Instr.makeInterface 9 v).run Tryz.prog w = .ok (.iface 9 v) w := by kernel_rfl
theorem mk3 (v : Value) (w : World) : (Instr.makeInterface 3 v).run Tryz.prog w = .ok (.iface 3 v) w := by kernel_rfl
theorem mk233 (v : Value) (w : World) : (Instr.makeInterface 233 v).run Tryz.prog w = .ok (.iface 233 v) w := by kernel_rfl
theorem mk2 (v : Value) (w : World) : (Instr.makeInterface 2 v).run Tryz.prog w = .ok (.iface 2 v) w := by kernel_rfl
theorem mk29 (v : Value) (w : World) : (Instr.makeInterface 29 v).run Tryz.prog w = .ok (.iface 29 v) w := by kernel_rfl
theorem mk4 (v : Value) (w : World) : (Instr.makeInterface 4 v).run Tryz.prog w = .ok (.iface 4 v) w := by kernel_rfl
theorem mk184 (v : Value) (w : World) : (Instr.makeInterface 184 v).run Tryz.prog w = .ok (.iface 184 v) w := by kernel_rfl
theorem mk105 (v : Value) (w : World) : (Instr.makeInterface 105 v).run Tryz.prog w = .ok (.iface 105 v) w := by kernel_rfl
theorem mk5 (v : Value) (w : World) : (Instr.makeInterface 5 v).run Tryz.prog w = .ok (.iface 5 v) w := by kernel_rfl
theorem mk234 (v : Value) (w : World) : (Instr.makeInterface 234 v).run Tryz.prog w = .ok (.iface 234 v) w := by kernel_rfl
theorem mk235 (v : Value) (w : World) : (Instr.makeInterface 235 v).run Tryz.prog w = .ok (.iface 235 v) w := by kernel_rfl
theorem mk12 (v : Value) (w : World) : (Instr.makeInterface 12 v).run Tryz.prog w = .ok (.iface 12 v) w := by kernel_rfl
theorem mk236 (v : Value) (w : World) : (Instr.makeInterface 236 v).run Tryz.prog w = .ok (.iface 236 v) w := by kernel_rfl
theorem mk237 (v : Value) (w : World) : (Instr.makeInterface 237 v).run Tryz.prog w = .ok (.iface 237 v) w := by kernel_rfl
theorem mk21 (v : Value) (w : World) : (Instr.makeInterface 21 v).run Tryz.prog w = .ok (.iface 21 v) w := by kernel_rfl
theorem mk186 (v : Value) (w : World) : (Instr.makeInterface 186 v).run Tryz.prog w = .ok (.iface 186 v) w := by kernel_rfl
theorem mk238 (v : Value) (w : World) : (Instr.makeInterface 238 v).run Tryz.prog w = .ok (.iface 238 v) w := by kernel_rfl
theorem mk113 (v : Value) (w : World) : (Instr.makeInterface 113 v).run Tryz.prog w = .ok (.iface 113 v) w := by kernel_rfl
theorem mk198 (v : Value) (w : World) : (Instr.makeInterface 198 v).run Tryz.prog w = .ok (.iface 198 v) w := by kernel_rfl
theorem mk109 (v : Value) (w : World) : (Instr.makeInterface 109 v).run Tryz.prog w = .ok (.iface 109 v) w := by kernel_rfl
theorem mk230 (v : Value) (w : World) : (Instr.makeInterface 230 v).run Tryz.prog w = .ok (.iface 230 v) w := by kernel_rfl
theorem mk243 (v : Value) (w : World) : (Instr.makeInterface 243 v).run Tryz.prog w = .ok (.iface 243 v) w := by kernel_rfl
theorem mk245 (v : Value) (w : World) : (Instr.makeInterface 245 v).run Tryz.prog w = .ok (.iface 245 v) w := by kernel_rfl
theorem mk239 (v : Value) (w : World) : (Instr.makeInterface 239 v).run Tryz.prog w = .ok (.iface 239 v) w := by kernel_rfl
theorem mk217 (v : Value) (w : World) : (Instr.makeInterface 217 v).run Tryz.prog w = .ok (.iface 217 v) w := by kernel_rfl
theorem mk218 (v : Value) (w : World) : (Instr.makeInterface 218 v).run Tryz.prog w = .ok (.iface 218 v) w := by kernel_rfl
theorem mk219 (v : Value) (w : World) : (Instr.makeInterface 219 v).run Tryz.prog w = .ok (.iface 219 v) w := by kernel_rfl
theorem mk220 (v : Value) (w : World) : (Instr.makeInterface 220 v).run Tryz.prog w = .ok (.iface 220 v) w := by kernel_rfl
theorem mk221 (v : Value) (w : World) : (Instr.makeInterface 221 v).run Tryz.prog w = .ok (.iface 221 v) w := by kernel_rfl
theorem mk222 (v : Value) (w : World) : (Instr.makeInterface 222 v).run Tryz.prog w = .ok (.iface 222 v) w := by kernel_rfl
theorem mk97 (v : Value) (w : World) : (Instr.makeInterface 97 v).run Tryz.prog w = .ok (.iface 97 v) w := by kernel_rfl
theorem mk224 (v : Value) (w : World) : (Instr.makeInterface 224 v).run Tryz.prog w = .ok (.iface 224 v) w := by kernel_rfl
theorem mk225 (v : Value) (w : World) : (Instr.makeInterface 225 v).run Tryz.prog w = .ok (.iface 225 v) w := by kernel_rfl
theorem mk226 (v : Value) (w : World) : (Instr.makeInterface 226 v).run Tryz.prog w = .ok (.iface 226 v) w := by kernel_rfl
theorem mk227 (v : Value) (w : World) : (Instr.makeInterface 227 v).run Tryz.prog w = .ok (.iface 227 v) w := by kernel_rfl
theorem mk106 (v : Value) (w : World) : (Instr.makeInterface 106 v).run Tryz.prog w = .ok (.iface 106 v) w := by kernel_rfl
theorem mk229 (v : Value) (w : World) : (Instr.makeInterface 229 v).run Tryz.prog w = .ok (.iface 229 v) w := by kernel_rfl
theorem mk111 (v : Value) (w : World) : (Instr.makeInterface 111 v).run Tryz.prog w = .ok (.iface 111 v) w := by kernel_rfl
theorem mk194 (v : Value) (w : World) : (Instr.makeInterface 194 v).run Tryz.prog w = .ok (.iface 194 v) w := by kernel_rfl
theorem mk196 (v : Value) (w : World) : (Instr.makeInterface 196 v).run Tryz.prog w = .ok (.iface 196 v) w := by kernel_rfl
theorem mk247 (v : Value) (w : World) : (Instr.makeInterface 247 v).run Tryz.prog w = .ok (.iface 247 v) w := by kernel_rfl

attribute [go_sem] ta9_20 tn9_20 ty9 ta3_20 tn3_20 ty3 ta233_20 tn233_20 ty233 ta2_20 tn2_20 ty2 ta29_20 tn29_20 ty29 ta4_20 tn4_20 ty4 ta184_20 tn184_20 ty184 ta105_20 tn105_20 ty105 ta5_20 tn5_20 ty5 ta234_20 tn234_20 ty234 ta235_20 tn235_20 ty235 ta12_20 tn12_20 ty12 ta236_20 tn236_20 ty236 ta237_20 tn237_20 ty237 ta21_20 tn21_20 ty21 ta186_20 tn186_20 ty186 ta238_20 tn238_20 ty238 ta113_20 tn113_20 ty113 ta198_20 tn198_20 ty198 ta109_20 tn109_20 ty109 ta230_20 tn230_20 ty230 ta243_20 tn243_20 ty243 ta245_20 tn245_20 ty245 ta239_20 tn239_20 ty239 ta217_20 tn217_20 ty217 ta218_20 tn218_20 ty218 ta219_20 tn219_20 ty219 ta220_20 tn220_20 ty220 ta221_20 tn221_20 ty221 ta222_20 tn222_20 ty222 ta97_20 tn97_20 ty97 ta224_20 tn224_20 ty224 ta225_20 tn225_20 ty225 ta226_20 tn226_20 ty226 ta227_20 tn227_20 ty227 ta106_20 tn106_20 ty106 ta229_20 tn229_20 ty229 ta111_20 tn111_20 ty111 ta194_20 tn194_20 ta194_209 tn194_209 ty194 ta196_20 tn196_20 ta196_209 tn196_209 ty196 ta247_20 tn247_20 ty247 ti209_9 ti209_3 ti209_233 ti209_2 ti209_29 ti209_4 ti209_184 ti209_105 ti209_5 ti209_234 ti209_235 ti209_12 ti209_236 ti209_237 ti209_21 ti209_186 ti209_238 ti209_113 ti209_198 ti209_109 ti209_230 ti209_243 ti209_245 ti209_239 ti209_217 ti209_218 ti209_219 ti209_220 ti209_221 ti209_222 ti209_97 ti209_224 ti209_225 ti209_226 ti209_227 ti209_106 ti209_229 ti209_111 ti209_194 tj209_194 ti209_196 tj209_196 ti209_247 tm209 ti139_9 ti139_3 ti139_233 ti139_2 ti139_29 ti139_4 ti139_184 ti139_105 ti139_5 ti139_234 ti139_235 ti139_12 ti139_236 ti139_237 ti139_21 ti139_186 ti139_238 ti139_113 ti139_198 ti139_109 ti139_230 ti139_243 ti139_245 ti139_239 ti139_217 tj139_217 ti139_218 ti139_219 ti139_220 ti139_221 ti139_222 ti139_97 ti139_224 ti139_225 ti139_226 ti139_227 ti139_106 ti139_229 tj139_229 ti139_111 ti139_194 ti139_196 ti139_247 tj139_247 tm139 ti262_9 ti262_3 ti262_233 ti262_2 ti262_29 ti262_4 ti262_184 tj262_184 ti262_105 ti262_5 ti262_234 ti262_235 ti262_12 ti262_236 ti262_237 ti262_21 ti262_186 ti262_238 ti262_113 ti262_198 tj262_198 ti262_109 tj262_109 ti262_230 ti262_243 ti262_245 ti262_239 ti262_217 ti262_218 tj262_218 ti262_219 ti262_220 ti262_221 ti262_222 ti262_97 tj262_97 ti262_224 ti262_225 ti262_226 ti262_227 ti262_106 ti262_229 ti262_111 tj262_111 ti262_194 ti262_196 ti262_247 tm262 mk9 mk3 mk233 mk2 mk29 mk4 mk184 mk105 mk5 mk234 mk235 mk12 mk236 mk237 mk21 mk186 mk238 mk113 mk198 mk109 mk230 mk243 mk245 mk239 mk217 mk218 mk219 mk220 mk221 mk222 mk97 mk224 mk225 mk226 mk227 mk106 mk229 mk111 mk194 mk196 mk247
end Go.Proofs.YtihhgnbgejjijaaGreatDoor.Facts
