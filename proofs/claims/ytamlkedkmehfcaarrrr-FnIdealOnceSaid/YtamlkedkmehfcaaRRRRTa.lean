/- Type assertions with ',ok' to the types of this program, as rules for the walk. -/
import Derived.Test.YtamlkedkmehfcaaRRRRRows
import Derived.WalkKit
namespace Go.Proofs.YtamlkedkmehfcaaRRRR
set_option linter.unusedVariables false
set_option linter.unusedSimpArgs false

theorem assert_any {P : Program} {A : TypeId} {d : TypeDesc} {z : Value} (hu : P.underlying A = some d) (hni : ∀ ms, d ≠ .interface ms) (hz : (P.info? A).map (·.zero) = some (some z)) (T : TypeId) (v : Value) (xT : TypeId) (w : World) :
    (Instr.typeAssert (.iface T v) xT A true).run P w = .ok (if T = A then .tuple #[v, .bool true] else .tuple #[z, .bool false]) w := by
  obtain ⟨j, hj, hz'⟩ := Option.map_eq_some_iff.1 hz
  by_cases h : T = A
  · subst h
    cases d <;> first | exact absurd rfl (hni _) | simp [Instr.typeAssert, run_underlying hu]
  · cases d <;> first | exact absurd rfl (hni _) | simp [Instr.typeAssert, run_underlying hu, h, zeroValue, hj, hz', typeInfo]
theorem assert_nil {P : Program} {A : TypeId} {d : TypeDesc} {z : Value} (hu : P.underlying A = some d) (hni : ∀ ms, d ≠ .interface ms) (hz : (P.info? A).map (·.zero) = some (some z)) (xT : TypeId) (w : World) :
    (Instr.typeAssert .nilIface xT A true).run P w = .ok (.tuple #[z, .bool false]) w := by
  obtain ⟨j, hj, hz'⟩ := Option.map_eq_some_iff.1 hz
  cases d <;> first | exact absurd rfl (hni _) | simp [Instr.typeAssert, run_underlying hu, zeroValue, hj, hz', typeInfo]
theorem ta4 (T : TypeId) (v : Value) (xT : TypeId) (w : World) : (Instr.typeAssert (.iface T v) xT 4 true).run Try.prog w = .ok (if T = 4 then .tuple #[v, .bool true] else .tuple #[.bool false, .bool false]) w := assert_any Try.underlying4 (fun _ h => by cases h) (by kernel_rfl) T v xT w
theorem tn4 (xT : TypeId) (w : World) : (Instr.typeAssert .nilIface xT 4 true).run Try.prog w = .ok (.tuple #[.bool false, .bool false]) w := assert_nil Try.underlying4 (fun _ h => by cases h) (by kernel_rfl) xT w
theorem ta55 (T : TypeId) (v : Value) (xT : TypeId) (w : World) : (Instr.typeAssert (.iface T v) xT 55 true).run Try.prog w = .ok (if T = 55 then .tuple #[v, .bool true] else .tuple #[.int .i8 0, .bool false]) w := assert_any Try.underlying55 (fun _ h => by cases h) (by kernel_rfl) T v xT w
theorem tn55 (xT : TypeId) (w : World) : (Instr.typeAssert .nilIface xT 55 true).run Try.prog w = .ok (.tuple #[.int .i8 0, .bool false]) w := assert_nil Try.underlying55 (fun _ h => by cases h) (by kernel_rfl) xT w
theorem ta56 (T : TypeId) (v : Value) (xT : TypeId) (w : World) : (Instr.typeAssert (.iface T v) xT 56 true).run Try.prog w = .ok (if T = 56 then .tuple #[v, .bool true] else .tuple #[.int .i16 0, .bool false]) w := assert_any Try.underlying56 (fun _ h => by cases h) (by kernel_rfl) T v xT w
theorem tn56 (xT : TypeId) (w : World) : (Instr.typeAssert .nilIface xT 56 true).run Try.prog w = .ok (.tuple #[.int .i16 0, .bool false]) w := assert_nil Try.underlying56 (fun _ h => by cases h) (by kernel_rfl) xT w
theorem ta21 (T : TypeId) (v : Value) (xT : TypeId) (w : World) : (Instr.typeAssert (.iface T v) xT 21 true).run Try.prog w = .ok (if T = 21 then .tuple #[v, .bool true] else .tuple #[.int .i32 0, .bool false]) w := assert_any Try.underlying21 (fun _ h => by cases h) (by kernel_rfl) T v xT w
theorem tn21 (xT : TypeId) (w : World) : (Instr.typeAssert .nilIface xT 21 true).run Try.prog w = .ok (.tuple #[.int .i32 0, .bool false]) w := assert_nil Try.underlying21 (fun _ h => by cases h) (by kernel_rfl) xT w
theorem ta2 (T : TypeId) (v : Value) (xT : TypeId) (w : World) : (Instr.typeAssert (.iface T v) xT 2 true).run Try.prog w = .ok (if T = 2 then .tuple #[v, .bool true] else .tuple #[.int .i64 0, .bool false]) w := assert_any Try.underlying2 (fun _ h => by cases h) (by kernel_rfl) T v xT w
theorem tn2 (xT : TypeId) (w : World) : (Instr.typeAssert .nilIface xT 2 true).run Try.prog w = .ok (.tuple #[.int .i64 0, .bool false]) w := assert_nil Try.underlying2 (fun _ h => by cases h) (by kernel_rfl) xT w
theorem ta5 (T : TypeId) (v : Value) (xT : TypeId) (w : World) : (Instr.typeAssert (.iface T v) xT 5 true).run Try.prog w = .ok (if T = 5 then .tuple #[v, .bool true] else .tuple #[.int .u8 0, .bool false]) w := assert_any Try.underlying5 (fun _ h => by cases h) (by kernel_rfl) T v xT w
theorem tn5 (xT : TypeId) (w : World) : (Instr.typeAssert .nilIface xT 5 true).run Try.prog w = .ok (.tuple #[.int .u8 0, .bool false]) w := assert_nil Try.underlying5 (fun _ h => by cases h) (by kernel_rfl) xT w
theorem ta57 (T : TypeId) (v : Value) (xT : TypeId) (w : World) : (Instr.typeAssert (.iface T v) xT 57 true).run Try.prog w = .ok (if T = 57 then .tuple #[v, .bool true] else .tuple #[.int .u16 0, .bool false]) w := assert_any Try.underlying57 (fun _ h => by cases h) (by kernel_rfl) T v xT w
theorem tn57 (xT : TypeId) (w : World) : (Instr.typeAssert .nilIface xT 57 true).run Try.prog w = .ok (.tuple #[.int .u16 0, .bool false]) w := assert_nil Try.underlying57 (fun _ h => by cases h) (by kernel_rfl) xT w
theorem ta58 (T : TypeId) (v : Value) (xT : TypeId) (w : World) : (Instr.typeAssert (.iface T v) xT 58 true).run Try.prog w = .ok (if T = 58 then .tuple #[v, .bool true] else .tuple #[.int .u32 0, .bool false]) w := assert_any Try.underlying58 (fun _ h => by cases h) (by kernel_rfl) T v xT w
theorem tn58 (xT : TypeId) (w : World) : (Instr.typeAssert .nilIface xT 58 true).run Try.prog w = .ok (.tuple #[.int .u32 0, .bool false]) w := assert_nil Try.underlying58 (fun _ h => by cases h) (by kernel_rfl) xT w
theorem ta26 (T : TypeId) (v : Value) (xT : TypeId) (w : World) : (Instr.typeAssert (.iface T v) xT 26 true).run Try.prog w = .ok (if T = 26 then .tuple #[v, .bool true] else .tuple #[.int .u64 0, .bool false]) w := assert_any Try.underlying26 (fun _ h => by cases h) (by kernel_rfl) T v xT w
theorem tn26 (xT : TypeId) (w : World) : (Instr.typeAssert .nilIface xT 26 true).run Try.prog w = .ok (.tuple #[.int .u64 0, .bool false]) w := assert_nil Try.underlying26 (fun _ h => by cases h) (by kernel_rfl) xT w
theorem ta3 (T : TypeId) (v : Value) (xT : TypeId) (w : World) : (Instr.typeAssert (.iface T v) xT 3 true).run Try.prog w = .ok (if T = 3 then .tuple #[v, .bool true] else .tuple #[.int .i64 0, .bool false]) w := assert_any Try.underlying3 (fun _ h => by cases h) (by kernel_rfl) T v xT w
theorem tn3 (xT : TypeId) (w : World) : (Instr.typeAssert .nilIface xT 3 true).run Try.prog w = .ok (.tuple #[.int .i64 0, .bool false]) w := assert_nil Try.underlying3 (fun _ h => by cases h) (by kernel_rfl) xT w
theorem ta43 (T : TypeId) (v : Value) (xT : TypeId) (w : World) : (Instr.typeAssert (.iface T v) xT 43 true).run Try.prog w = .ok (if T = 43 then .tuple #[v, .bool true] else .tuple #[.int .u64 0, .bool false]) w := assert_any Try.underlying43 (fun _ h => by cases h) (by kernel_rfl) T v xT w
theorem tn43 (xT : TypeId) (w : World) : (Instr.typeAssert .nilIface xT 43 true).run Try.prog w = .ok (.tuple #[.int .u64 0, .bool false]) w := assert_nil Try.underlying43 (fun _ h => by cases h) (by kernel_rfl) xT w
theorem ta44 (T : TypeId) (v : Value) (xT : TypeId) (w : World) : (Instr.typeAssert (.iface T v) xT 44 true).run Try.prog w = .ok (if T = 44 then .tuple #[v, .bool true] else .tuple #[.float .f32 0, .bool false]) w := assert_any Try.underlying44 (fun _ h => by cases h) (by kernel_rfl) T v xT w
theorem tn44 (xT : TypeId) (w : World) : (Instr.typeAssert .nilIface xT 44 true).run Try.prog w = .ok (.tuple #[.float .f32 0, .bool false]) w := assert_nil Try.underlying44 (fun _ h => by cases h) (by kernel_rfl) xT w
theorem ta27 (T : TypeId) (v : Value) (xT : TypeId) (w : World) : (Instr.typeAssert (.iface T v) xT 27 true).run Try.prog w = .ok (if T = 27 then .tuple #[v, .bool true] else .tuple #[.float .f64 0, .bool false]) w := assert_any Try.underlying27 (fun _ h => by cases h) (by kernel_rfl) T v xT w
theorem tn27 (xT : TypeId) (w : World) : (Instr.typeAssert .nilIface xT 27 true).run Try.prog w = .ok (.tuple #[.float .f64 0, .bool false]) w := assert_nil Try.underlying27 (fun _ h => by cases h) (by kernel_rfl) xT w
theorem ta9 (T : TypeId) (v : Value) (xT : TypeId) (w : World) : (Instr.typeAssert (.iface T v) xT 9 true).run Try.prog w = .ok (if T = 9 then .tuple #[v, .bool true] else .tuple #[.string ⟨#[]⟩, .bool false]) w := assert_any Try.underlying9 (fun _ h => by cases h) (by kernel_rfl) T v xT w
theorem tn9 (xT : TypeId) (w : World) : (Instr.typeAssert .nilIface xT 9 true).run Try.prog w = .ok (.tuple #[.string ⟨#[]⟩, .bool false]) w := assert_nil Try.underlying9 (fun _ h => by cases h) (by kernel_rfl) xT w
theorem ta59 (T : TypeId) (v : Value) (xT : TypeId) (w : World) : (Instr.typeAssert (.iface T v) xT 59 true).run Try.prog w = .ok (if T = 59 then .tuple #[v, .bool true] else .tuple #[.slice none 0 0, .bool false]) w := assert_any Try.underlying59 (fun _ h => by cases h) (by kernel_rfl) T v xT w
theorem tn59 (xT : TypeId) (w : World) : (Instr.typeAssert .nilIface xT 59 true).run Try.prog w = .ok (.tuple #[.slice none 0 0, .bool false]) w := assert_nil Try.underlying59 (fun _ h => by cases h) (by kernel_rfl) xT w
theorem ta67 (T : TypeId) (v : Value) (xT : TypeId) (w : World) : (Instr.typeAssert (.iface T v) xT 67 true).run Try.prog w = .ok (if T = 67 then .tuple #[v, .bool true] else .tuple #[.int .i64 0, .bool false]) w := assert_any Try.underlying67 (fun _ h => by cases h) (by kernel_rfl) T v xT w
theorem tn67 (xT : TypeId) (w : World) : (Instr.typeAssert .nilIface xT 67 true).run Try.prog w = .ok (.tuple #[.int .i64 0, .bool false]) w := assert_nil Try.underlying67 (fun _ h => by cases h) (by kernel_rfl) xT w
theorem ta68 (T : TypeId) (v : Value) (xT : TypeId) (w : World) : (Instr.typeAssert (.iface T v) xT 68 true).run Try.prog w = .ok (if T = 68 then .tuple #[v, .bool true] else .tuple #[.int .i32 0, .bool false]) w := assert_any Try.underlying68 (fun _ h => by cases h) (by kernel_rfl) T v xT w
theorem tn68 (xT : TypeId) (w : World) : (Instr.typeAssert .nilIface xT 68 true).run Try.prog w = .ok (.tuple #[.int .i32 0, .bool false]) w := assert_nil Try.underlying68 (fun _ h => by cases h) (by kernel_rfl) xT w
theorem ta69 (T : TypeId) (v : Value) (xT : TypeId) (w : World) : (Instr.typeAssert (.iface T v) xT 69 true).run Try.prog w = .ok (if T = 69 then .tuple #[v, .bool true] else .tuple #[.int .u64 0, .bool false]) w := assert_any Try.underlying69 (fun _ h => by cases h) (by kernel_rfl) T v xT w
theorem tn69 (xT : TypeId) (w : World) : (Instr.typeAssert .nilIface xT 69 true).run Try.prog w = .ok (.tuple #[.int .u64 0, .bool false]) w := assert_nil Try.underlying69 (fun _ h => by cases h) (by kernel_rfl) xT w
theorem ta66 (T : TypeId) (v : Value) (xT : TypeId) (w : World) : (Instr.typeAssert (.iface T v) xT 66 true).run Try.prog w = .ok (if T = 66 then .tuple #[v, .bool true] else .tuple #[.float .f64 0, .bool false]) w := assert_any Try.underlying66 (fun _ h => by cases h) (by kernel_rfl) T v xT w
theorem tn66 (xT : TypeId) (w : World) : (Instr.typeAssert .nilIface xT 66 true).run Try.prog w = .ok (.tuple #[.float .f64 0, .bool false]) w := assert_nil Try.underlying66 (fun _ h => by cases h) (by kernel_rfl) xT w
end Go.Proofs.YtamlkedkmehfcaaRRRR
