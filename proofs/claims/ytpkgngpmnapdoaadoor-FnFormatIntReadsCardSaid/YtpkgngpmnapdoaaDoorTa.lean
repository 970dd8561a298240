/- Type assertions with ',ok' to the types of this program, as rules for the walk. -/
import Derived.Test.YtpkgngpmnapdoaaDoorRows
import Derived.WalkKit
namespace Go.Proofs.YtpkgngpmnapdoaaDoor
set_option linter.unusedVariables false
set_option linter.unusedSimpArgs false
set_option maxRecDepth 100000

theorem assert_any {P : Program} {A : TypeId} {d : TypeDesc} {z : Value} (hu : P.underlying A = some d) (hni : ∀ ms, d ≠ .interface ms) (hz : (P.info? A).map (·.zero) = some (some z)) (T : TypeId) (v : Value) (xT : TypeId) (w : World) :
    (Instr.typeAssert (.iface T v) xT A true).run P w = .ok (if T = A then .tuple #[v, .bool true] else .tuple #[z, .bool false]) w := by
  obtain ⟨j, hj, hz'⟩ := Option.map_eq_some_iff.1 hz
  by_cases h : T = A
  · subst h
    cases d <;> first | exact absurd rfl (hni _) | simp [Instr.typeAssert, run_underlying hu]
  · cases d <;> first | exact absurd rfl (hni _) | simp [Instr.typeAssert, run_underlying hu, h, zeroValue, hj, hz', typeInfo]
theorem assert_nil {P : Program} {A : TypeId} {d : TypeDesc} {z : Value} (hu : P.underlying A = some d) (hni : ∀ ms, d ≠ .interface ms) (hz : (P.info? A).map (·.zero) = some (some z)) (xT : TypeId) (w : World) :
    (Instr.typeAssert .nilIface xT A true).run P w = .ok (.tuple #[z, .bool false]) w := by
  obtain ⟨j, hj, hz'⟩ := Option.map_eq_some_iff.1 hz
  cases d <;> first | exact absurd rfl (hni _) | simp [Instr.typeAssert, run_underlying hu, zeroValue, hj, hz', typeInfo]
theorem ta4 (T : TypeId) (v : Value) (xT : TypeId) (w : World) : (Instr.typeAssert (.iface T v) xT 4 true).run Tryd.prog w = .ok (if T = 4 then .tuple #[v, .bool true] else .tuple #[.bool false, .bool false]) w := assert_any Tryd.underlying4 (fun _ h => by cases h) (by kernel_rfl) T v xT w
theorem tn4 (xT : TypeId) (w : World) : (Instr.typeAssert .nilIface xT 4 true).run Tryd.prog w = .ok (.tuple #[.bool false, .bool false]) w := assert_nil Tryd.underlying4 (fun _ h => by cases h) (by kernel_rfl) xT w
theorem ta74 (T : TypeId) (v : Value) (xT : TypeId) (w : World) : (Instr.typeAssert (.iface T v) xT 74 true).run Tryd.prog w = .ok (if T = 74 then .tuple #[v, .bool true] else .tuple #[.int .i8 0, .bool false]) w := assert_any Tryd.underlying74 (fun _ h => by cases h) (by kernel_rfl) T v xT w
theorem tn74 (xT : TypeId) (w : World) : (Instr.typeAssert .nilIface xT 74 true).run Tryd.prog w = .ok (.tuple #[.int .i8 0, .bool false]) w := assert_nil Tryd.underlying74 (fun _ h => by cases h) (by kernel_rfl) xT w
theorem ta75 (T : TypeId) (v : Value) (xT : TypeId) (w : World) : (Instr.typeAssert (.iface T v) xT 75 true).run Tryd.prog w = .ok (if T = 75 then .tuple #[v, .bool true] else .tuple #[.int .i16 0, .bool false]) w := assert_any Tryd.underlying75 (fun _ h => by cases h) (by kernel_rfl) T v xT w
theorem tn75 (xT : TypeId) (w : World) : (Instr.typeAssert .nilIface xT 75 true).run Tryd.prog w = .ok (.tuple #[.int .i16 0, .bool false]) w := assert_nil Tryd.underlying75 (fun _ h => by cases h) (by kernel_rfl) xT w
theorem ta21 (T : TypeId) (v : Value) (xT : TypeId) (w : World) : (Instr.typeAssert (.iface T v) xT 21 true).run Tryd.prog w = .ok (if T = 21 then .tuple #[v, .bool true] else .tuple #[.int .i32 0, .bool false]) w := assert_any Tryd.underlying21 (fun _ h => by cases h) (by kernel_rfl) T v xT w
theorem tn21 (xT : TypeId) (w : World) : (Instr.typeAssert .nilIface xT 21 true).run Tryd.prog w = .ok (.tuple #[.int .i32 0, .bool false]) w := assert_nil Tryd.underlying21 (fun _ h => by cases h) (by kernel_rfl) xT w
theorem ta2 (T : TypeId) (v : Value) (xT : TypeId) (w : World) : (Instr.typeAssert (.iface T v) xT 2 true).run Tryd.prog w = .ok (if T = 2 then .tuple #[v, .bool true] else .tuple #[.int .i64 0, .bool false]) w := assert_any Tryd.underlying2 (fun _ h => by cases h) (by kernel_rfl) T v xT w
theorem tn2 (xT : TypeId) (w : World) : (Instr.typeAssert .nilIface xT 2 true).run Tryd.prog w = .ok (.tuple #[.int .i64 0, .bool false]) w := assert_nil Tryd.underlying2 (fun _ h => by cases h) (by kernel_rfl) xT w
theorem ta5 (T : TypeId) (v : Value) (xT : TypeId) (w : World) : (Instr.typeAssert (.iface T v) xT 5 true).run Tryd.prog w = .ok (if T = 5 then .tuple #[v, .bool true] else .tuple #[.int .u8 0, .bool false]) w := assert_any Tryd.underlying5 (fun _ h => by cases h) (by kernel_rfl) T v xT w
theorem tn5 (xT : TypeId) (w : World) : (Instr.typeAssert .nilIface xT 5 true).run Tryd.prog w = .ok (.tuple #[.int .u8 0, .bool false]) w := assert_nil Tryd.underlying5 (fun _ h => by cases h) (by kernel_rfl) xT w
theorem ta76 (T : TypeId) (v : Value) (xT : TypeId) (w : World) : (Instr.typeAssert (.iface T v) xT 76 true).run Tryd.prog w = .ok (if T = 76 then .tuple #[v, .bool true] else .tuple #[.int .u16 0, .bool false]) w := assert_any Tryd.underlying76 (fun _ h => by cases h) (by kernel_rfl) T v xT w
theorem tn76 (xT : TypeId) (w : World) : (Instr.typeAssert .nilIface xT 76 true).run Tryd.prog w = .ok (.tuple #[.int .u16 0, .bool false]) w := assert_nil Tryd.underlying76 (fun _ h => by cases h) (by kernel_rfl) xT w
theorem ta77 (T : TypeId) (v : Value) (xT : TypeId) (w : World) : (Instr.typeAssert (.iface T v) xT 77 true).run Tryd.prog w = .ok (if T = 77 then .tuple #[v, .bool true] else .tuple #[.int .u32 0, .bool false]) w := assert_any Tryd.underlying77 (fun _ h => by cases h) (by kernel_rfl) T v xT w
theorem tn77 (xT : TypeId) (w : World) : (Instr.typeAssert .nilIface xT 77 true).run Tryd.prog w = .ok (.tuple #[.int .u32 0, .bool false]) w := assert_nil Tryd.underlying77 (fun _ h => by cases h) (by kernel_rfl) xT w
theorem ta22 (T : TypeId) (v : Value) (xT : TypeId) (w : World) : (Instr.typeAssert (.iface T v) xT 22 true).run Tryd.prog w = .ok (if T = 22 then .tuple #[v, .bool true] else .tuple #[.int .u64 0, .bool false]) w := assert_any Tryd.underlying22 (fun _ h => by cases h) (by kernel_rfl) T v xT w
theorem tn22 (xT : TypeId) (w : World) : (Instr.typeAssert .nilIface xT 22 true).run Tryd.prog w = .ok (.tuple #[.int .u64 0, .bool false]) w := assert_nil Tryd.underlying22 (fun _ h => by cases h) (by kernel_rfl) xT w
theorem ta3 (T : TypeId) (v : Value) (xT : TypeId) (w : World) : (Instr.typeAssert (.iface T v) xT 3 true).run Tryd.prog w = .ok (if T = 3 then .tuple #[v, .bool true] else .tuple #[.int .i64 0, .bool false]) w := assert_any Tryd.underlying3 (fun _ h => by cases h) (by kernel_rfl) T v xT w
theorem tn3 (xT : TypeId) (w : World) : (Instr.typeAssert .nilIface xT 3 true).run Tryd.prog w = .ok (.tuple #[.int .i64 0, .bool false]) w := assert_nil Tryd.underlying3 (fun _ h => by cases h) (by kernel_rfl) xT w
theorem ta30 (T : TypeId) (v : Value) (xT : TypeId) (w : World) : (Instr.typeAssert (.iface T v) xT 30 true).run Tryd.prog w = .ok (if T = 30 then .tuple #[v, .bool true] else .tuple #[.int .u64 0, .bool false]) w := assert_any Tryd.underlying30 (fun _ h => by cases h) (by kernel_rfl) T v xT w
theorem tn30 (xT : TypeId) (w : World) : (Instr.typeAssert .nilIface xT 30 true).run Tryd.prog w = .ok (.tuple #[.int .u64 0, .bool false]) w := assert_nil Tryd.underlying30 (fun _ h => by cases h) (by kernel_rfl) xT w
theorem ta68 (T : TypeId) (v : Value) (xT : TypeId) (w : World) : (Instr.typeAssert (.iface T v) xT 68 true).run Tryd.prog w = .ok (if T = 68 then .tuple #[v, .bool true] else .tuple #[.float .f32 0, .bool false]) w := assert_any Tryd.underlying68 (fun _ h => by cases h) (by kernel_rfl) T v xT w
theorem tn68 (xT : TypeId) (w : World) : (Instr.typeAssert .nilIface xT 68 true).run Tryd.prog w = .ok (.tuple #[.float .f32 0, .bool false]) w := assert_nil Tryd.underlying68 (fun _ h => by cases h) (by kernel_rfl) xT w
theorem ta23 (T : TypeId) (v : Value) (xT : TypeId) (w : World) : (Instr.typeAssert (.iface T v) xT 23 true).run Tryd.prog w = .ok (if T = 23 then .tuple #[v, .bool true] else .tuple #[.float .f64 0, .bool false]) w := assert_any Tryd.underlying23 (fun _ h => by cases h) (by kernel_rfl) T v xT w
theorem tn23 (xT : TypeId) (w : World) : (Instr.typeAssert .nilIface xT 23 true).run Tryd.prog w = .ok (.tuple #[.float .f64 0, .bool false]) w := assert_nil Tryd.underlying23 (fun _ h => by cases h) (by kernel_rfl) xT w
theorem ta9 (T : TypeId) (v : Value) (xT : TypeId) (w : World) : (Instr.typeAssert (.iface T v) xT 9 true).run Tryd.prog w = .ok (if T = 9 then .tuple #[v, .bool true] else .tuple #[.string ⟨#[]⟩, .bool false]) w := assert_any Tryd.underlying9 (fun _ h => by cases h) (by kernel_rfl) T v xT w
theorem tn9 (xT : TypeId) (w : World) : (Instr.typeAssert .nilIface xT 9 true).run Tryd.prog w = .ok (.tuple #[.string ⟨#[]⟩, .bool false]) w := assert_nil Tryd.underlying9 (fun _ h => by cases h) (by kernel_rfl) xT w
theorem ta78 (T : TypeId) (v : Value) (xT : TypeId) (w : World) : (Instr.typeAssert (.iface T v) xT 78 true).run Tryd.prog w = .ok (if T = 78 then .tuple #[v, .bool true] else .tuple #[.slice none 0 0, .bool false]) w := assert_any Tryd.underlying78 (fun _ h => by cases h) (by kernel_rfl) T v xT w
theorem tn78 (xT : TypeId) (w : World) : (Instr.typeAssert .nilIface xT 78 true).run Tryd.prog w = .ok (.tuple #[.slice none 0 0, .bool false]) w := assert_nil Tryd.underlying78 (fun _ h => by cases h) (by kernel_rfl) xT w
theorem ta88 (T : TypeId) (v : Value) (xT : TypeId) (w : World) : (Instr.typeAssert (.iface T v) xT 88 true).run Tryd.prog w = .ok (if T = 88 then .tuple #[v, .bool true] else .tuple #[.int .i64 0, .bool false]) w := assert_any Tryd.underlying88 (fun _ h => by cases h) (by kernel_rfl) T v xT w
theorem tn88 (xT : TypeId) (w : World) : (Instr.typeAssert .nilIface xT 88 true).run Tryd.prog w = .ok (.tuple #[.int .i64 0, .bool false]) w := assert_nil Tryd.underlying88 (fun _ h => by cases h) (by kernel_rfl) xT w
theorem ta90 (T : TypeId) (v : Value) (xT : TypeId) (w : World) : (Instr.typeAssert (.iface T v) xT 90 true).run Tryd.prog w = .ok (if T = 90 then .tuple #[v, .bool true] else .tuple #[.int .i32 0, .bool false]) w := assert_any Tryd.underlying90 (fun _ h => by cases h) (by kernel_rfl) T v xT w
theorem tn90 (xT : TypeId) (w : World) : (Instr.typeAssert .nilIface xT 90 true).run Tryd.prog w = .ok (.tuple #[.int .i32 0, .bool false]) w := assert_nil Tryd.underlying90 (fun _ h => by cases h) (by kernel_rfl) xT w
theorem ta91 (T : TypeId) (v : Value) (xT : TypeId) (w : World) : (Instr.typeAssert (.iface T v) xT 91 true).run Tryd.prog w = .ok (if T = 91 then .tuple #[v, .bool true] else .tuple #[.int .u64 0, .bool false]) w := assert_any Tryd.underlying91 (fun _ h => by cases h) (by kernel_rfl) T v xT w
theorem tn91 (xT : TypeId) (w : World) : (Instr.typeAssert .nilIface xT 91 true).run Tryd.prog w = .ok (.tuple #[.int .u64 0, .bool false]) w := assert_nil Tryd.underlying91 (fun _ h => by cases h) (by kernel_rfl) xT w
theorem ta93 (T : TypeId) (v : Value) (xT : TypeId) (w : World) : (Instr.typeAssert (.iface T v) xT 93 true).run Tryd.prog w = .ok (if T = 93 then .tuple #[v, .bool true] else .tuple #[.float .f64 0, .bool false]) w := assert_any Tryd.underlying93 (fun _ h => by cases h) (by kernel_rfl) T v xT w
theorem tn93 (xT : TypeId) (w : World) : (Instr.typeAssert .nilIface xT 93 true).run Tryd.prog w = .ok (.tuple #[.float .f64 0, .bool false]) w := assert_nil Tryd.underlying93 (fun _ h => by cases h) (by kernel_rfl) xT w
theorem ta82 (T : TypeId) (v : Value) (xT : TypeId) (w : World) : (Instr.typeAssert (.iface T v) xT 82 true).run Tryd.prog w = .ok (if T = 82 then .tuple #[v, .bool true] else .tuple #[.slice none 0 0, .bool false]) w := assert_any Tryd.underlying82 (fun _ h => by cases h) (by kernel_rfl) T v xT w
theorem tn82 (xT : TypeId) (w : World) : (Instr.typeAssert .nilIface xT 82 true).run Tryd.prog w = .ok (.tuple #[.slice none 0 0, .bool false]) w := assert_nil Tryd.underlying82 (fun _ h => by cases h) (by kernel_rfl) xT w
end Go.Proofs.YtpkgngpmnapdoaaDoor
