/- Type assertions with ',ok' to the types of this program, as rules for the walk. -/
import Derived.Test.YtdhnhgcdajlpjaaDoorRows
import Derived.WalkKit
namespace Go.Proofs.YtdhnhgcdajlpjaaDoor
set_option linter.unusedVariables false
set_option linter.unusedSimpArgs false
set_option maxRecDepth 100000

theorem assert_any {P : Program} {A : TypeId} {d : TypeDesc} {z : Value} (hu : P.underlying A = some d) (hni : ∀ ms, d ≠ .interface ms) (hz : (P.info? A).map (·.zero) = some (some z)) (T : TypeId) (v : Value) (xT : TypeId) (w : World) :
    (Instr.typeAssert (.iface T v) xT A true).run P w = .ok (if T = A then .tuple #[v, .bool true] else .tuple #[z, .bool false]) w := by
  obtain ⟨j, hj, hz'⟩ := Option.map_eq_some_iff.1 hz
  by_cases h : T = A
  · subst h
    cases d <;> first | exact absurd rfl (hni _) | simp [Instr.typeAssert, run_underlying hu]
  · cases d <;> first | exact absurd rfl (hni _) | simp [Instr.typeAssert, run_underlying hu, h, zeroValue, hj, hz', typeInfo]
theorem assert_nil {P : Program} {A : TypeId} {d : TypeDesc} {z : Value} (hu : P.underlying A = some d) (hni : ∀ ms, d ≠ .interface ms) (hz : (P.info? A).map (·.zero) = some (some z)) (xT : TypeId) (w : World) :
    (Instr.typeAssert .nilIface xT A true).run P w = .ok (.tuple #[z, .bool false]) w := by
  obtain ⟨j, hj, hz'⟩ := Option.map_eq_some_iff.1 hz
  cases d <;> first | exact absurd rfl (hni _) | simp [Instr.typeAssert, run_underlying hu, zeroValue, hj, hz', typeInfo]
theorem ta4 (T : TypeId) (v : Value) (xT : TypeId) (w : World) : (Instr.typeAssert (.iface T v) xT 4 true).run Tryd.prog w = .ok (if T = 4 then .tuple #[v, .bool true] else .tuple #[.bool false, .bool false]) w := assert_any Tryd.underlying4 (fun _ h => by cases h) (by kernel_rfl) T v xT w
theorem tn4 (xT : TypeId) (w : World) : (Instr.typeAssert .nilIface xT 4 true).run Tryd.prog w = .ok (.tuple #[.bool false, .bool false]) w := assert_nil Tryd.underlying4 (fun _ h => by cases h) (by kernel_rfl) xT w
theorem ta63 (T : TypeId) (v : Value) (xT : TypeId) (w : World) : (Instr.typeAssert (.iface T v) xT 63 true).run Tryd.prog w = .ok (if T = 63 then .tuple #[v, .bool true] else .tuple #[.int .i8 0, .bool false]) w := assert_any Tryd.underlying63 (fun _ h => by cases h) (by kernel_rfl) T v xT w
theorem tn63 (xT : TypeId) (w : World) : (Instr.typeAssert .nilIface xT 63 true).run Tryd.prog w = .ok (.tuple #[.int .i8 0, .bool false]) w := assert_nil Tryd.underlying63 (fun _ h => by cases h) (by kernel_rfl) xT w
theorem ta64 (T : TypeId) (v : Value) (xT : TypeId) (w : World) : (Instr.typeAssert (.iface T v) xT 64 true).run Tryd.prog w = .ok (if T = 64 then .tuple #[v, .bool true] else .tuple #[.int .i16 0, .bool false]) w := assert_any Tryd.underlying64 (fun _ h => by cases h) (by kernel_rfl) T v xT w
theorem tn64 (xT : TypeId) (w : World) : (Instr.typeAssert .nilIface xT 64 true).run Tryd.prog w = .ok (.tuple #[.int .i16 0, .bool false]) w := assert_nil Tryd.underlying64 (fun _ h => by cases h) (by kernel_rfl) xT w
theorem ta21 (T : TypeId) (v : Value) (xT : TypeId) (w : World) : (Instr.typeAssert (.iface T v) xT 21 true).run Tryd.prog w = .ok (if T = 21 then .tuple #[v, .bool true] else .tuple #[.int .i32 0, .bool false]) w := assert_any Tryd.underlying21 (fun _ h => by cases h) (by kernel_rfl) T v xT w
theorem tn21 (xT : TypeId) (w : World) : (Instr.typeAssert .nilIface xT 21 true).run Tryd.prog w = .ok (.tuple #[.int .i32 0, .bool false]) w := assert_nil Tryd.underlying21 (fun _ h => by cases h) (by kernel_rfl) xT w
theorem ta2 (T : TypeId) (v : Value) (xT : TypeId) (w : World) : (Instr.typeAssert (.iface T v) xT 2 true).run Tryd.prog w = .ok (if T = 2 then .tuple #[v, .bool true] else .tuple #[.int .i64 0, .bool false]) w := assert_any Tryd.underlying2 (fun _ h => by cases h) (by kernel_rfl) T v xT w
theorem tn2 (xT : TypeId) (w : World) : (Instr.typeAssert .nilIface xT 2 true).run Tryd.prog w = .ok (.tuple #[.int .i64 0, .bool false]) w := assert_nil Tryd.underlying2 (fun _ h => by cases h) (by kernel_rfl) xT w
theorem ta5 (T : TypeId) (v : Value) (xT : TypeId) (w : World) : (Instr.typeAssert (.iface T v) xT 5 true).run Tryd.prog w = .ok (if T = 5 then .tuple #[v, .bool true] else .tuple #[.int .u8 0, .bool false]) w := assert_any Tryd.underlying5 (fun _ h => by cases h) (by kernel_rfl) T v xT w
theorem tn5 (xT : TypeId) (w : World) : (Instr.typeAssert .nilIface xT 5 true).run Tryd.prog w = .ok (.tuple #[.int .u8 0, .bool false]) w := assert_nil Tryd.underlying5 (fun _ h => by cases h) (by kernel_rfl) xT w
theorem ta65 (T : TypeId) (v : Value) (xT : TypeId) (w : World) : (Instr.typeAssert (.iface T v) xT 65 true).run Tryd.prog w = .ok (if T = 65 then .tuple #[v, .bool true] else .tuple #[.int .u16 0, .bool false]) w := assert_any Tryd.underlying65 (fun _ h => by cases h) (by kernel_rfl) T v xT w
theorem tn65 (xT : TypeId) (w : World) : (Instr.typeAssert .nilIface xT 65 true).run Tryd.prog w = .ok (.tuple #[.int .u16 0, .bool false]) w := assert_nil Tryd.underlying65 (fun _ h => by cases h) (by kernel_rfl) xT w
theorem ta66 (T : TypeId) (v : Value) (xT : TypeId) (w : World) : (Instr.typeAssert (.iface T v) xT 66 true).run Tryd.prog w = .ok (if T = 66 then .tuple #[v, .bool true] else .tuple #[.int .u32 0, .bool false]) w := assert_any Tryd.underlying66 (fun _ h => by cases h) (by kernel_rfl) T v xT w
theorem tn66 (xT : TypeId) (w : World) : (Instr.typeAssert .nilIface xT 66 true).run Tryd.prog w = .ok (.tuple #[.int .u32 0, .bool false]) w := assert_nil Tryd.underlying66 (fun _ h => by cases h) (by kernel_rfl) xT w
theorem ta22 (T : TypeId) (v : Value) (xT : TypeId) (w : World) : (Instr.typeAssert (.iface T v) xT 22 true).run Tryd.prog w = .ok (if T = 22 then .tuple #[v, .bool true] else .tuple #[.int .u64 0, .bool false]) w := assert_any Tryd.underlying22 (fun _ h => by cases h) (by kernel_rfl) T v xT w
theorem tn22 (xT : TypeId) (w : World) : (Instr.typeAssert .nilIface xT 22 true).run Tryd.prog w = .ok (.tuple #[.int .u64 0, .bool false]) w := assert_nil Tryd.underlying22 (fun _ h => by cases h) (by kernel_rfl) xT w
theorem ta3 (T : TypeId) (v : Value) (xT : TypeId) (w : World) : (Instr.typeAssert (.iface T v) xT 3 true).run Tryd.prog w = .ok (if T = 3 then .tuple #[v, .bool true] else .tuple #[.int .i64 0, .bool false]) w := assert_any Tryd.underlying3 (fun _ h => by cases h) (by kernel_rfl) T v xT w
theorem tn3 (xT : TypeId) (w : World) : (Instr.typeAssert .nilIface xT 3 true).run Tryd.prog w = .ok (.tuple #[.int .i64 0, .bool false]) w := assert_nil Tryd.underlying3 (fun _ h => by cases h) (by kernel_rfl) xT w
theorem ta41 (T : TypeId) (v : Value) (xT : TypeId) (w : World) : (Instr.typeAssert (.iface T v) xT 41 true).run Tryd.prog w = .ok (if T = 41 then .tuple #[v, .bool true] else .tuple #[.int .u64 0, .bool false]) w := assert_any Tryd.underlying41 (fun _ h => by cases h) (by kernel_rfl) T v xT w
theorem tn41 (xT : TypeId) (w : World) : (Instr.typeAssert .nilIface xT 41 true).run Tryd.prog w = .ok (.tuple #[.int .u64 0, .bool false]) w := assert_nil Tryd.underlying41 (fun _ h => by cases h) (by kernel_rfl) xT w
theorem ta42 (T : TypeId) (v : Value) (xT : TypeId) (w : World) : (Instr.typeAssert (.iface T v) xT 42 true).run Tryd.prog w = .ok (if T = 42 then .tuple #[v, .bool true] else .tuple #[.float .f32 0, .bool false]) w := assert_any Tryd.underlying42 (fun _ h => by cases h) (by kernel_rfl) T v xT w
theorem tn42 (xT : TypeId) (w : World) : (Instr.typeAssert .nilIface xT 42 true).run Tryd.prog w = .ok (.tuple #[.float .f32 0, .bool false]) w := assert_nil Tryd.underlying42 (fun _ h => by cases h) (by kernel_rfl) xT w
theorem ta23 (T : TypeId) (v : Value) (xT : TypeId) (w : World) : (Instr.typeAssert (.iface T v) xT 23 true).run Tryd.prog w = .ok (if T = 23 then .tuple #[v, .bool true] else .tuple #[.float .f64 0, .bool false]) w := assert_any Tryd.underlying23 (fun _ h => by cases h) (by kernel_rfl) T v xT w
theorem tn23 (xT : TypeId) (w : World) : (Instr.typeAssert .nilIface xT 23 true).run Tryd.prog w = .ok (.tuple #[.float .f64 0, .bool false]) w := assert_nil Tryd.underlying23 (fun _ h => by cases h) (by kernel_rfl) xT w
theorem ta9 (T : TypeId) (v : Value) (xT : TypeId) (w : World) : (Instr.typeAssert (.iface T v) xT 9 true).run Tryd.prog w = .ok (if T = 9 then .tuple #[v, .bool true] else .tuple #[.string ⟨#[]⟩, .bool false]) w := assert_any Tryd.underlying9 (fun _ h => by cases h) (by kernel_rfl) T v xT w
theorem tn9 (xT : TypeId) (w : World) : (Instr.typeAssert .nilIface xT 9 true).run Tryd.prog w = .ok (.tuple #[.string ⟨#[]⟩, .bool false]) w := assert_nil Tryd.underlying9 (fun _ h => by cases h) (by kernel_rfl) xT w
theorem ta67 (T : TypeId) (v : Value) (xT : TypeId) (w : World) : (Instr.typeAssert (.iface T v) xT 67 true).run Tryd.prog w = .ok (if T = 67 then .tuple #[v, .bool true] else .tuple #[.slice none 0 0, .bool false]) w := assert_any Tryd.underlying67 (fun _ h => by cases h) (by kernel_rfl) T v xT w
theorem tn67 (xT : TypeId) (w : World) : (Instr.typeAssert .nilIface xT 67 true).run Tryd.prog w = .ok (.tuple #[.slice none 0 0, .bool false]) w := assert_nil Tryd.underlying67 (fun _ h => by cases h) (by kernel_rfl) xT w
theorem ta91 (T : TypeId) (v : Value) (xT : TypeId) (w : World) : (Instr.typeAssert (.iface T v) xT 91 true).run Tryd.prog w = .ok (if T = 91 then .tuple #[v, .bool true] else .tuple #[.int .i64 0, .bool false]) w := assert_any Tryd.underlying91 (fun _ h => by cases h) (by kernel_rfl) T v xT w
theorem tn91 (xT : TypeId) (w : World) : (Instr.typeAssert .nilIface xT 91 true).run Tryd.prog w = .ok (.tuple #[.int .i64 0, .bool false]) w := assert_nil Tryd.underlying91 (fun _ h => by cases h) (by kernel_rfl) xT w
theorem ta92 (T : TypeId) (v : Value) (xT : TypeId) (w : World) : (Instr.typeAssert (.iface T v) xT 92 true).run Tryd.prog w = .ok (if T = 92 then .tuple #[v, .bool true] else .tuple #[.int .i32 0, .bool false]) w := assert_any Tryd.underlying92 (fun _ h => by cases h) (by kernel_rfl) T v xT w
theorem tn92 (xT : TypeId) (w : World) : (Instr.typeAssert .nilIface xT 92 true).run Tryd.prog w = .ok (.tuple #[.int .i32 0, .bool false]) w := assert_nil Tryd.underlying92 (fun _ h => by cases h) (by kernel_rfl) xT w
theorem ta93 (T : TypeId) (v : Value) (xT : TypeId) (w : World) : (Instr.typeAssert (.iface T v) xT 93 true).run Tryd.prog w = .ok (if T = 93 then .tuple #[v, .bool true] else .tuple #[.int .u64 0, .bool false]) w := assert_any Tryd.underlying93 (fun _ h => by cases h) (by kernel_rfl) T v xT w
theorem tn93 (xT : TypeId) (w : World) : (Instr.typeAssert .nilIface xT 93 true).run Tryd.prog w = .ok (.tuple #[.int .u64 0, .bool false]) w := assert_nil Tryd.underlying93 (fun _ h => by cases h) (by kernel_rfl) xT w
theorem ta87 (T : TypeId) (v : Value) (xT : TypeId) (w : World) : (Instr.typeAssert (.iface T v) xT 87 true).run Tryd.prog w = .ok (if T = 87 then .tuple #[v, .bool true] else .tuple #[.float .f64 0, .bool false]) w := assert_any Tryd.underlying87 (fun _ h => by cases h) (by kernel_rfl) T v xT w
theorem tn87 (xT : TypeId) (w : World) : (Instr.typeAssert .nilIface xT 87 true).run Tryd.prog w = .ok (.tuple #[.float .f64 0, .bool false]) w := assert_nil Tryd.underlying87 (fun _ h => by cases h) (by kernel_rfl) xT w
theorem ta81 (T : TypeId) (v : Value) (xT : TypeId) (w : World) : (Instr.typeAssert (.iface T v) xT 81 true).run Tryd.prog w = .ok (if T = 81 then .tuple #[v, .bool true] else .tuple #[.slice none 0 0, .bool false]) w := assert_any Tryd.underlying81 (fun _ h => by cases h) (by kernel_rfl) T v xT w
theorem tn81 (xT : TypeId) (w : World) : (Instr.typeAssert .nilIface xT 81 true).run Tryd.prog w = .ok (.tuple #[.slice none 0 0, .bool false]) w := assert_nil Tryd.underlying81 (fun _ h => by cases h) (by kernel_rfl) xT w
end Go.Proofs.YtdhnhgcdajlpjaaDoor
