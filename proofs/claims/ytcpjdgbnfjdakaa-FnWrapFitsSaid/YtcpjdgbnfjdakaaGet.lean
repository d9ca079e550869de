/- The walks of the getters: of the set, of the errors. -/
import Derived.Test.YtcpjdgbnfjdakaaPlace
namespace Go.Proofs.Ytcpjdgbnfjdakaa
open Go.RowKit
set_option linter.unusedVariables false
set_option linter.unusedSimpArgs false

theorem dash_any {D : St} {w : World} (h : Inv D w) : Calls Try.prog 83 #[ptr D.F] w fun e w' => e = .returned (.int .i64 D.dash) ∧ w' = w := by
  have c := h.cellF 13 (.int .i64 D.dash) rfl
  go_enter Try.func83, Try.ntmps83
  go_wp2_with fail
  go_ret
  exact ⟨rfl, rfl⟩
theorem parsed_any {D : St} {w : World} (h : Inv D w) : Calls Try.prog 84 #[ptr D.F] w fun e w' => e = .returned (.bool D.parsed) ∧ w' = w := by
  have c := h.cellF 4 (.bool D.parsed) rfl
  go_enter Try.func84, Try.ntmps84
  go_wp2_with fail
  go_ret
  exact ⟨rfl, rfl⟩
theorem argsGet_any {D : St} {w : World} (h : Inv D w) : Calls Try.prog 93 #[ptr D.F] w fun e w' => e = .returned D.argsV ∧ w' = w := by
  have c := h.cellF 12 D.argsV rfl
  go_enter Try.func93, Try.ntmps93
  go_wp2_with fail
  go_ret
  exact ⟨rfl, rfl⟩
theorem neName_any {b : Nat} {n sh : ByteArray} {k : Int} {w : World} (h : w.heap[b]? = some (.cells #[.string n, .string sh, .int .i64 k] 154 (0, 0))) : Calls Try.prog 85 #[ptr b] w fun e w' => e = .returned (.string n) ∧ w' = w := by
  have c : w.cell? ⟨b, 0, none⟩ = some (.string n) := by simp [World.cell?, h]
  go_enter Try.func85, Try.ntmps85
  go_wp2_with fail
  go_ret
  exact ⟨rfl, rfl⟩
theorem neShorts_any {b : Nat} {n sh : ByteArray} {k : Int} {w : World} (h : w.heap[b]? = some (.cells #[.string n, .string sh, .int .i64 k] 154 (0, 0))) : Calls Try.prog 86 #[ptr b] w fun e w' => e = .returned (.string sh) ∧ w' = w := by
  have c : w.cell? ⟨b, 1, none⟩ = some (.string sh) := by simp [World.cell?, h]
  go_enter Try.func86, Try.ntmps86
  go_wp2_with fail
  go_ret
  exact ⟨rfl, rfl⟩
theorem vrFlag_any {b : Nat} {p : Value} {n sh : ByteArray} {w : World} (h : w.heap[b]? = some (.cells #[p, .string n, .string sh] 156 (0, 0))) : Calls Try.prog 89 #[ptr b] w fun e w' => e = .returned p ∧ w' = w := by
  have c : w.cell? ⟨b, 0, none⟩ = some p := by simp [World.cell?, h]
  go_enter Try.func89, Try.ntmps89
  go_wp2_with fail
  go_ret
  exact ⟨rfl, rfl⟩
theorem vrName_any {b : Nat} {p : Value} {n sh : ByteArray} {w : World} (h : w.heap[b]? = some (.cells #[p, .string n, .string sh] 156 (0, 0))) : Calls Try.prog 87 #[ptr b] w fun e w' => e = .returned (.string n) ∧ w' = w := by
  have c : w.cell? ⟨b, 1, none⟩ = some (.string n) := by simp [World.cell?, h]
  go_enter Try.func87, Try.ntmps87
  go_wp2_with fail
  go_ret
  exact ⟨rfl, rfl⟩
theorem vrShorts_any {b : Nat} {p : Value} {n sh : ByteArray} {w : World} (h : w.heap[b]? = some (.cells #[p, .string n, .string sh] 156 (0, 0))) : Calls Try.prog 88 #[ptr b] w fun e w' => e = .returned (.string sh) ∧ w' = w := by
  have c : w.cell? ⟨b, 2, none⟩ = some (.string sh) := by simp [World.cell?, h]
  go_enter Try.func88, Try.ntmps88
  go_wp2_with fail
  go_ret
  exact ⟨rfl, rfl⟩
theorem ivFlag_any {b : Nat} {p x : Value} {v : ByteArray} {w : World} (h : w.heap[b]? = some (.cells #[p, .string v, x] 158 (0, 0))) : Calls Try.prog 91 #[ptr b] w fun e w' => e = .returned p ∧ w' = w := by
  have c : w.cell? ⟨b, 0, none⟩ = some p := by simp [World.cell?, h]
  go_enter Try.func91, Try.ntmps91
  go_wp2_with fail
  go_ret
  exact ⟨rfl, rfl⟩
theorem ivValue_any {b : Nat} {p x : Value} {v : ByteArray} {w : World} (h : w.heap[b]? = some (.cells #[p, .string v, x] 158 (0, 0))) : Calls Try.prog 90 #[ptr b] w fun e w' => e = .returned (.string v) ∧ w' = w := by
  have c : w.cell? ⟨b, 1, none⟩ = some (.string v) := by simp [World.cell?, h]
  go_enter Try.func90, Try.ntmps90
  go_wp2_with fail
  go_ret
  exact ⟨rfl, rfl⟩
theorem isFlag_any {b : Nat} {t : ByteArray} {w : World} (h : w.heap[b]? = some (.cells #[.string t] 160 (0, 0))) : Calls Try.prog 92 #[ptr b] w fun e w' => e = .returned (.string t) ∧ w' = w := by
  have c : w.cell? ⟨b, 0, none⟩ = some (.string t) := by simp [World.cell?, h]
  go_enter Try.func92, Try.ntmps92
  go_wp2_with fail
  go_ret
  exact ⟨rfl, rfl⟩
end Go.Proofs.Ytcpjdgbnfjdakaa
