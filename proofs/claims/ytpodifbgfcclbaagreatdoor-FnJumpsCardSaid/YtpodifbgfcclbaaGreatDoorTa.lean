/- What a type switch sees, type by type. -/
import Derived.Test.YtpodifbgfcclbaaGreatDoorVal1
import Derived.Test.YtpodifbgfcclbaaGreatDoorAst1
set_option linter.unusedVariables false
set_option linter.unusedSimpArgs false
namespace Go.Proofs.YtpodifbgfcclbaaGreatDoor
open Go.RowKit
theorem ta_203 (T X : Nat) (v : Value) (w : World) : (Instr.typeAssert (.iface T v) X 203 true).run Tryz.prog w = .ok (.tuple (if T = 203 then #[v, .bool true] else #[.pointer none, .bool false])) w := by
  by_cases h : T = 203
  · subst h
    simp [Instr.typeAssert, go_sem]
  · simp [Instr.typeAssert, go_sem, h]
theorem tb_203 (X : Nat) (v : Value) (w : World) : (Instr.typeAssert (.iface 203 v) X 203 false).run Tryz.prog w = .ok v w := by
  simp [Instr.typeAssert, go_sem]
theorem ta_165 (T X : Nat) (v : Value) (w : World) : (Instr.typeAssert (.iface T v) X 165 true).run Tryz.prog w = .ok (.tuple (if T = 165 then #[v, .bool true] else #[.pointer none, .bool false])) w := by
  by_cases h : T = 165
  · subst h
    simp [Instr.typeAssert, go_sem]
  · simp [Instr.typeAssert, go_sem, h]
theorem tb_165 (X : Nat) (v : Value) (w : World) : (Instr.typeAssert (.iface 165 v) X 165 false).run Tryz.prog w = .ok v w := by
  simp [Instr.typeAssert, go_sem]
theorem ta_112 (T X : Nat) (v : Value) (w : World) : (Instr.typeAssert (.iface T v) X 112 true).run Tryz.prog w = .ok (.tuple (if T = 112 then #[v, .bool true] else #[.pointer none, .bool false])) w := by
  by_cases h : T = 112
  · subst h
    simp [Instr.typeAssert, go_sem]
  · simp [Instr.typeAssert, go_sem, h]
theorem tb_112 (X : Nat) (v : Value) (w : World) : (Instr.typeAssert (.iface 112 v) X 112 false).run Tryz.prog w = .ok v w := by
  simp [Instr.typeAssert, go_sem]
theorem ta_204 (T X : Nat) (v : Value) (w : World) : (Instr.typeAssert (.iface T v) X 204 true).run Tryz.prog w = .ok (.tuple (if T = 204 then #[v, .bool true] else #[.pointer none, .bool false])) w := by
  by_cases h : T = 204
  · subst h
    simp [Instr.typeAssert, go_sem]
  · simp [Instr.typeAssert, go_sem, h]
theorem tb_204 (X : Nat) (v : Value) (w : World) : (Instr.typeAssert (.iface 204 v) X 204 false).run Tryz.prog w = .ok v w := by
  simp [Instr.typeAssert, go_sem]
theorem ta_205 (T X : Nat) (v : Value) (w : World) : (Instr.typeAssert (.iface T v) X 205 true).run Tryz.prog w = .ok (.tuple (if T = 205 then #[v, .bool true] else #[.pointer none, .bool false])) w := by
  by_cases h : T = 205
  · subst h
    simp [Instr.typeAssert, go_sem]
  · simp [Instr.typeAssert, go_sem, h]
theorem tb_205 (X : Nat) (v : Value) (w : World) : (Instr.typeAssert (.iface 205 v) X 205 false).run Tryz.prog w = .ok v w := by
  simp [Instr.typeAssert, go_sem]
theorem ta_189 (T X : Nat) (v : Value) (w : World) : (Instr.typeAssert (.iface T v) X 189 true).run Tryz.prog w = .ok (.tuple (if T = 189 then #[v, .bool true] else #[.pointer none, .bool false])) w := by
  by_cases h : T = 189
  · subst h
    simp [Instr.typeAssert, go_sem]
  · simp [Instr.typeAssert, go_sem, h]
theorem tb_189 (X : Nat) (v : Value) (w : World) : (Instr.typeAssert (.iface 189 v) X 189 false).run Tryz.prog w = .ok v w := by
  simp [Instr.typeAssert, go_sem]
theorem ta_206 (T X : Nat) (v : Value) (w : World) : (Instr.typeAssert (.iface T v) X 206 true).run Tryz.prog w = .ok (.tuple (if T = 206 then #[v, .bool true] else #[.pointer none, .bool false])) w := by
  by_cases h : T = 206
  · subst h
    simp [Instr.typeAssert, go_sem]
  · simp [Instr.typeAssert, go_sem, h]
theorem tb_206 (X : Nat) (v : Value) (w : World) : (Instr.typeAssert (.iface 206 v) X 206 false).run Tryz.prog w = .ok v w := by
  simp [Instr.typeAssert, go_sem]
theorem ta_207 (T X : Nat) (v : Value) (w : World) : (Instr.typeAssert (.iface T v) X 207 true).run Tryz.prog w = .ok (.tuple (if T = 207 then #[v, .bool true] else #[.pointer none, .bool false])) w := by
  by_cases h : T = 207
  · subst h
    simp [Instr.typeAssert, go_sem]
  · simp [Instr.typeAssert, go_sem, h]
theorem tb_207 (X : Nat) (v : Value) (w : World) : (Instr.typeAssert (.iface 207 v) X 207 false).run Tryz.prog w = .ok v w := by
  simp [Instr.typeAssert, go_sem]
theorem ta_133 (T X : Nat) (v : Value) (w : World) : (Instr.typeAssert (.iface T v) X 133 true).run Tryz.prog w = .ok (.tuple (if T = 133 then #[v, .bool true] else #[.pointer none, .bool false])) w := by
  by_cases h : T = 133
  · subst h
    simp [Instr.typeAssert, go_sem]
  · simp [Instr.typeAssert, go_sem, h]
theorem tb_133 (X : Nat) (v : Value) (w : World) : (Instr.typeAssert (.iface 133 v) X 133 false).run Tryz.prog w = .ok v w := by
  simp [Instr.typeAssert, go_sem]
theorem ta_156 (T X : Nat) (v : Value) (w : World) : (Instr.typeAssert (.iface T v) X 156 true).run Tryz.prog w = .ok (.tuple (if T = 156 then #[v, .bool true] else #[.pointer none, .bool false])) w := by
  by_cases h : T = 156
  · subst h
    simp [Instr.typeAssert, go_sem]
  · simp [Instr.typeAssert, go_sem, h]
theorem tb_156 (X : Nat) (v : Value) (w : World) : (Instr.typeAssert (.iface 156 v) X 156 false).run Tryz.prog w = .ok v w := by
  simp [Instr.typeAssert, go_sem]
theorem ta_121 (T X : Nat) (v : Value) (w : World) : (Instr.typeAssert (.iface T v) X 121 true).run Tryz.prog w = .ok (.tuple (if T = 121 then #[v, .bool true] else #[.pointer none, .bool false])) w := by
  by_cases h : T = 121
  · subst h
    simp [Instr.typeAssert, go_sem]
  · simp [Instr.typeAssert, go_sem, h]
theorem tb_121 (X : Nat) (v : Value) (w : World) : (Instr.typeAssert (.iface 121 v) X 121 false).run Tryz.prog w = .ok v w := by
  simp [Instr.typeAssert, go_sem]
theorem ta_115 (T X : Nat) (v : Value) (w : World) : (Instr.typeAssert (.iface T v) X 115 true).run Tryz.prog w = .ok (.tuple (if T = 115 then #[v, .bool true] else #[.pointer none, .bool false])) w := by
  by_cases h : T = 115
  · subst h
    simp [Instr.typeAssert, go_sem]
  · simp [Instr.typeAssert, go_sem, h]
theorem tb_115 (X : Nat) (v : Value) (w : World) : (Instr.typeAssert (.iface 115 v) X 115 false).run Tryz.prog w = .ok v w := by
  simp [Instr.typeAssert, go_sem]
theorem ta_95 (T X : Nat) (v : Value) (w : World) : (Instr.typeAssert (.iface T v) X 95 true).run Tryz.prog w = .ok (.tuple (if T = 95 then #[v, .bool true] else #[.pointer none, .bool false])) w := by
  by_cases h : T = 95
  · subst h
    simp [Instr.typeAssert, go_sem]
  · simp [Instr.typeAssert, go_sem, h]
theorem tb_95 (X : Nat) (v : Value) (w : World) : (Instr.typeAssert (.iface 95 v) X 95 false).run Tryz.prog w = .ok v w := by
  simp [Instr.typeAssert, go_sem]
theorem ta_50 (T X : Nat) (v : Value) (w : World) : (Instr.typeAssert (.iface T v) X 50 true).run Tryz.prog w = .ok (.tuple (if T = 50 then #[v, .bool true] else #[.pointer none, .bool false])) w := by
  by_cases h : T = 50
  · subst h
    simp [Instr.typeAssert, go_sem]
  · simp [Instr.typeAssert, go_sem, h]
theorem tb_50 (X : Nat) (v : Value) (w : World) : (Instr.typeAssert (.iface 50 v) X 50 false).run Tryz.prog w = .ok v w := by
  simp [Instr.typeAssert, go_sem]
theorem ta_126 (T X : Nat) (v : Value) (w : World) : (Instr.typeAssert (.iface T v) X 126 true).run Tryz.prog w = .ok (.tuple (if T = 126 then #[v, .bool true] else #[.pointer none, .bool false])) w := by
  by_cases h : T = 126
  · subst h
    simp [Instr.typeAssert, go_sem]
  · simp [Instr.typeAssert, go_sem, h]
theorem tb_126 (X : Nat) (v : Value) (w : World) : (Instr.typeAssert (.iface 126 v) X 126 false).run Tryz.prog w = .ok v w := by
  simp [Instr.typeAssert, go_sem]
theorem ta_137 (T X : Nat) (v : Value) (w : World) : (Instr.typeAssert (.iface T v) X 137 true).run Tryz.prog w = .ok (.tuple (if T = 137 then #[v, .bool true] else #[.pointer none, .bool false])) w := by
  by_cases h : T = 137
  · subst h
    simp [Instr.typeAssert, go_sem]
  · simp [Instr.typeAssert, go_sem, h]
theorem tb_137 (X : Nat) (v : Value) (w : World) : (Instr.typeAssert (.iface 137 v) X 137 false).run Tryz.prog w = .ok v w := by
  simp [Instr.typeAssert, go_sem]
theorem ta_141 (T X : Nat) (v : Value) (w : World) : (Instr.typeAssert (.iface T v) X 141 true).run Tryz.prog w = .ok (.tuple (if T = 141 then #[v, .bool true] else #[.pointer none, .bool false])) w := by
  by_cases h : T = 141
  · subst h
    simp [Instr.typeAssert, go_sem]
  · simp [Instr.typeAssert, go_sem, h]
theorem tb_141 (X : Nat) (v : Value) (w : World) : (Instr.typeAssert (.iface 141 v) X 141 false).run Tryz.prog w = .ok v w := by
  simp [Instr.typeAssert, go_sem]
theorem ta_147 (T X : Nat) (v : Value) (w : World) : (Instr.typeAssert (.iface T v) X 147 true).run Tryz.prog w = .ok (.tuple (if T = 147 then #[v, .bool true] else #[.pointer none, .bool false])) w := by
  by_cases h : T = 147
  · subst h
    simp [Instr.typeAssert, go_sem]
  · simp [Instr.typeAssert, go_sem, h]
theorem tb_147 (X : Nat) (v : Value) (w : World) : (Instr.typeAssert (.iface 147 v) X 147 false).run Tryz.prog w = .ok v w := by
  simp [Instr.typeAssert, go_sem]
theorem ta_130 (T X : Nat) (v : Value) (w : World) : (Instr.typeAssert (.iface T v) X 130 true).run Tryz.prog w = .ok (.tuple (if T = 130 then #[v, .bool true] else #[.pointer none, .bool false])) w := by
  by_cases h : T = 130
  · subst h
    simp [Instr.typeAssert, go_sem]
  · simp [Instr.typeAssert, go_sem, h]
theorem tb_130 (X : Nat) (v : Value) (w : World) : (Instr.typeAssert (.iface 130 v) X 130 false).run Tryz.prog w = .ok v w := by
  simp [Instr.typeAssert, go_sem]
theorem ta_192 (T X : Nat) (v : Value) (w : World) : (Instr.typeAssert (.iface T v) X 192 true).run Tryz.prog w = .ok (.tuple (if T = 192 then #[v, .bool true] else #[.pointer none, .bool false])) w := by
  by_cases h : T = 192
  · subst h
    simp [Instr.typeAssert, go_sem]
  · simp [Instr.typeAssert, go_sem, h]
theorem tb_192 (X : Nat) (v : Value) (w : World) : (Instr.typeAssert (.iface 192 v) X 192 false).run Tryz.prog w = .ok v w := by
  simp [Instr.typeAssert, go_sem]
theorem ta_195 (T X : Nat) (v : Value) (w : World) : (Instr.typeAssert (.iface T v) X 195 true).run Tryz.prog w = .ok (.tuple (if T = 195 then #[v, .bool true] else #[.pointer none, .bool false])) w := by
  by_cases h : T = 195
  · subst h
    simp [Instr.typeAssert, go_sem]
  · simp [Instr.typeAssert, go_sem, h]
theorem tb_195 (X : Nat) (v : Value) (w : World) : (Instr.typeAssert (.iface 195 v) X 195 false).run Tryz.prog w = .ok v w := by
  simp [Instr.typeAssert, go_sem]
theorem ta_166 (T X : Nat) (v : Value) (w : World) : (Instr.typeAssert (.iface T v) X 166 true).run Tryz.prog w = .ok (.tuple (if T = 166 then #[v, .bool true] else #[.pointer none, .bool false])) w := by
  by_cases h : T = 166
  · subst h
    simp [Instr.typeAssert, go_sem]
  · simp [Instr.typeAssert, go_sem, h]
theorem tb_166 (X : Nat) (v : Value) (w : World) : (Instr.typeAssert (.iface 166 v) X 166 false).run Tryz.prog w = .ok v w := by
  simp [Instr.typeAssert, go_sem]
theorem ta_119 (T X : Nat) (v : Value) (w : World) : (Instr.typeAssert (.iface T v) X 119 true).run Tryz.prog w = .ok (.tuple (if T = 119 then #[v, .bool true] else #[.pointer none, .bool false])) w := by
  by_cases h : T = 119
  · subst h
    simp [Instr.typeAssert, go_sem]
  · simp [Instr.typeAssert, go_sem, h]
theorem tb_119 (X : Nat) (v : Value) (w : World) : (Instr.typeAssert (.iface 119 v) X 119 false).run Tryz.prog w = .ok v w := by
  simp [Instr.typeAssert, go_sem]
theorem ta_239 (T X : Nat) (v : Value) (w : World) : (Instr.typeAssert (.iface T v) X 239 true).run Tryz.prog w = .ok (.tuple (if T = 239 then #[v, .bool true] else #[.pointer none, .bool false])) w := by
  by_cases h : T = 239
  · subst h
    simp [Instr.typeAssert, go_sem]
  · simp [Instr.typeAssert, go_sem, h]
theorem tb_239 (X : Nat) (v : Value) (w : World) : (Instr.typeAssert (.iface 239 v) X 239 false).run Tryz.prog w = .ok v w := by
  simp [Instr.typeAssert, go_sem]
theorem ta_108 (T X : Nat) (v : Value) (w : World) : (Instr.typeAssert (.iface T v) X 108 true).run Tryz.prog w = .ok (.tuple (if T = 108 then #[v, .bool true] else #[.pointer none, .bool false])) w := by
  by_cases h : T = 108
  · subst h
    simp [Instr.typeAssert, go_sem]
  · simp [Instr.typeAssert, go_sem, h]
theorem tb_108 (X : Nat) (v : Value) (w : World) : (Instr.typeAssert (.iface 108 v) X 108 false).run Tryz.prog w = .ok v w := by
  simp [Instr.typeAssert, go_sem]
attribute [go_sem] ta_203 tb_203 ta_165 tb_165 ta_112 tb_112 ta_204 tb_204 ta_205 tb_205 ta_189 tb_189 ta_206 tb_206 ta_207 tb_207 ta_133 tb_133 ta_156 tb_156 ta_121 tb_121 ta_115 tb_115 ta_95 tb_95 ta_50 tb_50 ta_126 tb_126 ta_137 tb_137 ta_141 tb_141 ta_147 tb_147 ta_130 tb_130 ta_192 tb_192 ta_195 tb_195 ta_166 tb_166 ta_119 tb_119 ta_239 tb_239 ta_108 tb_108
end Go.Proofs.YtpodifbgfcclbaaGreatDoor
