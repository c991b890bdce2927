import PyProof.Rows.All
import PyProof.CallType
import PyProof.Cells
import PyProof.CompFree
import PyProof.DictTable
import PyProof.ExcAttrAll.ValueError
import PyProof.StationsW
import PyProof.StrOps
import PyProof.GenCompT
import PyProof.IsiPairs
import PyProof.JoinWalk
import PyProof.ListMulRoad
import PyProof.ListStr
import PyProof.P3In
import PyProof.StrLawsIdx
import PyProof.Rows.SeqGenD
import PyProof.ZipIter
import PyProof.Rows.StrJoin2
import PyProof.Rows.SeqIn
import PyProof.Rows.StrInSeq3
import PyProof.StrCalls6
import PyProof.StrLawsReplace
import PyProof.StrLawsNeg
import PyProof.SumAny
import PyProof.Rows.EqDataRows
import PyProof.TupleOfSeq
import PyProof.Rows.Range3
import OpenK.KRaise
import KE.KCallOwn
import KE.KStar
import KE.KSuper
import Wide.FinOn
import OpenK.AllK
import Wide.All
import PySem.Challenge.RW_ik0126_01
set_option Elab.async false
set_option maxRecDepth 100000
set_option autoImplicit false
set_option linter.unusedVariables false
set_option linter.all false
section
namespace Mine
theorem x_a2 {P1 : Prop} {P2 : Prop} {P3 : Prop} {G : Prop} (h : P1 ∧ P2 ∧ P3) (k : P1 → P2 → P3 → G) : G := by
 obtain ⟨h1, h2, h3⟩ := h
 exact k h1 h2 h3
theorem x_ea {α1 : Type} {P1 : α1 → Prop} {P2 : α1 → Prop} {G : Prop} (h : ∃ x1 : α1, P1 x1 ∧ P2 x1) (k : ∀ (x1 : α1), P1 x1 → P2 x1 → G) : G := by
 obtain ⟨x1, h1, h2⟩ := h
 exact k x1 h1 h2
theorem x_e2 {α1 α2 : Type} {P1 : α1 → α2 → Prop} {G : Prop} (h : ∃ x1 : α1, ∃ x2 : α2, P1 x1 x2) (k : ∀ (x1 : α1), ∀ (x2 : α2), P1 x1 x2 → G) : G := by
 obtain ⟨x1, x2, h1⟩ := h
 exact k x1 x2 h1
theorem xy {α1 : Type} {P1 : α1 → Prop} {P2 : α1 → Prop} {P3 : α1 → Prop} {G : Prop} (h : ∃ x1 : α1, P1 x1 ∧ P2 x1 ∧ P3 x1) (k : ∀ (x1 : α1), P1 x1 → P2 x1 → P3 x1 → G) : G := h.elim fun x h => x_a2 h (k x)
theorem q9 {α1 α2 : Type} {P1 : α1 → α2 → Prop} {P2 : α1 → α2 → Prop} {G : Prop} (h : ∃ x1 : α1, ∃ x2 : α2, P1 x1 x2 ∧ P2 x1 x2) (k : ∀ (x1 : α1), ∀ (x2 : α2), P1 x1 x2 → P2 x1 x2 → G) : G := h.elim fun x h => x_ea h (k x)
theorem x_e3 {α1 α2 α3 : Type} {P1 : α1 → α2 → α3 → Prop} {G : Prop} (h : ∃ x1 : α1, ∃ x2 : α2, ∃ x3 : α3, P1 x1 x2 x3) (k : ∀ (x1 : α1), ∀ (x2 : α2), ∀ (x3 : α3), P1 x1 x2 x3 → G) : G := h.elim fun x h => x_e2 h (k x)
theorem x_a4 {P1 : Prop} {P2 : Prop} {P3 : Prop} {P4 : Prop} {P5 : Prop} {G : Prop} (h : P1 ∧ P2 ∧ P3 ∧ P4 ∧ P5) (k : P1 → P2 → P3 → P4 → P5 → G) : G := by
 obtain ⟨h1, h2, h3, h4, h5⟩ := h
 exact k h1 h2 h3 h4 h5
theorem zh {α1 : Type} {P1 : α1 → Prop} {P2 : α1 → Prop} {P3 : α1 → Prop} {P4 : α1 → Prop} {G : Prop} (h : ∃ x1 : α1, P1 x1 ∧ P2 x1 ∧ P3 x1 ∧ P4 x1) (k : ∀ (x1 : α1), P1 x1 → P2 x1 → P3 x1 → P4 x1 → G) : G := by
 obtain ⟨x1, h1, h2, h3, h4⟩ := h
 exact k x1 h1 h2 h3 h4
theorem qc {α1 α2 : Type} {P1 : α1 → α2 → Prop} {P2 : α1 → α2 → Prop} {P3 : α1 → α2 → Prop} {G : Prop} (h : ∃ x1 : α1, ∃ x2 : α2, P1 x1 x2 ∧ P2 x1 x2 ∧ P3 x1 x2) (k : ∀ (x1 : α1), ∀ (x2 : α2), P1 x1 x2 → P2 x1 x2 → P3 x1 x2 → G) : G := h.elim fun x h => xy h (k x)
theorem wf {α1 α2 α3 : Type} {P1 : α1 → α2 → α3 → Prop} {P2 : α1 → α2 → α3 → Prop} {G : Prop} (h : ∃ x1 : α1, ∃ x2 : α2, ∃ x3 : α3, P1 x1 x2 x3 ∧ P2 x1 x2 x3) (k : ∀ (x1 : α1), ∀ (x2 : α2), ∀ (x3 : α3), P1 x1 x2 x3 → P2 x1 x2 x3 → G) : G := h.elim fun x h => q9 h (k x)
theorem x_e4 {α1 α2 α3 α4 : Type} {P1 : α1 → α2 → α3 → α4 → Prop} {G : Prop} (h : ∃ x1 : α1, ∃ x2 : α2, ∃ x3 : α3, ∃ x4 : α4, P1 x1 x2 x3 x4) (k : ∀ (x1 : α1), ∀ (x2 : α2), ∀ (x3 : α3), ∀ (x4 : α4), P1 x1 x2 x3 x4 → G) : G := h.elim fun x h => x_e3 h (k x)
theorem x_a5 {P1 : Prop} {P2 : Prop} {P3 : Prop} {P4 : Prop} {P5 : Prop} {P6 : Prop} {G : Prop} (h : P1 ∧ P2 ∧ P3 ∧ P4 ∧ P5 ∧ P6) (k : P1 → P2 → P3 → P4 → P5 → P6 → G) : G := x_a4 h.2 (k h.1)
theorem xx {α1 α2 : Type} {P1 : α1 → α2 → Prop} {P2 : α1 → α2 → Prop} {P3 : α1 → α2 → Prop} {P4 : α1 → α2 → Prop} {G : Prop} (h : ∃ x1 : α1, ∃ x2 : α2, P1 x1 x2 ∧ P2 x1 x2 ∧ P3 x1 x2 ∧ P4 x1 x2) (k : ∀ (x1 : α1), ∀ (x2 : α2), P1 x1 x2 → P2 x1 x2 → P3 x1 x2 → P4 x1 x2 → G) : G := h.elim fun x h => zh h (k x)
theorem qw {α1 α2 α3 : Type} {P1 : α1 → α2 → α3 → Prop} {P2 : α1 → α2 → α3 → Prop} {P3 : α1 → α2 → α3 → Prop} {G : Prop} (h : ∃ x1 : α1, ∃ x2 : α2, ∃ x3 : α3, P1 x1 x2 x3 ∧ P2 x1 x2 x3 ∧ P3 x1 x2 x3) (k : ∀ (x1 : α1), ∀ (x2 : α2), ∀ (x3 : α3), P1 x1 x2 x3 → P2 x1 x2 x3 → P3 x1 x2 x3 → G) : G := h.elim fun x h => qc h (k x)
theorem x_e5 {α1 α2 α3 α4 α5 : Type} {P1 : α1 → α2 → α3 → α4 → α5 → Prop} {G : Prop} (h : ∃ x1 : α1, ∃ x2 : α2, ∃ x3 : α3, ∃ x4 : α4, ∃ x5 : α5, P1 x1 x2 x3 x4 x5) (k : ∀ (x1 : α1), ∀ (x2 : α2), ∀ (x3 : α3), ∀ (x4 : α4), ∀ (x5 : α5), P1 x1 x2 x3 x4 x5 → G) : G := h.elim fun x h => x_e4 h (k x)
theorem ym {α1 α2 α3 : Type} {P1 : α1 → α2 → α3 → Prop} {P2 : α1 → α2 → α3 → Prop} {P3 : α1 → α2 → α3 → Prop} {P4 : α1 → α2 → α3 → Prop} {G : Prop} (h : ∃ x1 : α1, ∃ x2 : α2, ∃ x3 : α3, P1 x1 x2 x3 ∧ P2 x1 x2 x3 ∧ P3 x1 x2 x3 ∧ P4 x1 x2 x3) (k : ∀ (x1 : α1), ∀ (x2 : α2), ∀ (x3 : α3), P1 x1 x2 x3 → P2 x1 x2 x3 → P3 x1 x2 x3 → P4 x1 x2 x3 → G) : G := h.elim fun x h => xx h (k x)
theorem v6 {α1 α2 α3 α4 : Type} {P1 : α1 → α2 → α3 → α4 → Prop} {P2 : α1 → α2 → α3 → α4 → Prop} {P3 : α1 → α2 → α3 → α4 → Prop} {P4 : α1 → α2 → α3 → α4 → Prop} {G : Prop} (h : ∃ x1 : α1, ∃ x2 : α2, ∃ x3 : α3, ∃ x4 : α4, P1 x1 x2 x3 x4 ∧ P2 x1 x2 x3 x4 ∧ P3 x1 x2 x3 x4 ∧ P4 x1 x2 x3 x4) (k : ∀ (x1 : α1), ∀ (x2 : α2), ∀ (x3 : α3), ∀ (x4 : α4), P1 x1 x2 x3 x4 → P2 x1 x2 x3 x4 → P3 x1 x2 x3 x4 → P4 x1 x2 x3 x4 → G) : G := h.elim fun x h => ym h (k x)
theorem xg {α1 α2 α3 α4 α5 : Type} {P1 : α1 → α2 → α3 → α4 → α5 → Prop} {P2 : α1 → α2 → α3 → α4 → α5 → Prop} {P3 : α1 → α2 → α3 → α4 → α5 → Prop} {P4 : α1 → α2 → α3 → α4 → α5 → Prop} {P5 : α1 → α2 → α3 → α4 → α5 → Prop} {P6 : α1 → α2 → α3 → α4 → α5 → Prop} {P7 : α1 → α2 → α3 → α4 → α5 → Prop} {G : Prop} (h : ∃ x1 : α1, ∃ x2 : α2, ∃ x3 : α3, ∃ x4 : α4, ∃ x5 : α5, P1 x1 x2 x3 x4 x5 ∧ P2 x1 x2 x3 x4 x5 ∧ P3 x1 x2 x3 x4 x5 ∧ P4 x1 x2 x3 x4 x5 ∧ P5 x1 x2 x3 x4 x5 ∧ P6 x1 x2 x3 x4 x5 ∧ P7 x1 x2 x3 x4 x5) (k : ∀ (x1 : α1), ∀ (x2 : α2), ∀ (x3 : α3), ∀ (x4 : α4), ∀ (x5 : α5), P1 x1 x2 x3 x4 x5 → P2 x1 x2 x3 x4 x5 → P3 x1 x2 x3 x4 x5 → P4 x1 x2 x3 x4 x5 → P5 x1 x2 x3 x4 x5 → P6 x1 x2 x3 x4 x5 → P7 x1 x2 x3 x4 x5 → G) : G := by
 obtain ⟨x1, x2, x3, x4, x5, h1, h2, h3, h4, h5, h6, h7⟩ := h
 exact k x1 x2 x3 x4 x5 h1 h2 h3 h4 h5 h6 h7
theorem y_a2 {P1 : Prop} {P2 : Prop} {P3 : Prop} (h1 : P1) (h2 : P2) (h3 : P3) : P1 ∧ P2 ∧ P3 := ⟨h1, h2, h3⟩
theorem y_ea {α1 : Type} {P1 : α1 → Prop} {P2 : α1 → Prop} (x1 : α1) (h1 : P1 x1) (h2 : P2 x1) : ∃ x1 : α1, P1 x1 ∧ P2 x1 := ⟨x1, h1, h2⟩
theorem y_e2 {α1 α2 : Type} {P1 : α1 → α2 → Prop} (x1 : α1) (x2 : α2) (h1 : P1 x1 x2) : ∃ x1 : α1, ∃ x2 : α2, P1 x1 x2 := ⟨x1, x2, h1⟩
theorem y_a3 {P1 : Prop} {P2 : Prop} {P3 : Prop} {P4 : Prop} (h1 : P1) (h2 : P2) (h3 : P3) (h4 : P4) : P1 ∧ P2 ∧ P3 ∧ P4 := ⟨h1, h2, h3, h4⟩
theorem wg {α1 : Type} {P1 : α1 → Prop} {P2 : α1 → Prop} {P3 : α1 → Prop} (x1 : α1) (h1 : P1 x1) (h2 : P2 x1) (h3 : P3 x1) : ∃ x1 : α1, P1 x1 ∧ P2 x1 ∧ P3 x1 := ⟨x1, h1, h2, h3⟩
theorem qho {α1 α2 : Type} {P1 : α1 → α2 → Prop} {P2 : α1 → α2 → Prop} (x1 : α1) (x2 : α2) (h1 : P1 x1 x2) (h2 : P2 x1 x2) : ∃ x1 : α1, ∃ x2 : α2, P1 x1 x2 ∧ P2 x1 x2 := ⟨x1, x2, h1, h2⟩
theorem y_e3 {α1 α2 α3 : Type} {P1 : α1 → α2 → α3 → Prop} (x1 : α1) (x2 : α2) (x3 : α3) (h1 : P1 x1 x2 x3) : ∃ x1 : α1, ∃ x2 : α2, ∃ x3 : α3, P1 x1 x2 x3 := ⟨x1, x2, x3, h1⟩
theorem y_a4 {P1 : Prop} {P2 : Prop} {P3 : Prop} {P4 : Prop} {P5 : Prop} (h1 : P1) (h2 : P2) (h3 : P3) (h4 : P4) (h5 : P5) : P1 ∧ P2 ∧ P3 ∧ P4 ∧ P5 := ⟨h1, h2, h3, h4, h5⟩
theorem qar {α1 : Type} {P1 : α1 → Prop} {P2 : α1 → Prop} {P3 : α1 → Prop} {P4 : α1 → Prop} (x1 : α1) (h1 : P1 x1) (h2 : P2 x1) (h3 : P3 x1) (h4 : P4 x1) : ∃ x1 : α1, P1 x1 ∧ P2 x1 ∧ P3 x1 ∧ P4 x1 := ⟨x1, h1, h2, h3, h4⟩
theorem jk {α1 α2 : Type} {P1 : α1 → α2 → Prop} {P2 : α1 → α2 → Prop} {P3 : α1 → α2 → Prop} (x1 : α1) (x2 : α2) (h1 : P1 x1 x2) (h2 : P2 x1 x2) (h3 : P3 x1 x2) : ∃ x1 : α1, ∃ x2 : α2, P1 x1 x2 ∧ P2 x1 x2 ∧ P3 x1 x2 := ⟨x1, x2, h1, h2, h3⟩
theorem qi7 {α1 α2 α3 : Type} {P1 : α1 → α2 → α3 → Prop} {P2 : α1 → α2 → α3 → Prop} (x1 : α1) (x2 : α2) (x3 : α3) (h1 : P1 x1 x2 x3) (h2 : P2 x1 x2 x3) : ∃ x1 : α1, ∃ x2 : α2, ∃ x3 : α3, P1 x1 x2 x3 ∧ P2 x1 x2 x3 := ⟨x1, x2, x3, h1, h2⟩
theorem y_e4 {α1 α2 α3 α4 : Type} {P1 : α1 → α2 → α3 → α4 → Prop} (x1 : α1) (x2 : α2) (x3 : α3) (x4 : α4) (h1 : P1 x1 x2 x3 x4) : ∃ x1 : α1, ∃ x2 : α2, ∃ x3 : α3, ∃ x4 : α4, P1 x1 x2 x3 x4 := ⟨x1, x2, x3, x4, h1⟩
theorem y_a5 {P1 : Prop} {P2 : Prop} {P3 : Prop} {P4 : Prop} {P5 : Prop} {P6 : Prop} (h1 : P1) (h2 : P2) (h3 : P3) (h4 : P4) (h5 : P5) (h6 : P6) : P1 ∧ P2 ∧ P3 ∧ P4 ∧ P5 ∧ P6 := ⟨h1, h2, h3, h4, h5, h6⟩
theorem yn {α1 α2 : Type} {P1 : α1 → α2 → Prop} {P2 : α1 → α2 → Prop} {P3 : α1 → α2 → Prop} {P4 : α1 → α2 → Prop} (x1 : α1) (x2 : α2) (h1 : P1 x1 x2) (h2 : P2 x1 x2) (h3 : P3 x1 x2) (h4 : P4 x1 x2) : ∃ x1 : α1, ∃ x2 : α2, P1 x1 x2 ∧ P2 x1 x2 ∧ P3 x1 x2 ∧ P4 x1 x2 := ⟨x1, x2, h1, h2, h3, h4⟩
theorem u7 {α1 α2 α3 : Type} {P1 : α1 → α2 → α3 → Prop} {P2 : α1 → α2 → α3 → Prop} {P3 : α1 → α2 → α3 → Prop} (x1 : α1) (x2 : α2) (x3 : α3) (h1 : P1 x1 x2 x3) (h2 : P2 x1 x2 x3) (h3 : P3 x1 x2 x3) : ∃ x1 : α1, ∃ x2 : α2, ∃ x3 : α3, P1 x1 x2 x3 ∧ P2 x1 x2 x3 ∧ P3 x1 x2 x3 := ⟨x1, x2, x3, h1, h2, h3⟩
theorem qpy {α1 α2 α3 : Type} {P1 : α1 → α2 → α3 → Prop} {P2 : α1 → α2 → α3 → Prop} {P3 : α1 → α2 → α3 → Prop} {P4 : α1 → α2 → α3 → Prop} (x1 : α1) (x2 : α2) (x3 : α3) (h1 : P1 x1 x2 x3) (h2 : P2 x1 x2 x3) (h3 : P3 x1 x2 x3) (h4 : P4 x1 x2 x3) : ∃ x1 : α1, ∃ x2 : α2, ∃ x3 : α3, P1 x1 x2 x3 ∧ P2 x1 x2 x3 ∧ P3 x1 x2 x3 ∧ P4 x1 x2 x3 := ⟨x1, x2, x3, h1, h2, h3, h4⟩
theorem u8 {α1 α2 α3 : Type} {P1 : α1 → α2 → α3 → Prop} {P2 : α1 → α2 → α3 → Prop} {P3 : α1 → α2 → α3 → Prop} {P4 : α1 → α2 → α3 → Prop} {P5 : α1 → α2 → α3 → Prop} (x1 : α1) (x2 : α2) (x3 : α3) (h1 : P1 x1 x2 x3) (h2 : P2 x1 x2 x3) (h3 : P3 x1 x2 x3) (h4 : P4 x1 x2 x3) (h5 : P5 x1 x2 x3) : ∃ x1 : α1, ∃ x2 : α2, ∃ x3 : α3, P1 x1 x2 x3 ∧ P2 x1 x2 x3 ∧ P3 x1 x2 x3 ∧ P4 x1 x2 x3 ∧ P5 x1 x2 x3 := ⟨x1, x2, x3, h1, h2, h3, h4, h5⟩
theorem qz {α1 α2 α3 α4 : Type} {P1 : α1 → α2 → α3 → α4 → Prop} {P2 : α1 → α2 → α3 → α4 → Prop} {P3 : α1 → α2 → α3 → α4 → Prop} {P4 : α1 → α2 → α3 → α4 → Prop} (x1 : α1) (x2 : α2) (x3 : α3) (x4 : α4) (h1 : P1 x1 x2 x3 x4) (h2 : P2 x1 x2 x3 x4) (h3 : P3 x1 x2 x3 x4) (h4 : P4 x1 x2 x3 x4) : ∃ x1 : α1, ∃ x2 : α2, ∃ x3 : α3, ∃ x4 : α4, P1 x1 x2 x3 x4 ∧ P2 x1 x2 x3 x4 ∧ P3 x1 x2 x3 x4 ∧ P4 x1 x2 x3 x4 := ⟨x1, x2, x3, x4, h1, h2, h3, h4⟩
theorem w5 {α1 α2 α3 α4 : Type} {P1 : α1 → α2 → α3 → α4 → Prop} {P2 : α1 → α2 → α3 → α4 → Prop} {P3 : α1 → α2 → α3 → α4 → Prop} {P4 : α1 → α2 → α3 → α4 → Prop} {P5 : α1 → α2 → α3 → α4 → Prop} {P6 : α1 → α2 → α3 → α4 → Prop} {P7 : α1 → α2 → α3 → α4 → Prop} (x1 : α1) (x2 : α2) (x3 : α3) (x4 : α4) (h1 : P1 x1 x2 x3 x4) (h2 : P2 x1 x2 x3 x4) (h3 : P3 x1 x2 x3 x4) (h4 : P4 x1 x2 x3 x4) (h5 : P5 x1 x2 x3 x4) (h6 : P6 x1 x2 x3 x4) (h7 : P7 x1 x2 x3 x4) : ∃ x1 : α1, ∃ x2 : α2, ∃ x3 : α3, ∃ x4 : α4, P1 x1 x2 x3 x4 ∧ P2 x1 x2 x3 x4 ∧ P3 x1 x2 x3 x4 ∧ P4 x1 x2 x3 x4 ∧ P5 x1 x2 x3 x4 ∧ P6 x1 x2 x3 x4 ∧ P7 x1 x2 x3 x4 := ⟨x1, x2, x3, x4, h1, h2, h3, h4, h5, h6, h7⟩
end Mine
end
section
open PySem PySem.W PyProof.Rows PySem.Calls PySem.Spec
namespace Mine
theorem qfi (h : Heap) (a : Addr) (f : Obj → Obj) : (h.update a f).objs.size = h.objs.size := (Heap.SameBut.update h a f).1
theorem qce {M : Model} {Γ : PySem.Ctx} {p : Pos} {t : Sem Fin} {fs : List Frame} {s s' : Shared} {e : End} (h : Runs M Γ p t fs s e s') : s.heap.objs.size ≤ s'.heap.objs.size := by
 induction h <;> (try simp only [Shared.setGen, qfi, Heap.size_push] at *) <;> lia
theorem qhe {M : Model} {Γ : PySem.Ctx} {p : Pos} {s s' : Shared} {r : Result} (h : Returns M Γ p s r s') : s.heap.objs.size ≤ s'.heap.objs.size := qce h
theorem qmb {M : Model} {Γ : PySem.Ctx} {p : Pos} {g : Nat} {r : Resume} {s s' : Shared} {res : GenResult} (h : Wakes M Γ p g r s res s') : s.heap.objs.size ≤ s'.heap.objs.size := by
 delta Wakes at h
 cases hg : s.gens[g]? with
 | none => rw [hg] at h; exact h.elim
 | some x =>
  rw [hg] at h
  cases x with
  | fresh c =>
   cases r with
   | send v =>
    cases v with
    | none => exact xx h fun e₁ s₁ hr ω ω z => by subst z; exact (qce hr : (s.setGen g .running).heap.objs.size ≤ s₁.heap.objs.size)
    | _ => rw [show s' = s from h.2]; exact Nat.le_refl _
   | throw x => rw [show s' = s.setGen g .finished from h.2]; exact Nat.le_refl _
  | suspended k₀ _ c₀ p₀ fs _ => exact xx h fun e₁ s₁ hr ω ω z => by subst z; exact (qce hr : (s.setGen g .running).heap.objs.size ≤ s₁.heap.objs.size)
  | running => rw [show s' = s from h.2]; exact Nat.le_refl _
  | finished => rw [show s' = s from h.2]; exact Nat.le_refl _
theorem qui {α : Type} (M : Model) (Γ : PySem.Ctx) (n : Nat) (t : Sem α) : ∀ (Q : α → Pos → Shared → Prop) (E : Value → Pos → Shared → Prop) (p : Pos) (s : Shared), n ≤ s.heap.objs.size → Sem.wp M Γ t Q E p s →
  Sem.wp M Γ t (fun a p' s' => n ≤ s'.heap.objs.size ∧ Q a p' s') (fun e p' s' => n ≤ s'.heap.objs.size ∧ E e p' s') p s := by
 induction t with
 | pure a => intro Q E p s hn h; exact ⟨hn, h⟩
 | raise e => intro Q E p s hn h; exact ⟨hn, h⟩
 | rule _ k ih => intro Q E p s hn h; exact ih () Q E p s hn h
 | «at» p' k ih => intro Q E p s hn h; exact ih () Q E p' s hn h
 | load a _ k ih => intro Q E p s hn h; refine x_ea h fun o ho h => ?_; exact ⟨o, ho, ih o Q E p s hn h⟩
 | update a _ f k ih => intro Q E p s hn h; exact ⟨h.1, ih () Q E p _ (by show n ≤ (s.heap.update a f).objs.size; rw [qfi]; exact hn) h.2⟩
 | alloc o k ih => intro Q E p s hn h; exact ih _ Q E p _ (by show n ≤ (s.heap.push o).objs.size; rw [Heap.size_push]; exact Nat.le_add_right_of_le hn) h
 | choose src m k ih => intro Q E p s hn h; exact ⟨h.1, ih _ Q E p _ hn h.2⟩
 | call c hd _ _ k ih => intro Q E p s hn h; refine q9 h fun r s' hr h => ?_; exact ⟨r, s', hr, ih r Q E p s' (Nat.le_trans hn (qhe hr)) h⟩
 | genState g k ih => intro Q E p s hn h; refine x_ea h fun st hs h => ?_; exact ⟨st, hs, ih _ Q E p s hn h⟩
 | resume g r _ k ih => intro Q E p s hn h; refine q9 h fun res s' hw h => ?_; exact ⟨res, s', hw, ih res Q E p s' (Nat.le_trans hn (qmb hw)) h⟩
 | _ => first | (intro Q E p s hn h; first | exact h | (rename_i ih; exact ih _ Q E p _ hn h))
theorem q6 {α : Type} {M : Model} {A : Around} {s : Shared} {t : Sem α} {Q : α → Shared → Prop} {E : Value → Shared → Prop}
  (h : wpAny M A t (fun a s' => s.heap.objs.size ≤ s'.heap.objs.size → Q a s') (fun e s' => s.heap.objs.size ≤ s'.heap.objs.size → E e s') s) : wpAny M A t Q E s :=
 fun Γ p hΓ => Sem.wp_mono M Γ t (fun a p' s' x => (x.2 x.1 : Q a s')) (fun e p' s' x => (x.2 x.1 : E e s')) p s
  (qui M Γ s.heap.objs.size t (fun a ω s' => s.heap.objs.size ≤ s'.heap.objs.size → Q a s') (fun e ω s' => s.heap.objs.size ≤ s'.heap.objs.size → E e s') p s (Nat.le_refl _) (h Γ p hΓ))
end Mine
end
section
open PySem PySem.W PyProof.Rows PySem.Calls PySem.Spec
namespace Mine
noncomputable abbrev PG : Program := PySem.Challenge.pw_ik0126_01
noncomputable abbrev MM (w : World) : Model := model PG w
inductive AV where
 | none
 | bool (b : Bool)
 | int (i : Int)
 | str (s : Str)
 | strT (s : Str) (t : Tok)
 | ref (n : Nat)
 | tup (xs : List AV)
 | bm (id : String) (x : AV)
 | lam
 | rng (a b c : Int)
 | sl (l u : Option Int)
 | glob (v : Value)
noncomputable abbrev xn (vs : List Value) : Obj := { cls := .type "tuple", data := .seq vs.toArray }
noncomputable abbrev qk2 (id : String) (v : Value) : Obj := { cls := .type "builtin_function_or_method", data := .fields #[.builtin id, v] }
noncomputable abbrev qkh (a b c : Int) (t u v : Tok) : Obj := { cls := .type "range", dict := none, data := .fields #[.int a t, .int b u, .int c v], slots := #[] }
noncomputable abbrev qkm (l u : Value) : Obj := { cls := .type "slice", data := .fields #[l, u, .none] }
inductive Imm (o : Obj) : Prop
 | tup (vs : List Value) (h : o = xn vs)
 | bm (id : String) (v : Value) (h : o = qk2 id v)
 | fn (h : o.cls = .type "function") (h' : ∃ fd, o.data = .func fd)
 | rng (a b c : Int) (t u v : Tok) (h : o = qkh a b c t u v)
 | sl (l u : Value) (h : o = qkm l u)
mutual
noncomputable def VR (ρ : List Addr) (h : Heap) : AV → Value → Prop
 | .none, v => v = .none
 | .bool b, v => v = .bool b
 | .int i, v => ∃ t, v = .int i t
 | .str s, v => ∃ t, v = .str s t
 | .strT s t, v => v = .str s t
 | .ref n, v => ∃ a, ρ[n]? = some a ∧ v = .ref a
 | .tup xs, v => ∃ a vs, v = .ref a ∧ h.get? a = some (xn vs) ∧ a ∉ ρ ∧ VRs ρ h xs vs
 | .bm id x, v => ∃ a u, v = .ref a ∧ h.get? a = some (qk2 id u) ∧ VR ρ h x u
 | .lam, v => ∃ a o, v = .ref a ∧ h.get? a = some o ∧ o.cls = .type "function" ∧ ∃ fd, o.data = .func fd
 | .rng x y z, v => ∃ a t t' t'', v = .ref a ∧ h.get? a = some (qkh x y z t t' t'')
 | .sl l u, v => ∃ a vl vu, v = .ref a ∧ h.get? a = some (qkm vl vu) ∧ IsPart vl l ∧ IsPart vu u
 | .glob g, v => v = g
noncomputable def VRs (ρ : List Addr) (h : Heap) : List AV → List Value → Prop
 | [], vs => vs = []
 | x :: xs, vs => ∃ v r, vs = v :: r ∧ VR ρ h x v ∧ VRs ρ h xs r
end
inductive AO where
 | list (xs : List AV)
 | nlist (xs : List AV)
 | dict (es : List (Str × AV))
 | inst (C : Addr) (dn : Nat)
 | acc (C : Addr) (dn : Nat) (xs : List AV)
 | opq
 | hid
noncomputable abbrev ux (vs : List Value) (n : Nat) : Obj := { cls := .type "list", data := .seq vs.toArray n }
noncomputable abbrev xk (es : List DictEntry) (n : Nat) : Obj := { cls := .type "dict", data := .dict es.toArray n }
noncomputable abbrev qvg (C d : Addr) : Obj := { cls := .ref C, dict := some d, data := .plain }
noncomputable abbrev xl (C d : Addr) (vs : List Value) (n : Nat) : Obj := { cls := .ref C, dict := some d, data := .seq vs.toArray n }
noncomputable def IsL (h : Heap) (a : Addr) (items : Array Value) : Prop := ∃ n, PySem.IsL h a items n
theorem IsL.ex {h : Heap} {a : Addr} {items : Array Value} (x : IsL h a items) : ∃ o, h.get? a = some o ∧ o.cls = .type "list" ∧ o.dict = none ∧ ∃ n, o.data = .seq items n := let ⟨n, e⟩ := x; (qar _ e rfl rfl ⟨n, rfl⟩)
theorem IsL.list {h : Heap} {a : Addr} {items : Array Value} (x : IsL h a items) : h.IsList a items := let ⟨_, e⟩ := x; e.isList
theorem IsL.at {h h' : Heap} {a : Addr} {items : Array Value} (x : IsL h a items) (k : ∀ o, h.get? a = some o → h'.get? a = some o) : IsL h' a items := let ⟨n, e⟩ := x; ⟨n, k _ e⟩
noncomputable def DR (w : World) (ρ : List Addr) (h : Heap) : List (Str × AV) → List DictEntry → Prop
 | [], es => es = []
 | (k, x) :: r, es => ∃ t v rs, es = ⟨PyData.keyHash w.params k, .str k t, v⟩ :: rs ∧ VR ρ h x v ∧ DR w ρ h r rs
noncomputable def OR (w : World) (ρ : List Addr) (h : Heap) (a : Addr) : AO → Prop
 | .list xs => ∃ vs : List Value, IsL h a vs.toArray ∧ VRs ρ h xs vs
 | .nlist xs => ∃ vs, h.get? a = some (ux vs 0) ∧ VRs ρ h xs vs
 | .dict es => ∃ ds n, h.get? a = some (xk ds n) ∧ DR w ρ h es ds
 | .inst C dn => ∃ d, ρ[dn]? = some d ∧ h.get? a = some (qvg C d)
 | .acc C dn xs => ∃ d vs n, ρ[dn]? = some d ∧ h.get? a = some (xl C d vs n) ∧ VRs ρ h xs vs
 | .opq => h.get? a = some { cls := .type "object" }
 | .hid => ∃ x y, h.get? a = some (xn [x, y])
theorem Imm.cls {o : Obj} (x : Imm o) : ∃ T, o.cls = .type T ∧ T ∈ ["tuple", "builtin_function_or_method", "function", "range", "slice"] := by
 cases x with
 | tup vs h => subst h; exact (y_ea _ rfl (by exact List.mem_cons_self))
 | bm id v h => subst h; exact (y_ea _ rfl (by decide))
 | fn h h' => exact (y_ea _ h (by decide))
 | rng a b c t u v h => subst h; exact (y_ea _ rfl (by decide))
 | sl l u h => subst h; exact (y_ea _ rfl (by decide))
theorem Imm.nodict {o : Obj} (x : Imm o) : ∀ es n, o.data ≠ .dict es n := fun es n e => by
 cases x with
 | tup vs h => subst h; cases e
 | bm id v h => subst h; cases e
 | fn h h' => lia
 | rng a b c t u v h => subst h; cases e
 | sl l u h => subst h; cases e
theorem OR.own {w : World} {ρ : List Addr} {h : Heap} {a : Addr} {ao : AO} (x : OR w ρ h a ao) : ∃ o, h.get? a = some o ∧ (∀ vs, o.data ≠ .fields vs) ∧ (Imm o → o.cls = .type "tuple") := by
 have nt : ∀ (o : Obj) (s : String), o.cls = .type s → s ∉ ["tuple", "builtin_function_or_method", "function", "range", "slice"] → Imm o → o.cls = .type "tuple" := fun o s e h1 z => by
  refine x_ea z.cls fun T q hT => ?_
  rw [e] at q; injection q with q; subst q; exact False.elim (h1 hT)
 have nr : ∀ (o : Obj) (c : Addr), o.cls = .ref c → Imm o → o.cls = .type "tuple" := fun o c e z => by
  refine x_ea z.cls fun T q hT => ?_
  rw [e] at q; cases q
 cases ao with
 | list xs => refine x_ea x fun ω e0 ω => ?_; clear x; refine zh e0.ex fun o e hc ω z6y => ?_; obtain ⟨n, hd⟩ := z6y; exact (wg o e (fun ω z => by rw [hd] at z; cases z) (nt _ "list" hc (by decide)))
 | nlist xs => refine x_ea x fun ω e ω => ?_; clear x; exact (wg _ e (fun ω z => (nomatch z)) (nt _ "list" rfl (by decide)))
 | dict es => refine q9 x fun ω ω e ω => ?_; clear x; exact (wg _ e (fun ω z => (nomatch z)) (nt _ "dict" rfl (by decide)))
 | inst C dn => refine x_ea x fun ω ω e => ?_; clear x; exact (wg _ e (fun ω z => (nomatch z)) (nr _ C rfl))
 | acc C dn xs => refine qw x fun ω ω ω ω e ω => ?_; clear x; exact (wg _ e (fun ω z => (nomatch z)) (nr _ C rfl))
 | opq => exact (wg _ x (fun ω z => (nomatch z)) (nt _ "object" rfl (by decide)))
 | hid => refine x_e2 x fun ω ω x => ?_; exact (wg _ x (fun ω z => (nomatch z)) (fun ω => rfl))
structure Tab where
 c : Addr
 P : Addr
 made : List (Pos × Str)
structure TabInv (B h : Heap) (t : Tab) : Prop where
 at0 : B.TableAt t.c t.P #[]
 now : ∃ ps, h.IsCode t.c t.P ps ∧ h.TableAt t.c t.P ps ∧ ∀ m ∈ t.made, ∀ v, codeAmong m.1 ps.toList = some v → h.CodeRec v m.2 ∧ ∃ c', v = .ref c'
structure GI (w : World) (B : Shared) (tabs : List Tab) (s : Shared) : Prop where
 old : OldK B.heap s.heap
 tab : ∀ t ∈ tabs, TabInv B.heap s.heap t
 os : s.os = B.os
 bare : AllBare s.gens
 size : B.heap.objs.size ≤ s.heap.objs.size
 lim : s.heap.NoLimit
 lowS : cStatics < B.heap.objs.size ∧ ∀ t ∈ tabs, t.P ≠ cStatics
 tk : B.toks ≤ s.toks
 stat : ∀ o, B.heap.get? cStatics = some o → s.heap.get? cStatics = some o
noncomputable abbrev qi5 (tabs : List Tab) : List Addr := tabs.map (·.P)
structure HR (w : World) (B : Shared) (tabs : List Tab) (ρ : List Addr) (os : List AO) (s : Shared) : Prop where
 gi : GI w B tabs s
 len : ρ.length = os.length
 objs : ∀ (n : Nat) (ao : AO), os[n]? = some ao → ∃ a, ρ[n]? = some a ∧ OR w ρ s.heap a ao
 nodup : ρ.Nodup
 fresh : ∀ a ∈ ρ, B.heap.objs.size ≤ a
noncomputable def Kept (h' : Heap) (b : Addr) (o : Obj) : Prop := h'.get? b = some o ∨ ((∃ es ep, o.data = .dict es ep) ∧ ∃ sl, h'.get? b = some { o with slots := sl })
theorem Kept.step {h' h'' : Heap} {b : Addr} {o : Obj} (x : Kept h' b o) (y : ∀ o', h'.get? b = some o' → Kept h'' b o') : Kept h'' b o := by
 rcases x with x | ⟨hc, sl, x⟩
 ·exact y _ x
 ·rcases y _ x with z | ⟨_, sl', z⟩
  ·exact .inr ⟨hc, sl, z⟩
  ·exact .inr ⟨hc, sl', z⟩
theorem Kept.of {h' : Heap} {b : Addr} {o : Obj} (x : Kept h' b o) (hc : ∀ es ep, o.data ≠ .dict es ep) : h'.get? b = some o := x.elim id fun y => let ⟨es, ep, e⟩ := y.1; absurd e (hc es ep)
structure Ext (tabs : List Tab) (X : List Addr) (ρ : List Addr) (s : Shared) (ρ' : List Addr) (s' : Shared) : Prop where
 pre : ρ <+: ρ'
 keep : ∀ b o, s.heap.get? b = some o → b ∉ ρ → b ∉ X → b ∉ qi5 tabs → Kept s'.heap b o
 new : ∀ a ∈ ρ', a ∉ ρ → s.heap.objs.size ≤ a
 size : s.heap.objs.size ≤ s'.heap.objs.size
section
variable {w : World} {B : Shared} {tabs : List Tab} {ρ ρ' ρ'' X Y : List Addr} {os os' : List AO} {s s' s'' : Shared} {h h' : Heap}
theorem HR.ex (H : HR w B tabs ρ os s) {a : Addr} (ha : a ∈ ρ) : ∃ (n : Nat) (ao : AO), os[n]? = some ao ∧ ρ[n]? = some a ∧ OR w ρ s.heap a ao := by
 obtain ⟨n, hn, e⟩ := List.getElem_of_mem ha
 have hn' : n < os.length := by rw [← H.len]; exact hn
 refine x_ea (H.objs n os[n] (List.getElem?_eq_getElem hn')) fun b e1 e2 => ?_
 have : b = a := by rw [List.getElem?_eq_getElem hn] at e1; exact (Option.some.inj e1).symm.trans e
 subst this
 exact (jk n _ (List.getElem?_eq_getElem hn') e1 e2)
theorem HR.lt (H : HR w B tabs ρ os s) {a : Addr} (ha : a ∈ ρ) : a < s.heap.objs.size := by
 refine qc (H.ex ha) fun ω ω ω ω x => ?_
 refine x_ea x.own fun o e ω => ?_
 exact Heap.lt_size e
theorem HR.not_imm (H : HR w B tabs ρ os s) {a : Addr} {o : Obj} (e : s.heap.get? a = some o) (hi : Imm o) (hc : o.cls = .type "tuple" → a ∉ ρ) : a ∉ ρ := fun ha => by
 refine qc (H.ex ha) fun ω ω ω ω x => ?_
 refine xy x.own fun o' e' ω z => ?_
 rw [e] at e'
 cases e'
 exact hc (z hi) ha
noncomputable def ImmK (ρ : List Addr) (h h' : Heap) : Prop := ∀ a o, Imm o → (o.cls = .type "tuple" → a ∉ ρ) → h.get? a = some o → h'.get? a = some o
theorem ImmK.of (k : ∀ a o, Imm o → h.get? a = some o → h'.get? a = some o) : ImmK ρ h h' := fun a o hi ω e => k a o hi e
theorem ImmK.all (k : ∀ a o, h.get? a = some o → h'.get? a = some o) : ImmK ρ h h' := fun a o ω ω e => k a o e
noncomputable def NewIn (ρ ρ' : List Addr) (h : Heap) : Prop := ∀ b ∈ ρ', b ∉ ρ → h.objs.size ≤ b
theorem NewIn.refl : NewIn ρ ρ h := fun ω x y => absurd x y
theorem NewIn.app {a : Addr} (ha : h.objs.size ≤ a) : NewIn ρ (ρ ++ [a]) h := fun b x y => by
 rcases List.mem_append.mp x with q | q
 ·exact absurd q y
 ·simp at q; subst q; exact ha
theorem NewIn.app0 : NewIn ρ (ρ ++ [h.objs.size]) h := .app (Nat.le_refl _)
theorem NewIn.out {a : Addr} {o : Obj} (n : NewIn ρ ρ' h) (e : h.get? a = some o) (ha : a ∉ ρ) : a ∉ ρ' := fun q => absurd (Heap.lt_size e) (Nat.not_lt.mpr (n a q ha))
theorem GI.not_tab (G : GI w B tabs s) {a : Addr} {o : Obj} (e : s.heap.get? a = some o) (hc : o.cls ≠ .none) : a ∉ qi5 tabs := fun ha => by
 refine x_ea (List.mem_map.mp ha) fun t ht z5y => ?_; subst z5y
 refine xy ((G.tab t ht).now) fun ps ω z4y ω => ?_; obtain ⟨ω, y⟩ := z4y
 rw [e] at y
 exact hc (by rw [Option.some.inj y])
theorem Ext.refl (tabs : List Tab) (X ρ : List Addr) (s : Shared) : Ext tabs X ρ s ρ s := ⟨List.prefix_refl _, fun ω ω e ω ω ω => .inl e, fun ω h h' => absurd h h', Nat.le_refl _⟩
theorem Ext.trans (E : Ext tabs X ρ s ρ' s') (F : Ext tabs X ρ' s' ρ'' s'') : Ext tabs X ρ s ρ'' s'' := by
 refine ⟨E.pre.trans F.pre, fun b o e h1 h2 h3 => ?_, fun a h1 h2 => ?_, Nat.le_trans E.size F.size⟩
 ·refine (E.keep b o e h1 h2 h3).step fun o' e' => F.keep b o' e' (fun h4 => ?_) h2 h3
  exact absurd (Heap.lt_size e) (Nat.not_lt.mpr (E.new b h4 h1))
 ·by_cases h3 : a ∈ ρ'
  ·exact E.new a h3 h2
  ·exact Nat.le_trans E.size (F.new a h1 h3)
theorem Ext.weaken (E : Ext tabs X ρ s ρ' s') (h : ∀ a ∈ X, a ∈ Y) : Ext tabs Y ρ s ρ' s' := ⟨E.pre, fun b o e h1 h2 h3 => E.keep b o e h1 (fun q => h2 (h _ q)) h3, E.new, E.size⟩
theorem yb {a : Addr} {n : Nat} (p : ρ <+: ρ') (e : ρ[n]? = some a) : ρ'[n]? = some a := by
 obtain ⟨t, rfl⟩ := p
 rw [List.getElem?_append_left (List.getElem?_eq_some_iff.mp e).1]; exact e
theorem ntT {T : String} (h : (T == "tuple") = false := by decide) : ¬ (Value.type T = .type "tuple") := fun z => by
 injection z with z; subst z; exact (fun b => (Bool.eq_not_self b).mp) ("tuple" == "tuple") h
mutual
theorem VR.impN (hp : ρ <+: ρ') (hn : NewIn ρ ρ' h) (ht : ImmK ρ h h') : ∀ (x : AV) (v : Value), VR ρ h x v → VR ρ' h' x v
 | .none => fun ω e => e
 | .bool _ => fun ω e => e
 | .int _ => fun ω e => e
 | .str _ => fun ω e => e
 | .strT _ _ => fun ω e => e
 | .glob _ => fun ω e => e
 | .rng _ _ _ => fun ω z => x_e4 z fun a t t' t'' z => ⟨a, t, t', t'', z.1, ht _ _ (.rng _ _ _ _ _ _ rfl) (fun z => absurd z ntT) z.2⟩
 | .sl _ _ => fun ω z => qw z fun a vl vu e q r => ⟨a, vl, vu, e, ht _ _ (.sl _ _ rfl) (fun z => absurd z ntT) q, r⟩
 | .ref n => fun ω z => x_ea z fun a e q => ⟨a, yb hp e, q⟩
 | .tup xs => fun ω z => xx z fun a vs e q o r => ⟨a, vs, e, ht _ _ (.tup _ rfl) (fun ω => o) q, hn.out q o, VRs.impN hp hn ht xs vs r⟩
 | .bm id x => fun ω z => qc z fun a u e q r => ⟨a, u, e, ht _ _ (.bm _ _ rfl) (fun z => absurd z ntT) q, VR.impN hp hn ht x u r⟩
 | .lam => fun ω z => xx z fun a o e q c f => ⟨a, o, e, ht _ _ (.fn c f) (fun z => absurd (c.symm.trans z) (by decide)) q, c, f⟩
theorem VRs.impN (hp : ρ <+: ρ') (hn : NewIn ρ ρ' h) (ht : ImmK ρ h h') : ∀ (xs : List AV) (vs : List Value), VRs ρ h xs vs → VRs ρ' h' xs vs
 | [] => fun ω e => e
 | x :: xs => fun ω z => qc z fun v r e q z => ⟨v, r, e, VR.impN hp hn ht x v q, VRs.impN hp hn ht xs r z⟩
end
theorem DR.impN (hp : ρ <+: ρ') (hn : NewIn ρ ρ' h) (ht : ImmK ρ h h') : ∀ (es : List (Str × AV)) (ds : List DictEntry), DR w ρ h es ds → DR w ρ' h' es ds
 | [] => fun ω e => e
 | (k, x) :: r => fun ω z => qw z fun t v rs e q z => ⟨t, v, rs, e, VR.impN hp hn ht x v q, DR.impN hp hn ht r rs z⟩
theorem VR.imp (hp : ρ <+: ρ') (ht : ImmK ρ h h') (x : AV) (v : Value) (r : VR ρ h x v) (hn : NewIn ρ ρ' h := by first | exact NewIn.refl | exact NewIn.app0 | exact NewIn.app (by assumption)) : VR ρ' h' x v := VR.impN hp hn ht x v r
theorem VRs.imp (hp : ρ <+: ρ') (ht : ImmK ρ h h') (x : List AV) (v : List Value) (r : VRs ρ h x v) (hn : NewIn ρ ρ' h := by first | exact NewIn.refl | exact NewIn.app0 | exact NewIn.app (by assumption)) : VRs ρ' h' x v := VRs.impN hp hn ht x v r
theorem DR.imp (hp : ρ <+: ρ') (ht : ImmK ρ h h') (es : List (Str × AV)) (ds : List DictEntry) (r : DR w ρ h es ds) (hn : NewIn ρ ρ' h := by first | exact NewIn.refl | exact NewIn.app0 | exact NewIn.app (by assumption)) : DR w ρ' h' es ds := DR.impN hp hn ht es ds r
theorem HR.tups (H : HR w B tabs ρ os s) (E : Ext tabs X ρ s ρ' s') (hX : ∀ a ∈ X, ∀ o, Imm o → s.heap.get? a ≠ some o) : ImmK ρ s.heap s'.heap := fun a o hi ho e =>
 (E.keep a _ e (H.not_imm e hi ho) (fun q => hX a q o hi e) (H.gi.not_tab e (by intro z; refine x_ea hi.cls fun T q ω => ?_; rw [z] at q; cases q))).of hi.nodict
theorem HR.vr (H : HR w B tabs ρ os s) (E : Ext tabs [] ρ s ρ' s') {x : AV} {v : Value} (r : VR ρ s.heap x v) : VR ρ' s'.heap x v := VR.impN E.pre E.new (H.tups E fun ω h => nomatch h) x v r
theorem VRs.length : ∀ {xs : List AV} {vs : List Value}, VRs ρ h xs vs → vs.length = xs.length
 | [], _, e => by rw [show _ = [] from e]; rfl
 | _ :: xs, _, ⟨v, r, e, _, z⟩ => by rw [e]; simp [VRs.length z]
theorem VRs.get : ∀ {xs : List AV} {vs : List Value} {n : Nat} {x : AV}, VRs ρ h xs vs → xs[n]? = some x → ∃ v, vs[n]? = some v ∧ VR ρ h x v
 | _ :: xs, _, 0, x, ⟨v, r, e, q, z⟩, hx => by cases hx; exact (y_ea v (by rw [e]; rfl) q)
 | _ :: xs, _, n + 1, x, ⟨v, r, e, q, z⟩, hx => by
  refine x_ea (VRs.get z (by simpa using hx)) fun u h1 h2 => ?_
  exact (y_ea u (by rw [e]; simpa using h1) h2)
theorem VRs.append : ∀ {xs ys : List AV} {vs us : List Value}, VRs ρ h xs vs → VRs ρ h ys us → VRs ρ h (xs ++ ys) (vs ++ us)
 | [], _, _, _, e, q => by rw [show _ = [] from e]; exact q
 | _ :: xs, _, _, _, ⟨v, r, e, z, y⟩, q => ⟨v, r ++ _, by rw [e]; rfl, z, VRs.append y q⟩
theorem VRs.take : ∀ {xs : List AV} {vs : List Value} (n : Nat), VRs ρ h xs vs → VRs ρ h (xs.take n) (vs.take n)
 | [], _, n, e => by rw [show _ = [] from e]; simp [VRs]
 | _ :: _, _, 0, _ => by simp [VRs]
 | x :: xs, _, n + 1, ⟨v, r, e, z, y⟩ => by subst e; exact ⟨v, r.take n, by simp, z, VRs.take n y⟩
theorem VRs.drop : ∀ {xs : List AV} {vs : List Value} (n : Nat), VRs ρ h xs vs → VRs ρ h (xs.drop n) (vs.drop n)
 | [], _, n, e => by rw [show _ = [] from e]; simp [VRs]
 | _ :: _, _, 0, y => by simpa using y
 | x :: xs, _, n + 1, ⟨v, r, e, z, y⟩ => by subst e; simpa using VRs.drop n y
theorem VRs.of_append : ∀ {xs ys : List AV} {vs : List Value}, VRs ρ h (xs ++ ys) vs → ∃ v1 v2, vs = v1 ++ v2 ∧ VRs ρ h xs v1 ∧ VRs ρ h ys v2
 | [], ys, vs, q => (jk [] vs rfl rfl q)
 | x :: xs, ys, _, ⟨v, r, e, z, y⟩ => by
  refine qc (VRs.of_append y) fun v1 v2 e' y1 y2 => ?_
  exact (jk (v :: v1) v2 (by rw [e, e']; rfl) ⟨v, v1, rfl, z, y1⟩ y2)
theorem OR.impN {a : Addr} {ao : AO} (hp : ρ <+: ρ') (hn : NewIn ρ ρ' h) (ht : ImmK ρ h h') (ha : ∀ o, h.get? a = some o → h'.get? a = some o) (x : OR w ρ h a ao) : OR w ρ' h' a ao := by
 cases ao with
 | list xs => refine x_ea x fun vs e r => ?_; clear x; exact ⟨vs, e.at ha, VRs.impN hp hn ht _ _ r⟩
 | nlist xs => refine x_ea x fun vs e r => ?_; clear x; exact ⟨vs, ha _ e, VRs.impN hp hn ht _ _ r⟩
 | dict es => refine q9 x fun ds n e r => ?_; clear x; exact ⟨ds, n, ha _ e, DR.impN hp hn ht _ _ r⟩
 | inst C dn => refine x_ea x fun d e1 e => ?_; clear x; exact ⟨d, yb hp e1, ha _ e⟩
 | acc C dn xs => refine qw x fun d vs n e1 e r => ?_; clear x; exact ⟨d, vs, n, yb hp e1, ha _ e, VRs.impN hp hn ht _ _ r⟩
 | opq => exact ha _ x
 | hid => refine x_e2 x fun u v e => ?_; clear x; exact ⟨u, v, ha _ e⟩
theorem OR.imp {a : Addr} {ao : AO} (hp : ρ <+: ρ') (ht : ImmK ρ h h') (ha : ∀ o, h.get? a = some o → h'.get? a = some o) (x : OR w ρ h a ao) (hn : NewIn ρ ρ' h := by first | exact NewIn.refl | exact NewIn.app0 | exact NewIn.app (by assumption)) : OR w ρ' h' a ao := OR.impN hp hn ht ha x
end
theorem TabInv.step {B h h' : Heap} {t : Tab} (x : TabInv B h t) (k : ∀ b o, h.get? b = some o → b = t.c ∨ b = t.P → h'.get? b = some o) (kc : ∀ m ∈ t.made, ∀ v, h.CodeRec v m.2 → h'.CodeRec v m.2) : TabInv B h' t := by
 refine xy x.now fun ps i ta z => ?_
 refine ⟨x.at0, ps, ?_, ?_, fun m hm v e => ⟨kc m hm v (z m hm v e).1, (z m hm v e).2⟩⟩
 ·refine x_e5 i fun o vs file tf flags z3y => ?_; clear i; refine xg z3y fun tg inF text tt op a r1 r2 r3 r4 r5 z7y => ?_; clear z3y; obtain ⟨r6, b, r⟩ := z7y
  exact ⟨o, vs, file, tf, flags, tg, inF, text, tt, op, k _ _ a (.inl rfl), r1, r2, r3, r4, r5, r6, k _ _ b (.inr rfl), r⟩
 ·obtain ⟨⟨oc, vs', e1, e2, e3, e4⟩, e5⟩ := ta
  exact ⟨(yn oc vs' (k _ _ e1 (.inl rfl)) e2 e3 e4), k _ _ e5 (.inr rfl)⟩
theorem TabInv.low {B h : Heap} {t : Tab} (x : TabInv B h t) : t.c < B.objs.size ∧ t.P < B.objs.size := by
 obtain ⟨⟨o, vs, e, ω⟩, e'⟩ := x.at0
 exact ⟨Heap.lt_size e, Heap.lt_size e'⟩
section
variable {w : World} {B : Shared} {tabs : List Tab} {ρ ρ' ρ'' X Y : List Addr} {os os' : List AO} {s s' s'' : Shared} {h h' : Heap}
theorem GI.keeps (G : GI w B tabs s) {d : Drawn} {tk : Nat} {g : Array GenState} (hg : AllBare g) (ht : s.toks ≤ tk) (k : ∀ b o, s.heap.get? b = some o → h'.get? b = some o) (hz : s.heap.objs.size ≤ h'.objs.size) : GI w B tabs ⟨h', g, d, tk, s.os⟩ :=
 ⟨G.old.step_keeps k, fun t ht => (G.tab t ht).step (fun b o e ω => k b o e) fun m hm v x => x.keeps k, G.os, hg, Nat.le_trans G.size hz, G.lim.keeps k, G.lowS, Nat.le_trans G.tk ht, fun o e => k _ _ (G.stat o e)⟩
theorem CodeRec.same {a : Addr} {o : Obj} {v : Value} {q : Str} (x : h.CodeRec v q) (ho : h.get? a = some o) (hc : ∀ vs, o.data ≠ .fields vs) (hs : Heap.SameBut a h h') : h'.CodeRec v q := by
 refine v6 x fun c oc vs t e g r q => ?_; clear x
 refine ⟨c, oc, vs, t, e, (hs.2 c fun z => ?_).trans g, r, q⟩
 subst z
 rw [ho] at g
 exact hc vs (by rw [Option.some.inj g]; exact r)
theorem GI.same (G : GI w B tabs s) {d : Drawn} {tk : Nat} {g : Array GenState} (hg : AllBare g) (ht : s.toks ≤ tk) {a : Addr} {o : Obj} (ho : s.heap.get? a = some o) (hf : ∀ vs, o.data ≠ .fields vs) (ha : B.heap.objs.size ≤ a)
  (hs : Heap.SameBut a s.heap h') : GI w B tabs ⟨h', g, d, tk, s.os⟩ := by
 refine ⟨G.old.step_same ha hs, fun t ht => (G.tab t ht).step (fun b o' e q => ?_) fun m hm v x => CodeRec.same x ho hf hs, G.os, hg, Nat.le_trans G.size (Nat.le_of_eq hs.1.symm), G.lim.sameBut hs (Nat.ne_of_lt (Nat.lt_of_lt_of_le G.lowS.1 ha)), G.lowS, Nat.le_trans G.tk ht, fun o e => (hs.2 _ (Nat.ne_of_lt (Nat.lt_of_lt_of_le G.lowS.1 ha))).trans (G.stat o e)⟩
 refine (hs.2 b fun z => ?_).trans e
 subst z
 have l := (G.tab t ht).low
 rcases q with q | q
 ·exact absurd l.1 (Nat.not_lt.mpr (q ▸ ha))
 ·exact absurd l.2 (Nat.not_lt.mpr (q ▸ ha))
theorem HR.keeps (H : HR w B tabs ρ os s) {d : Drawn} {tk : Nat} {g : Array GenState} (hg : AllBare g) (ht : s.toks ≤ tk) (k : ∀ b o, s.heap.get? b = some o → h'.get? b = some o) (hz : s.heap.objs.size ≤ h'.objs.size) : HR w B tabs ρ os ⟨h', g, d, tk, s.os⟩ :=
 ⟨H.gi.keeps hg ht k hz, H.len, fun n ao e => let ⟨a, e1, x⟩ := H.objs n ao e; (y_ea a e1 (x.imp (List.prefix_refl _) (ImmK.all k) fun o => k a o)), H.nodup, H.fresh⟩
theorem HR.toks (H : HR w B tabs ρ os s) (tk : Nat) (ht : s.toks ≤ tk) : HR w B tabs ρ os { s with toks := tk } := H.keeps (h' := s.heap) H.gi.bare ht (fun ω ω e => e) (Nat.le_refl _)
theorem Ext.keeps {d : Drawn} {tk : Nat} {g : Array GenState} (k : ∀ b o, s.heap.get? b = some o → h'.get? b = some o) (hz : s.heap.objs.size ≤ h'.objs.size) : Ext tabs X ρ s ρ ⟨h', g, d, tk, s.os⟩ :=
 ⟨List.prefix_refl _, fun b o e ω ω ω => .inl (k b o e), fun ω h h' => absurd h h', hz⟩
theorem Ext.toks (tabs : List Tab) (X ρ : List Addr) (s : Shared) (tk : Nat) : Ext tabs X ρ s ρ { s with toks := tk } := Ext.keeps (h' := s.heap) (fun ω ω e => e) (Nat.le_refl _)
theorem HR.alloc (H : HR w B tabs ρ os s) {d : Drawn} {tk : Nat} {g : Array GenState} (hg : AllBare g) (ht : s.toks ≤ tk) (k : ∀ b o, s.heap.get? b = some o → h'.get? b = some o) (hz : s.heap.objs.size ≤ h'.objs.size) {a : Addr} {ao : AO} (ha : s.heap.objs.size ≤ a) (x : OR w (ρ ++ [a]) h' a ao) : HR w B tabs (ρ ++ [a]) (os ++ [ao]) ⟨h', g, d, tk, s.os⟩ := by
 refine ⟨H.gi.keeps hg ht k hz, by simp [H.len], fun n ao' e => ?_, ?_, fun b hb => ?_⟩
 ·rw [List.getElem?_append] at e
  split at e
  ·rename_i hn
   refine x_ea (H.objs n ao' e) fun b e1 y => ?_
   exact (y_ea b (yb (List.prefix_append ρ [a]) e1) (y.impN (List.prefix_append ρ [a]) (NewIn.app ha) (ImmK.all k) fun o => k b o))
  ·rename_i hn
   have hn' : n = os.length := by
    have := (List.getElem?_eq_some_iff.mp e).1
    simp at this; lia
   subst hn'
   simp at e
   subst e
   exact (y_ea a (by rw [← H.len]; exact List.getElem?_concat_length) x)
 ·rw [List.nodup_append]
  refine (y_a2 H.nodup (by simp) (fun b hb c hc => ?_))
  simp at hc; subst hc
  exact Nat.ne_of_lt (Nat.lt_of_lt_of_le (H.lt hb) ha)
 ·rcases List.mem_append.mp hb with q | q
  ·exact H.fresh b q
  ·simp at q; subst q; exact Nat.le_trans H.gi.size ha
theorem Ext.alloc {d : Drawn} {tk : Nat} {g : Array GenState} (k : ∀ b o, s.heap.get? b = some o → h'.get? b = some o) (hz : s.heap.objs.size ≤ h'.objs.size) {a : Addr} (ha : s.heap.objs.size ≤ a) : Ext tabs X ρ s (ρ ++ [a]) ⟨h', g, d, tk, s.os⟩ :=
 ⟨List.prefix_append _ _, fun b o e ω ω ω => .inl (k b o e), fun b h1 h2 => by rcases List.mem_append.mp h1 with q | q; exact absurd q h2; simp at q; subst q; exact ha, hz⟩
theorem HR.set (H : HR w B tabs ρ os s) {d : Drawn} {tk : Nat} {g : Array GenState} (hg : AllBare g) (ht : s.toks ≤ tk) {n : Nat} {a : Addr} {ao : AO} (ha : ρ[n]? = some a) (hs : Heap.SameBut a s.heap h') (x : OR w ρ h' a ao) : HR w B tabs ρ (os.set n ao) ⟨h', g, d, tk, s.os⟩ := by
 have hmem : a ∈ ρ := List.mem_of_getElem? ha
 refine qc (H.ex hmem) fun n' ao' e1 e2 y => ?_
 refine xy y.own fun o ho hf hni => ?_
 have tp : ImmK ρ s.heap h' := fun b o' hi hb e => (hs.2 b fun z => by subst z; rw [ho] at e; cases e; exact hb (hni hi) hmem).trans e
 refine ⟨H.gi.same hg ht ho hf (H.fresh a hmem) hs, by simp [H.len], fun k ao'' e => ?_, H.nodup, H.fresh⟩
 rw [List.getElem?_set] at e
 split at e
 ·rename_i hk
  subst hk
  split at e
  ·cases e; exact (y_ea a ha x)
  ·cases e
 ·rename_i hk
  refine x_ea (H.objs k ao'' e) fun b e1 z => ?_
  refine (y_ea b e1 (z.imp (List.prefix_refl _) tp fun o e => (hs.2 b fun q => ?_).trans e))
  subst q
  obtain ⟨l1, v1⟩ := List.getElem?_eq_some_iff.mp ha
  obtain ⟨l2, v2⟩ := List.getElem?_eq_some_iff.mp e1
  have pw := List.pairwise_iff_getElem.mp H.nodup
  rcases Nat.lt_trichotomy n k with q | q | q
  ·exact pw n k l1 l2 q (v1.trans v2.symm)
  ·exact hk q
  ·exact pw k n l2 l1 q (v2.trans v1.symm)
theorem Ext.set {d : Drawn} {tk : Nat} {g : Array GenState} {a : Addr} (ha : a ∈ ρ) (hs : Heap.SameBut a s.heap h') : Ext tabs X ρ s ρ ⟨h', g, d, tk, s.os⟩ :=
 ⟨List.prefix_refl _, fun b o e h1 ω ω => .inl ((hs.2 b fun z => h1 (z ▸ ha)).trans e), fun ω h h' => absurd h h', Nat.le_of_eq hs.1.symm⟩
theorem HR.out (H : HR w B tabs ρ os s) {d : Drawn} {tk : Nat} {g : Array GenState} (hg : AllBare g) (ht : s.toks ≤ tk) {a : Addr} {o : Obj} (ho : s.heap.get? a = some o) (hf : ∀ vs, o.data ≠ .fields vs) (hi : ¬ Imm o) (ha : B.heap.objs.size ≤ a) (hr : a ∉ ρ)
  (hs : Heap.SameBut a s.heap h') : HR w B tabs ρ os ⟨h', g, d, tk, s.os⟩ ∧ ImmK ρ s.heap h' := by
 have tp : ImmK ρ s.heap h' := fun b o' hi' ω e => (hs.2 b fun z => by lia).trans e
 refine ⟨⟨H.gi.same hg ht ho hf ha hs, H.len, fun k ao e => ?_, H.nodup, H.fresh⟩, tp⟩
 refine x_ea (H.objs k ao e) fun b e1 z => ?_
 exact (y_ea b e1 (z.imp (List.prefix_refl _) tp fun o e => (hs.2 b fun q => hr (q ▸ List.mem_of_getElem? e1)).trans e))
theorem Ext.out {d : Drawn} {tk : Nat} {g : Array GenState} {a : Addr} (hs : Heap.SameBut a s.heap h') : Ext tabs [a] ρ s ρ ⟨h', g, d, tk, s.os⟩ :=
 ⟨List.prefix_refl _, fun b o e ω h2 ω => .inl ((hs.2 b fun z => h2 (by simp [z])).trans e), fun ω h h' => absurd h h', Nat.le_of_eq hs.1.symm⟩
end
end Mine
end
section
open PySem PySem.W PyProof.Rows PySem.Calls PySem.Spec
namespace Mine
structure CX where
 w : World
 B : Shared
 K : Frag
 tabs : List Tab
 gt : List (Str × Value)
noncomputable def NsK (h : Heap) (a : Addr) (m : Str → Option Value) : Prop := h.Ns a m ∧ a ≠ cStatics
theorem yv {env : Env} (h : env.scope.kind = .function) : interactive env = false := by
 delta interactive; rw [h]; rfl
theorem NsK.ns {h : Heap} {a : Addr} {m : Str → Option Value} (x : NsK h a m) : h.Ns a m := x.1
structure CX.Ok (c : CX) : Prop where
 kin : c.K.In c.B.heap
 kc : ∀ a o, c.K.lookup a = some o → o.cls ≠ .none ∨ a = cStatics
 glob : ∃ mg mb, NsK c.B.heap mainGlobals mg ∧ NsK c.B.heap builtinsNs mb ∧ ∀ x v, (x, v) ∈ c.gt → mg x = some v ∨ (mg x = none ∧ mb x = some v)
noncomputable abbrev CX.GI (c : CX) (s : Shared) : Prop := Mine.GI c.w c.B c.tabs s
noncomputable abbrev CX.HR (c : CX) (ρ : List Addr) (os : List AO) (s : Shared) : Prop := Mine.HR c.w c.B c.tabs ρ os s
theorem gi_k {c : CX} {s : Shared} (G : c.GI s) (C : c.Ok) : c.K.In s.heap := fun a o e => (C.kc a o e).elim (fun h => G.old.get_of_cls (C.kin a o e) h) fun h => by subst h; exact G.stat _ (C.kin _ _ e)
theorem qdi {c : CX} {s : Shared} (G : c.GI s) {a : Addr} {m : Str → Option Value} (x : NsK c.B.heap a m) : NsK s.heap a m := by
 obtain ⟨⟨o, es, ep, e, hd, r⟩, hn⟩ := x
 refine ⟨⟨o, es, ep, ?_, hd, r⟩, hn⟩
 rcases G.old.old a o e with q | ⟨_, _, vs, _, hv, _⟩ | ⟨q, _⟩
 ·exact q
 ·rw [hd] at hv; cases hv
 ·exact absurd q hn
structure AR (A : Around) (n : Nat) : Prop where
 hd : A.handled = none
 depth : A.depth + n ≤ 900
 units : A.units + 20 * n ≤ 9000
theorem AR.in1 {A : Around} {n : Nat} (x : AR A (n + 1)) : AR A.in1 n := ⟨x.hd, by have := x.depth; show A.depth + n ≤ 900; exact Nat.le_of_succ_le this, by have := x.units; show A.units + 1 + 20 * n ≤ 9000; lia⟩
theorem AR.deeper {A : Around} {n : Nat} (x : AR A (n + 1)) (env : Env) : AR (A.deeper env) n := ⟨x.hd, by have := x.depth; show A.depth + 1 + n ≤ 900; lia, by have := x.units; show A.units + 3 + 20 * n ≤ 9000; lia⟩
structure EF where
 env : Env
 ls : List Str
 gs : List Str
structure EF.Ok (e : EF) : Prop where
 kind : e.env.scope.kind = .function
 glob : e.env.globals = mainGlobals
 blt : e.env.builtins = builtinsNs
 nodup : e.ls.Nodup
 ls : ∀ x ∈ e.ls, e.env.kindOf x = some .local ∧ (x == ("__debug__" : Str)) = false
 gs : ∀ x ∈ e.gs, e.env.kindOf x = some .globalImplicit ∧ (x == ("__debug__" : Str)) = false
noncomputable abbrev Loc := List (Option AV)
noncomputable def LocR (ρ : List Addr) (h : Heap) (m : Str → Option Value) : List Str → Loc → Prop
 | x :: xs, some a :: r => (∃ v, m x = some v ∧ VR ρ h a v) ∧ LocR ρ h m xs r
 | _ :: xs, none :: r => LocR ρ h m xs r
 | _, _ => True
inductive LkAt : List Str → Loc → Str → AV → Prop
 | here {x : Str} {xs : List Str} {a : AV} {r : Loc} : LkAt (x :: xs) (some a :: r) x a
 | there {x y : Str} {xs : List Str} {a : AV} {o : Option AV} {r : Loc} : LkAt xs r x a → LkAt (y :: xs) (o :: r) x a
inductive StAt : List Str → Loc → Str → AV → Loc → Prop
 | here {x : Str} {xs : List Str} {a : AV} {o : Option AV} {r : Loc} : StAt (x :: xs) (o :: r) x a (some a :: r)
 | there {x y : Str} {xs : List Str} {a : AV} {o : Option AV} {r r' : Loc} : StAt xs r x a r' → StAt (y :: xs) (o :: r) x a (o :: r')
theorem LkAt.get {ρ : List Addr} {h : Heap} {m : Str → Option Value} {ls : List Str} {loc : Loc} {x : Str} {a : AV} (k : LkAt ls loc x a) (r : LocR ρ h m ls loc) : x ∈ ls ∧ ∃ v, m x = some v ∧ VR ρ h a v := by
 induction k with
 | here => exact ⟨.head _, r.1⟩
 | @there x y xs a o l k ih => cases o with
  | none => exact ⟨.tail _ (ih r).1, (ih r).2⟩
  | some _ => exact ⟨.tail _ (ih r.2).1, (ih r.2).2⟩
theorem StAt.mem {ls : List Str} {loc loc' : Loc} {x : Str} {a : AV} (k : StAt ls loc x a loc') : x ∈ ls := by
 induction k with
 | here => exact .head _
 | there _ ih => exact .tail _ ih
theorem LocR.cong {ρ : List Addr} {h : Heap} {m m' : Str → Option Value} : ∀ {ls : List Str} {loc : Loc}, LocR ρ h m ls loc → (∀ y ∈ ls, m' y = m y) → LocR ρ h m' ls loc
 | x :: xs, some a :: r, ⟨⟨v, e, q⟩, z⟩, k => ⟨(y_ea v ((k x (.head _)).trans e) q), LocR.cong z fun y hy => k y (.tail _ hy)⟩
 | x :: xs, none :: r, z, k => LocR.cong (ls := xs) (loc := r) z fun y hy => k y (.tail _ hy)
 | [], _, _, _ => by delta LocR; trivial
 | _ :: _, [], _, _ => by delta LocR; trivial
theorem LocR.imp {ρ ρ' : List Addr} {h h' : Heap} {m : Str → Option Value} (f : ∀ a v, VR ρ h a v → VR ρ' h' a v) : ∀ {ls : List Str} {loc : Loc}, LocR ρ h m ls loc → LocR ρ' h' m ls loc
 | x :: xs, some a :: r, ⟨⟨v, e, q⟩, z⟩ => ⟨(y_ea v e (f _ _ q)), LocR.imp f z⟩
 | x :: xs, none :: r, z => LocR.imp (ls := xs) (loc := r) f z
 | [], _, _ => by delta LocR; trivial
 | _ :: _, [], _ => by delta LocR; trivial
theorem StAt.set {ρ : List Addr} {h : Heap} {m : Str → Option Value} {v : Value} {ls : List Str} {loc loc' : Loc} {x : Str} {a : AV} (k : StAt ls loc x a loc') (nd : ls.Nodup) (r : LocR ρ h m ls loc) (hv : VR ρ h a v) :
  LocR ρ h (fun y => if y = x then some v else m y) ls loc' := by
 induction k with
 | @here x xs a o l =>
  refine ⟨(y_ea v (if_pos rfl) hv), ?_⟩
  have r' : LocR ρ h m xs l := by cases o with
   | none => exact r
   | some _ => exact r.2
  exact r'.cong fun y hy => if_neg fun (z : y = x) => (List.nodup_cons.mp nd).1 (by subst z; exact hy)
 | @there x y xs a o l l' k ih =>
  have nd' := List.nodup_cons.mp nd
  have hne : y ≠ x := fun z => nd'.1 (by subst z; exact k.mem)
  cases o with
  | none => exact ih nd'.2 r hv
  | some b => exact ⟨by obtain ⟨⟨u, e, q⟩, ω⟩ := r; exact (y_ea u ((if_neg hne).trans e) q), ih nd'.2 r.2 hv⟩
structure FR (c : CX) (e : EF) (loc : Loc) (os : List AO) (ρ : List Addr) (s : Shared) : Prop where
 hr : c.HR ρ os s
 ok : e.Ok
 ns : ∃ m, s.heap.Ns e.env.locals m ∧ LocR ρ s.heap m e.ls loc
 out : e.env.locals ∉ ρ
 new : c.B.heap.objs.size ≤ e.env.locals
noncomputable abbrev NoE : Value → Shared → Prop := fun ω ω => False
inductive Post (c : CX) (ρ : List Addr) (s : Shared) (K : AV → List AO → Prop) (v : Value) (s' : Shared) : Prop
 | mk (av : AV) (os' : List AO) (ρ' : List Addr) (k : K av os') (H : c.HR ρ' os' s') (E : Ext c.tabs [] ρ s ρ' s') (r : VR ρ' s'.heap av v)
theorem Post.mono {c : CX} {ρ : List Addr} {s : Shared} {K K' : AV → List AO → Prop} (h : ∀ av os, K av os → K' av os) {v : Value} {s' : Shared} (x : Post c ρ s K v s') : Post c ρ s K' v s' :=
 let ⟨av, os', ρ', k, H, E, r⟩ := x; ⟨av, os', ρ', h _ _ k, H, E, r⟩
theorem Post.from {c : CX} {ρ ρ' : List Addr} {s s' : Shared} {K : AV → List AO → Prop} (E : Ext c.tabs [] ρ s ρ' s') {v : Value} {s'' : Shared} (x : Post c ρ' s' K v s'') : Post c ρ s K v s'' :=
 let ⟨av, os', ρ'', k, h, F, r⟩ := x; ⟨av, os', ρ'', k, h, E.trans F, r⟩
theorem qi {c : CX} {A : Around} {ρ : List Addr} {s s0 : Shared} {t : Sem Value} {K1 : AV → List AO → Prop} {Q : Value → Shared → Prop} {E : Value → Shared → Prop} (h : wpAny (MM c.w) A t (Post c ρ s K1) NoE s0)
  (g : ∀ v s1 a os1 ρ1, K1 a os1 → c.HR ρ1 os1 s1 → Ext c.tabs [] ρ s ρ1 s1 → VR ρ1 s1.heap a v → Q v s1) : wpAny (MM c.w) A t Q E s0 :=
 wpAny_mono h (fun v s1 y => by cases y with | mk a os1 ρ1 k H E r => exact g v s1 a os1 ρ1 k H E r) fun ω ω z => z.elim
theorem FR.ext {c : CX} {e : EF} {loc : Loc} {os os' : List AO} {ρ ρ' : List Addr} {s s' : Shared} (F : FR c e loc os ρ s) (E : Ext c.tabs [] ρ s ρ' s') (H : c.HR ρ' os' s') : FR c e loc os' ρ' s' := by
 refine x_ea F.ns fun m hn hm => ?_
 have nt : e.env.locals ∉ qi5 c.tabs := fun q => by
  refine x_ea (List.mem_map.mp q) fun t ht e' => ?_
  exact absurd (H.gi.tab t ht).low.2 (by rw [e']; exact Nat.not_lt.mpr F.new)
 have k := fun o ho => E.keep e.env.locals o ho F.out (fun z => nomatch z) nt
 refine wf (id hn) fun o es ep ho r => ?_
 have hn' : s'.heap.Ns e.env.locals m := by
  rcases k _ ho with q | ⟨_, sl, q⟩
  ·exact ⟨o, es, ep, q, r⟩
  ·exact ⟨_, es, ep, q, r⟩
 refine ⟨H, F.ok, (y_ea m hn' (hm.imp fun a v => F.hr.vr E)), fun q => ?_, F.new⟩
 exact absurd (Heap.lt_size ho) (Nat.not_lt.mpr (E.new _ q F.out))
noncomputable def EV (c : CX) (n : Nat) (e : EF) (loc : Loc) (os : List AO) (x : Expr) (K : AV → List AO → Prop) : Prop :=
 ∀ A, AR A n → ∀ ρ s, FR c e loc os ρ s → wpAny (MM c.w) A (eval x e.env) (Post c ρ s K) NoE s
noncomputable def TV1 (c : CX) (n : Nat) (t : Value → Sem Value) (a : AV) (os : List AO) (K : AV → List AO → Prop) : Prop :=
 ∀ A, AR A n → ∀ ρ s v, c.HR ρ os s → VR ρ s.heap a v → wpAny (MM c.w) A (t v) (Post c ρ s K) NoE s
noncomputable def TV2 (c : CX) (n : Nat) (t : Value → Value → Sem Value) (a b : AV) (os : List AO) (K : AV → List AO → Prop) : Prop :=
 ∀ A, AR A n → ∀ ρ s v u, c.HR ρ os s → VR ρ s.heap a v → VR ρ s.heap b u → wpAny (MM c.w) A (t v u) (Post c ρ s K) NoE s
noncomputable def CS (c : CX) (n : Nat) (f : AV) (args : List AV) (os : List AO) (K : AV → List AO → Prop) : Prop :=
 ∀ A, AR A n → ∀ ρ s v vs, c.HR ρ os s → VR ρ s.heap f v → VRs ρ s.heap args vs → wpAny (MM c.w) A (call v vs []) (Post c ρ s K) NoE s
noncomputable def CG (c : CX) (n : Nat) (f : Value) (args : List AV) (os : List AO) (K : AV → List AO → Prop) : Prop :=
 ∀ A, AR A n → ∀ ρ s vs, c.HR ρ os s → VRs ρ s.heap args vs → wpAny (MM c.w) A (call f vs []) (Post c ρ s K) NoE s
inductive PostB (c : CX) (ρ : List Addr) (s : Shared) (K : Bool → List AO → Prop) (b : Bool) (s' : Shared) : Prop
 | mk (os' : List AO) (ρ' : List Addr) (k : K b os') (H : c.HR ρ' os' s') (E : Ext c.tabs [] ρ s ρ' s')
noncomputable def TB1 (c : CX) (n : Nat) (t : Value → Sem Bool) (a : AV) (os : List AO) (K : Bool → List AO → Prop) : Prop :=
 ∀ A, AR A n → ∀ ρ s v, c.HR ρ os s → VR ρ s.heap a v → wpAny (MM c.w) A (t v) (PostB c ρ s K) NoE s
noncomputable def EB (c : CX) (n : Nat) (e : EF) (loc : Loc) (os : List AO) (x : Expr) (K : Bool → List AO → Prop) : Prop :=
 ∀ A, AR A n → ∀ ρ s, FR c e loc os ρ s → wpAny (MM c.w) A (isTrue x e.env (eval x e.env)) (PostB c ρ s K) NoE s
theorem yh {c : CX} {A : Around} {ρ : List Addr} {s s0 : Shared} {t : Sem Bool} {K1 : Bool → List AO → Prop} {Q : Bool → Shared → Prop} {E : Value → Shared → Prop} (h : wpAny (MM c.w) A t (PostB c ρ s K1) NoE s0)
  (g : ∀ v s1 os1 ρ1, K1 v os1 → c.HR ρ1 os1 s1 → Ext c.tabs [] ρ s ρ1 s1 → Q v s1) : wpAny (MM c.w) A t Q E s0 :=
 wpAny_mono h (fun v s1 y => by cases y with | mk os1 ρ1 k H E => exact g v s1 os1 ρ1 k H E) fun ω ω z => z.elim
theorem PostB.from {c : CX} {ρ ρ' : List Addr} {s s' : Shared} {K : Bool → List AO → Prop} (E : Ext c.tabs [] ρ s ρ' s') {v : Bool} {s'' : Shared} (x : PostB c ρ' s' K v s'') : PostB c ρ s K v s'' :=
 let ⟨os', ρ'', k, h, F⟩ := x; ⟨os', ρ'', k, h, E.trans F⟩
theorem PostB.mono {c : CX} {ρ : List Addr} {s : Shared} {K K' : Bool → List AO → Prop} (h : ∀ b os, K b os → K' b os) {v : Bool} {s' : Shared} (x : PostB c ρ s K v s') : PostB c ρ s K' v s' :=
 let ⟨os', ρ', k, H, E⟩ := x; ⟨os', ρ', h _ _ k, H, E⟩
section
variable {c : CX} {n : Nat} {e : EF} {loc : Loc} {os : List AO} {K : AV → List AO → Prop}
theorem EV.mono {K' : AV → List AO → Prop} {x : Expr} (h : EV c n e loc os x K) (hk : ∀ av os, K av os → K' av os) : EV c n e loc os x K' :=
 fun A hA ρ s F => wpAny_mono (h A hA ρ s F) (fun v s' => Post.mono hk) fun ω ω z => z
theorem CS.of_glob {f : Value} {args : List AV} (h : CG c n f args os K) : CS c n (.glob f) args os K :=
 fun A hA ρ s v vs H hv V => by rw [show v = f from hv]; exact h A hA ρ s vs H V
theorem Post.ret {ρ : List Addr} {s : Shared} {av : AV} {v : Value} (tk : Nat) (ht : s.toks ≤ tk) (H : c.HR ρ os s) (k : K av os) (r : VR ρ s.heap av v) : Post c ρ s K v { s with toks := tk } :=
 ⟨av, os, ρ, k, H.toks tk ht, Ext.toks .., r⟩
theorem Post.now {ρ : List Addr} {s : Shared} {av : AV} {v : Value} (H : c.HR ρ os s) (k : K av os) (r : VR ρ s.heap av v) : Post c ρ s K v s :=
 ⟨av, os, ρ, k, H, Ext.refl .., r⟩
theorem qur {i : Int} {kk : Nat} {p : Pos} (h : K (.int i) os) : EV c n e loc os (.Constant (.int i) kk p) K :=
 fun A hA ρ s F => wpAny_Constant_int (Post.ret _ (Nat.le_succ _) F.hr h ⟨_, rfl⟩)
theorem qus {x : Str} {kk : Nat} {p : Pos} (h : K (.str x) os) : EV c n e loc os (.Constant (.str x) kk p) K :=
 fun A hA ρ s F => Constant_str (Post.ret _ (Nat.le_succ _) F.hr h ⟨_, rfl⟩)
theorem qs6 {kk : Nat} {p : Pos} (h : K .none os) : EV c n e loc os (.Constant .none kk p) K :=
 fun A hA ρ s F => wpAny_pure (Post.now F.hr h rfl)
theorem qs4 {b : Bool} {kk : Nat} {p : Pos} (h : K (.bool b) os) : EV c n e loc os (.Constant (.bool b) kk p) K :=
 fun A hA ρ s F => wpAny_pure (Post.now F.hr h rfl)
theorem zv {x : Str} {p : Pos} {av : AV} (hx : LkAt e.ls loc x av) (h : K av os) : EV c n e loc os (.Name x p) K := fun A hA ρ s F => by
 refine x_ea F.ns fun m hn hm => ?_
 obtain ⟨hl, v, hv, r⟩ := hx.get hm
 exact wpAny_Name (wpAny_loadName_local F.ok.kind (F.ok.ls x hl).1 hn hv (Post.now F.hr h r)) (F.ok.ls x hl).2
theorem qmg {x : Str} {p : Pos} {y : Str} {t : Tok} (hx : LkAt e.ls loc x (.strT y t)) (h : K (.str y) os) : EV c n e loc os (.Name x p) K := fun A hA ρ s F => by
 refine x_ea F.ns fun m hn hm => ?_
 obtain ⟨hl, v, hv, r⟩ := hx.get hm
 exact wpAny_Name (wpAny_loadName_local F.ok.kind (F.ok.ls x hl).1 hn hv (Post.now F.hr h ⟨t, r⟩)) (F.ok.ls x hl).2
theorem qiq {env : Env} {x : Str} (hf : env.scope.kind = .function) (hk : env.kindOf x = some .globalImplicit) : loadName env x = loadGlobal env x := by
 delta loadName Env.blockKind; rw [hf, hk]; rfl
theorem qs5 (C : c.Ok) {x : Str} {p : Pos} {v : Value} (hg : x ∈ e.gs) (hx : (x, v) ∈ c.gt) (h : K (.glob v) os) : EV c n e loc os (.Name x p) K := fun A hA ρ s F => by
 obtain ⟨hk, hd⟩ := F.ok.gs x hg
 refine qc C.glob fun mg mb h1 h2 h3 => ?_
 have h1' := (qdi F.hr.gi h1).ns
 have h2' := (qdi F.hr.gi h2).ns
 refine wpAny_Name ?_ hd
 rw [qiq F.ok.kind hk]
 delta loadGlobal
 rw [F.ok.glob, F.ok.blt]
 have fin : Post c ρ s K v s := Post.now F.hr h rfl
 refine wpAny_bind (wpAny_nsGet h1' ?_)
 rcases h3 x v hx with q | ⟨q, q'⟩
 ·rw [q]; exact wpAny_pure fin
 ·rw [q]
  refine wpAny_bind (wpAny_nsGet h2' ?_)
  rw [q']; exact wpAny_pure fin
@[reducible] noncomputable def kT1 (c : CX) (n : Nat) (f : Value → Sem Value) (K : AV → List AO → Prop) : AV → List AO → Prop := fun a os1 => TV1 c n f a os1 K
@[reducible] noncomputable def kT2 (c : CX) (n : Nat) (f : Value → Value → Sem Value) (K : AV → List AO → Prop) (a : AV) : AV → List AO → Prop := fun b os2 => TV2 c n f a b os2 K
@[reducible] noncomputable def kR (c : CX) (n : Nat) (e : EF) (loc : Loc) (r : Expr) (T : AV → AV → List AO → Prop) : AV → List AO → Prop := fun a os1 => EV c n e loc os1 r (T a)
theorem qp6 {l r : Expr} {op : Operator} {p : Pos} (h : EV c n e loc os l (kR c n e loc r (kT2 c n (binaryOp op) K))) : EV c n e loc os (.BinOp l op r p) K := fun A hA ρ s F => by
 refine wpAny_BinOp (qi (h A hA ρ s F) fun va s1 a os1 ρ1 k1 H1 E1 r1 => ?_)
 refine qi (k1 A hA ρ1 s1 (F.ext E1 H1)) fun vb s2 b os2 ρ2 k2 H2 E2 r2 => ?_
 exact wpAny_mono (k2 A hA ρ2 s2 va vb H2 (H1.vr E2 r1) r2) (fun v s3 y => Post.from (E1.trans E2) y) fun ω ω z => z
theorem qku {x : Expr} {op : UnaryOp} {p : Pos} (h : EV c n e loc os x (kT1 c n (unaryOp op) K)) : EV c n e loc os (.UnaryOp op x p) K := fun A hA ρ s F => by
 refine wpAny_UnaryOp (qi (h A hA ρ s F) fun va s1 a os1 ρ1 k1 H1 E1 r1 => ?_)
 exact wpAny_mono (k1 A hA ρ1 s1 va H1 r1) (fun v s3 y => Post.from E1 y) fun ω ω z => z
theorem qkt {l r : Expr} {op : CmpOp} {p : Pos} (hm : behindInMarks op r = false) (h : EV c n e loc os l (kR c n e loc r (kT2 c n (compareOp op) K))) : EV c n e loc os (.Compare l [op] [r] p) K := fun A hA ρ s F => by
 show wpAny _ A (do compareChain p (← eval l e.env) [op] (markedEach [op] [r] (evalEach [r] e.env))) _ _ s
 have q : markedEach [op] [r] (evalEach [r] e.env) = [eval r e.env] := by
  show [markedBehindIn op r (eval r e.env)] = _
  delta markedBehindIn; rw [hm]
 rw [q]
 refine wpAny_bind (qi (h A hA ρ s F) fun va s1 a os1 ρ1 k1 H1 E1 r1 => ?_)
 show wpAny _ A (do let rv ← holding [va] (eval r e.env); standAt p; operate [va, rv] (compareOp op va rv)) _ _ s1
 refine wpAny_bind (wpAny_holding (qi (k1 A hA ρ1 s1 (F.ext E1 H1)) fun vb s2 b os2 ρ2 k2 H2 E2 r2 => ?_))
 exact wpAny_bind (wpAny_standAt (wpAny_operating (wpAny_mono (k2 A hA ρ2 s2 va vb H2 (H1.vr E2 r1) r2) (fun v s3 y => Post.from (E1.trans E2) y) fun ω ω z => z)))
end
end Mine
end
section
open PySem PySem.W PyProof.Rows PySem.Calls PySem.Spec
namespace Mine
inductive quv (c : CX) (ρ : List Addr) (s : Shared) (K : List AV → List AO → Prop) (vs : List Value) (s' : Shared) : Prop
 | mk (avs : List AV) (os' : List AO) (ρ' : List Addr) (k : K avs os') (H : c.HR ρ' os' s') (E : Ext c.tabs [] ρ s ρ' s') (r : VRs ρ' s'.heap avs vs)
theorem vh {c : CX} {A : Around} {ρ : List Addr} {s s0 : Shared} {t : Sem (List Value)} {K1 : List AV → List AO → Prop} {Q : List Value → Shared → Prop} {E : Value → Shared → Prop} (h : wpAny (MM c.w) A t (quv c ρ s K1) NoE s0)
  (g : ∀ v s1 a os1 ρ1, K1 a os1 → c.HR ρ1 os1 s1 → Ext c.tabs [] ρ s ρ1 s1 → VRs ρ1 s1.heap a v → Q v s1) : wpAny (MM c.w) A t Q E s0 :=
 wpAny_mono h (fun v s1 y => by cases y with | mk a os1 ρ1 k H E r => exact g v s1 a os1 ρ1 k H E r) fun ω ω z => z.elim
noncomputable def EVs (c : CX) (n : Nat) (e : EF) (loc : Loc) (os : List AO) (xs : List Expr) (K : List AV → List AO → Prop) : Prop :=
 ∀ A, AR A n → ∀ p ρ s, FR c e loc os ρ s → wpAny (MM c.w) A (spliced (backTo p (starEach xs e.env))) (quv c ρ s K) NoE s
noncomputable def Kp (c : CX) (f : AV) : Prop := ∀ os ρ s v, c.HR ρ os s → VR ρ s.heap f v → ∃ k, ∀ A Q E, Q k s → wpAny (MM c.w) A (keeperOf v) Q E s
noncomputable def je (c : CX) (os : List AO) (a : AV) (name : Str) (f : Value) : Prop :=
 ∀ A pl ρ s v (Q : Value × List Value → Shared → Prop) E, c.HR ρ os s → VR ρ s.heap a v → (∀ tk, s.toks ≤ tk → Q (f, [v]) { s with toks := tk }) → wpAny (MM c.w) A (getMethod v name pl) Q E s
section
variable {c : CX} {n : Nat} {e : EF} {loc : Loc} {os : List AO} {K : AV → List AO → Prop}
theorem Kp.builtin {id : String} : Kp c (.glob (.builtin id)) := fun os ρ s v ω e => ⟨.machine, fun A Q E h => by rw [show v = .builtin id from e]; exact wpAny_pure h⟩
theorem Kp.type {T : String} : Kp c (.glob (.type T)) := fun os ρ s v ω e => ⟨.machine, fun A Q E h => by rw [show v = .type T from e]; exact wpAny_pure h⟩
theorem Kp.glob (C : c.Ok) {a : Addr} (hk : keepIn c.K (.ref a) = true) : Kp c (.glob (.ref a)) := fun os ρ s v H e => by
 rw [show v = .ref a from e]
 refine x_ea (looks_keep (M := MM c.w) hk (gi_k H.gi C)) fun k ω L => ?_
 exact ⟨k, fun A Q E h => L.here h⟩
theorem Kp.bm {id : String} {x : AV} : Kp c (.bm id x) := fun os ρ s v H e => by
 refine qc e fun a u z26y ho ω => ?_; clear e; subst z26y
 refine ⟨.machine, fun A Q E h => ?_⟩
 unfold keeperOf
 refine wpAny_bind (wpAny_load ho ?_)
 exact wpAny_pure h
theorem GI.toks {s : Shared} (G : c.GI s) (tk : Nat) (ht : s.toks ≤ tk) : c.GI { s with toks := tk } := G.keeps (h' := s.heap) G.bare ht (fun ω ω e => e) (Nat.le_refl _)
theorem cw {A : Around} {p : Pos} {f : Value} {first : List Value} {args : List (Bool × Sem Value)} {Q : Value → Shared → Prop} {E : Value → Shared → Prop} {s : Shared} (hp : args.all (!·.1) = true)
  (h : wpAny (MM c.w) A (spliced args) (fun vs s₁ => (∃ k, ∀ A Q E, Q k s₁ → wpAny (MM c.w) A (keeperOf f) Q E s₁) ∧ wpAny (MM c.w) A (call f (first ++ vs) []) Q E s₁) E s) :
  wpAny (MM c.w) A (callWith p f first args []) Q E s := by
 have hplain : (args.any (·.1)) = false := by
  rw [List.any_eq_false]; intro x hx q
  have := List.all_eq_true.mp hp x hx
  simp [q] at this
 have ea : wpAny (MM c.w) A (evalArgs f true args []) (fun a s₁ => (∃ k, ∀ A Q E, Q k s₁ → wpAny (MM c.w) A (keeperOf f) Q E s₁) ∧ wpAny (MM c.w) A (call f (first ++ a.pos) a.kw) Q E s₁) E s := by
  cases args with
  | nil =>
   unfold evalArgs
   show wpAny (MM c.w) A (spliced [] >>= _) _ _ s
   refine wpAny_bind (wpAny_mono h (fun vs s' h' => ?_) fun ω ω x => x)
   refine wpAny_holding ?_
   exact wpAny_bind (wpAny_pure (wpAny_bind (wpAny_pure (wpAny_pure h'))))
  | cons x rest =>
   obtain ⟨st, x⟩ := x
   simp at hp
   obtain ⟨rfl, hp⟩ := hp
   exact evalArgs_plain h
 unfold callWith
 refine wpAny_bind (wpAny_holding (wpAny_mono ea (fun a s₁ h₁ => wpAny_bind (wpAny_standAt ?_)) fun ω ω x => x))
 obtain ⟨⟨k, L⟩, hc⟩ := h₁
 rw [hplain, show ∀ f : (Option Str × Sem Value) → Bool, (false || List.any [] f) = false from fun ω => rfl]
 refine wpAny_bind (L A _ _ ?_)
 have tail : ∀ {t : Sem Value}, wpAny (MM c.w) A t Q E s₁ → wpAny (MM c.w) A (t >>= fun r => holding [r] point >>= fun ω => pure r) Q E s₁ :=
  fun ht => wpAny_bind (wpAny_mono ht (fun r s₂ hr => wpAny_bind (wpAny_holding (wpAny_point (wpAny_pure hr)))) fun ω ω x => x)
 have marked (mk : Value) : wpAny (MM c.w) A (callMarked mk f (first ++ a.pos) a.kw) Q E s₁ := by unfold callMarked; exact Calls.wpAny_keep hc
 cases k <;> dsimp only <;> first | exact tail hc | exact tail (wpAny_operating hc) | (split <;> first | exact tail hc | exact tail (marked _))
theorem qds {K : List AV → List AO → Prop} (h : K [] os) : EVs c n e loc os [] K := fun A hA p ρ s F =>
 wpAny_pure ⟨[], os, ρ, h, F.hr, Ext.refl .., rfl⟩
@[reducible] noncomputable def kC (K : List AV → List AO → Prop) (a : AV) : List AV → List AO → Prop := fun as os2 => K (a :: as) os2
@[reducible] noncomputable def kV (c : CX) (n : Nat) (e : EF) (loc : Loc) (xs : List Expr) (G : AV → List AV → List AO → Prop) : AV → List AO → Prop := fun a os1 => EVs c n e loc os1 xs (G a)
@[reducible] noncomputable def kF (c : CX) (n : Nat) (K : AV → List AO → Prop) (fa : AV) : List AV → List AO → Prop := fun as os2 => Kp c fa ∧ CS c n fa as os2 K
@[reducible] noncomputable def kG (c : CX) (n : Nat) (K : AV → List AO → Prop) (a : AV) (f : Value) : List AV → List AO → Prop := fun as os2 => Kp c (.glob f) ∧ CG c n f (a :: as) os2 K
@[reducible] noncomputable def kM (c : CX) (n : Nat) (e : EF) (loc : Loc) (name : Str) (args : List Expr) (K : AV → List AO → Prop) : AV → List AO → Prop := fun a os1 => ∃ f, je c os1 a name f ∧ EVs c n e loc os1 args (kG c n K a f)
@[reducible] noncomputable def kTb (c : CX) (n : Nat) (K : Bool → List AO → Prop) : AV → List AO → Prop := fun a os1 => TB1 c n truthy a os1 K
@[reducible] noncomputable def kN (K : Bool → List AO → Prop) : Bool → List AO → Prop := fun b os1 => K (!b) os1
@[reducible] noncomputable def kB (K : Bool → List AO → Prop) : AV → List AO → Prop := fun v os3 => ∃ b, v = .bool b ∧ K b os3
@[reducible] noncomputable def kIe (c : CX) (n : Nat) (e : EF) (loc : Loc) (a b : Expr) (K : AV → List AO → Prop) : Bool → List AO → Prop := fun r os1 => (r = true → EV c n e loc os1 a K) ∧ (r = false → EV c n e loc os1 b K)
@[reducible] noncomputable def kLs (K : AV → List AO → Prop) : List AV → List AO → Prop := fun as os1 => as.length ≤ sizeLine ∧ K (.ref os1.length) (os1 ++ [.list as])
@[reducible] noncomputable def kLn (K : AV → List AO → Prop) : List AV → List AO → Prop := fun as os1 => as.length ≤ sizeLine ∧ K (.ref os1.length) (os1 ++ [.nlist as])
@[reducible] noncomputable def kTu (K : AV → List AO → Prop) : List AV → List AO → Prop := fun as os1 => as.length ≤ sizeLine ∧ K (.tup as) os1
theorem qjg {K : List AV → List AO → Prop} {x : Expr} {xs : List Expr} (h : EV c n e loc os x (kV c n e loc xs (kC K)))
  (hx : starEach (x :: xs) e.env = (false, eval x e.env) :: starEach xs e.env := by rfl) : EVs c n e loc os (x :: xs) K := fun A hA p ρ s F => by
 rw [hx]
 refine spliced_cons (qi (h A hA ρ s F) fun va s1 a os1 ρ1 k1 H1 E1 r1 => ?_)
 refine vh (k1 A hA p ρ1 s1 (F.ext E1 H1)) fun vs s2 as os2 ρ2 k2 H2 E2 r2 => ?_
 exact ⟨a :: as, os2, ρ2, k2, H2, E1.trans E2, ⟨va, vs, rfl, H1.vr E2 r1, r2⟩⟩
theorem qs3 {f : Expr} {args : List Expr} {p : Pos} (hp : ∀ env, (backTo p (starEach args env)).all (!·.1) = true)
  (h : EV c n e loc os f (kV c n e loc args (kF c n K)))
  (he : ∀ env, eval (.Call f args [] p) env = (do callWith p (← eval f env) [] (backTo p (starEach args env)) (backToKw p (keywordEach [] env))) := by intro ω; rfl) : EV c n e loc os (.Call f args [] p) K := fun A hA ρ s F => by
 refine Call_ (qi (h A hA ρ s F) fun vf s1 fa os1 ρ1 k1 H1 E1 r1 => ?_) (he _)
 have F1 := F.ext E1 H1
 refine cw (hp _) (vh (k1 A hA p ρ1 s1 F1) fun vs s2 as os2 ρ2 z3q H2 E2 r2 => ?_)
 obtain ⟨kk, kc⟩ := z3q
 have r1' := H1.vr E2 r1
 exact ⟨kk os2 ρ2 s2 vf H2 r1', wpAny_mono (kc A hA ρ2 s2 vf vs H2 r1' r2) (fun v s3 y => Post.from (E1.trans E2) y) fun ω ω z => z⟩
theorem qmf {o : Expr} {name : Str} {args : List Expr} {ap p : Pos} (hp : ∀ env, (backTo p (starEach args env)).all (!·.1) = true)
  (h : EV c n e loc os o (kM c n e loc name args K))
  (he : ∀ env, eval (.Call (.Attribute o name ap) args [] p) env = (do
   let ov ← eval o env
   standAt ap.atName
   let (f, first) ← holding [ov] (getMethod ov name (do return (← importBound o env).getD true))
   callWith p f first (backTo p (starEach args env)) (backToKw p (keywordEach [] env))) := by intro ω; rfl) : EV c n e loc os (.Call (.Attribute o name ap) args [] p) K := fun A hA ρ s F => by
 refine methodCall_KW (pl := do return (← importBound o e.env).getD true) (qi (h A hA ρ s F) fun va s1 a os1 ρ1 z3q H1 E1 r1 => ?_) (he e.env)
 refine x_ea z3q fun f m1 k1 => ?_; clear z3q
 refine m1 A _ ρ1 s1 va _ _ H1 r1 fun tk ht => ?_
 have H1' := H1.toks tk ht
 have E1' := E1.trans (Ext.toks c.tabs [] ρ1 s1 tk)
 have F1 := F.ext E1' H1'
 refine cw (hp _) (vh (k1 A hA p ρ1 _ F1) fun vs s2 as os2 ρ2 z3q H2 E2 r2 => ?_)
 obtain ⟨kk, kc⟩ := z3q
 have r1' := H1'.vr E2 r1
 exact ⟨kk os2 ρ2 s2 f H2 rfl, wpAny_mono (kc A hA ρ2 s2 (va :: vs) H2 ⟨va, vs, rfl, r1', r2⟩) (fun v s3 y => Post.from (E1'.trans E2) y) fun ω ω z => z⟩
theorem qs2 {o : Expr} {name : Str} {p : Pos} (h : EV c n e loc os o (kT1 c n (fun v => getAttr v name true) K))
  (he : ∀ env, eval (.Attribute o name p) env = (do
   let ov ← eval o env
   standAt p.atName
   let r ← holding [ov] (getAttr ov name true)
   letTemporaryGo o ov r
   pure r) := by intro ω; with_unfolding_all rfl) : EV c n e loc os (.Attribute o name p) K := fun A hA ρ s F => by
 refine Attribute_any_ (qi (h A hA ρ s F) fun va s1 a os1 ρ1 k1 H1 E1 r1 => ?_) (he _)
 exact wpAny_mono (k1 A hA ρ1 s1 va H1 r1) (fun v s3 y => Post.from E1 y) fun ω ω z => z
theorem quq {o i : Expr} {p : Pos} (h : EV c n e loc os o (kR c n e loc i (kT2 c n (subscriptTail o i) K))) : EV c n e loc os (.Subscript o i p) K := fun A hA ρ s F => by
 refine Subscript_ (qi (h A hA ρ s F) fun va s1 a os1 ρ1 k1 H1 E1 r1 => ?_)
 refine qi (k1 A hA ρ1 s1 (F.ext E1 H1)) fun vb s2 b os2 ρ2 k2 H2 E2 r2 => ?_
 exact wpAny_mono (k2 A hA ρ2 s2 va vb H2 (H1.vr E2 r1) r2) (fun v s3 y => Post.from (E1.trans E2) y) fun ω ω z => z
theorem qf {h : Heap} {ob : Obj} : ∀ b o, h.get? b = some o → (h.push ob).get? b = some o := fun b o e => Heap.get?_push_of_some ob e
theorem qe {h : Heap} {ob : Obj} : h.objs.size ≤ (h.push ob).objs.size := by rw [Heap.size_push]; exact Nat.le_succ _
theorem y0 {ρ ρ' : List Addr} {h h' : Heap} (hp : ρ <+: ρ') (k : ∀ a o, h.get? a = some o → h'.get? a = some o) {xs : List AV} {vs : List Value} (r : VRs ρ h xs vs) (hn : NewIn ρ ρ' h := by first | exact NewIn.refl | exact NewIn.app0 | exact NewIn.app (by assumption)) : VRs ρ' h' xs vs := VRs.impN hp hn (ImmK.all k) xs vs r
theorem qkp {ρ ρ' : List Addr} {h h' : Heap} (hp : ρ <+: ρ') (k : ∀ a o, h.get? a = some o → h'.get? a = some o) {xs : AV} {vs : Value} (r : VR ρ h xs vs) (hn : NewIn ρ ρ' h := by first | exact NewIn.refl | exact NewIn.app0 | exact NewIn.app (by assumption)) : VR ρ' h' xs vs := VR.impN hp hn (ImmK.all k) xs vs r
theorem j7 {xs : List Expr} {p : Pos} (h : EVs c n e loc os xs (kLs K)) : EV c n e loc os (.List xs p) K := fun A hA ρ s F => by
 refine wpAny_List_spliced (vh (h A hA p ρ s F) fun vs s1 as os1 ρ1 z3q H1 E1 r1 => ?_)
 obtain ⟨hl, k1⟩ := z3q
 refine ⟨by rw [r1.length]; exact hl, ?_⟩
 have kp := qf (h := s1.heap) (ob := ux vs 0)
 exact ⟨_, _, ρ1 ++ [s1.heap.objs.size], k1, H1.alloc (d := s1.drawn) (tk := s1.toks) H1.gi.bare (Nat.le_refl _) kp qe (Nat.le_refl _) ⟨vs, ⟨0, Heap.get?_push_size _ rfl⟩, y0 (List.prefix_append _ _) kp r1⟩,
  E1.trans (Ext.alloc kp qe (Nat.le_refl _)), s1.heap.objs.size, by rw [← H1.len]; exact List.getElem?_concat_length, rfl⟩
theorem qjf {xs : List Expr} {p : Pos} (h : EVs c n e loc os xs (kLn K)) : EV c n e loc os (.List xs p) K := fun A hA ρ s F => by
 refine wpAny_List_spliced (vh (h A hA p ρ s F) fun vs s1 as os1 ρ1 z3q H1 E1 r1 => ?_)
 obtain ⟨hl, k1⟩ := z3q
 refine ⟨by rw [r1.length]; exact hl, ?_⟩
 have kp := qf (h := s1.heap) (ob := ux vs 0)
 exact ⟨_, _, ρ1 ++ [s1.heap.objs.size], k1, H1.alloc (d := s1.drawn) (tk := s1.toks) H1.gi.bare (Nat.le_refl _) kp qe (Nat.le_refl _) ⟨vs, Heap.get?_push_size _ rfl, y0 (List.prefix_append _ _) kp r1⟩,
  E1.trans (Ext.alloc kp qe (Nat.le_refl _)), s1.heap.objs.size, by rw [← H1.len]; exact List.getElem?_concat_length, rfl⟩
theorem zu {xs : List Expr} {x1} {p : Pos} (h : EVs c n e loc os xs (kTu K)) : EV c n e loc os (.Tuple xs x1 p) K := fun A hA ρ s F => by
 refine wpAny_Tuple_spliced (vh (h A hA p ρ s F) fun vs s1 as os1 ρ1 z3q H1 E1 r1 => ?_)
 obtain ⟨hl, k1⟩ := z3q
 refine ⟨by rw [r1.length]; exact hl, ?_⟩
 have kp := qf (h := s1.heap) (ob := xn vs)
 exact ⟨_, _, ρ1, k1, H1.keeps (d := s1.drawn) (tk := s1.toks) H1.gi.bare (Nat.le_refl _) kp qe, E1.trans (Ext.keeps kp qe), s1.heap.objs.size, vs, rfl, Heap.get?_push_size _ rfl, (fun q => absurd (H1.lt q) (Nat.lt_irrefl _)), y0 (List.prefix_refl _) kp r1⟩
theorem zt {x : Expr} {K : Bool → List AO → Prop} (h : EV c n e loc os x (kTb c n K))
  (he : ∀ env whole, isTrue x env whole = (do let v ← whole; standAt x.pos; holding [v] (truthy v)) := by intros; rfl) : EB c n e loc os x K := fun A hA ρ s F => by
 refine wpAny_isTrue_value (qi (h A hA ρ s F) fun va s1 a os1 ρ1 k1 H1 E1 r1 => ?_) (he _ _)
 exact wpAny_mono (k1 A hA ρ1 s1 va H1 r1) (fun v s3 y => PostB.from E1 y) fun ω ω z => z
theorem quo {x : Expr} {p : Pos} {K : Bool → List AO → Prop} (h : EB c n e loc os x (kN K)) : EB c n e loc os (.UnaryOp .Not x p) K := fun A hA ρ s F => by
 refine wpAny_isTrue_Not (yh (h A hA ρ s F) fun b s1 os1 ρ1 k1 H1 E1 => ?_)
 exact ⟨os1, ρ1, k1, H1, E1⟩
theorem qkr {l r : Expr} {op : CmpOp} {p : Pos} {K : Bool → List AO → Prop} (hm : behindInMarks op r = false)
  (h : EV c n e loc os l (kR c n e loc r (kT2 c n (compareOp op) (kB K)))) : EB c n e loc os (.Compare l [op] [r] p) K := fun A hA ρ s F => by
 refine wpAny_isTrue_Compare1 (qi (h A hA ρ s F) fun va s1 a os1 ρ1 k1 H1 E1 r1 => ?_) hm
 refine qi (k1 A hA ρ1 s1 (F.ext E1 H1)) fun vb s2 b os2 ρ2 k2 H2 E2 r2 => ?_
 refine qi (k2 A hA ρ2 s2 va vb H2 (H1.vr E2 r1) r2) fun v s3 z0q os3 ρ3 z3q H3 E3 r3 => ?_
 refine x_ea z3q fun b z23y k3 => ?_; clear z3q; subst z23y
 rw [show v = .bool b from r3]
 exact wpAny_truthy_bool ⟨os3, ρ3, k3, H3, (E1.trans E2).trans E3⟩
noncomputable def EBs (c : CX) (n : Nat) (e : EF) (loc : Loc) (os : List AO) (op : BoolOp) (xs : List Expr) (K : Bool → List AO → Prop) : Prop :=
 ∀ A, AR A n → ∀ ρ s, FR c e loc os ρ s → wpAny (MM c.w) A (allTrue op xs e.env) (PostB c ρ s K) NoE s
theorem qme {op : BoolOp} {xs : List Expr} {p : Pos} {K : Bool → List AO → Prop} (h : EBs c n e loc os op xs K) : EB c n e loc os (.BoolOp op xs p) K := fun A hA ρ s F => wpAny_isTrue_BoolOp (h A hA ρ s F)
theorem qhw {K : Bool → List AO → Prop} (h : K true os) : EBs c n e loc os .And [] K := fun A hA ρ s F => wpAny_allTrue_And_nil ⟨os, ρ, h, F.hr, Ext.refl ..⟩
theorem qks {K : Bool → List AO → Prop} (h : K false os) : EBs c n e loc os .Or [] K := fun A hA ρ s F => wpAny_allTrue_Or_nil ⟨os, ρ, h, F.hr, Ext.refl ..⟩
@[reducible] noncomputable def kAnd (c : CX) (n : Nat) (e : EF) (loc : Loc) (xs : List Expr) (K : Bool → List AO → Prop) : Bool → List AO → Prop := fun b os1 => (b = true → EBs c n e loc os1 .And xs K) ∧ (b = false → K false os1)
@[reducible] noncomputable def kOr (c : CX) (n : Nat) (e : EF) (loc : Loc) (xs : List Expr) (K : Bool → List AO → Prop) : Bool → List AO → Prop := fun b os1 => (b = false → EBs c n e loc os1 .Or xs K) ∧ (b = true → K true os1)
theorem qfr {x : Expr} {xs : List Expr} {K : Bool → List AO → Prop} (h : EB c n e loc os x (kAnd c n e loc xs K)) : EBs c n e loc os .And (x :: xs) K := fun A hA ρ s F => by
 refine wpAny_allTrue_And_cons (yh (h A hA ρ s F) fun b s1 os1 ρ1 z2q H1 E1 => ?_)
 obtain ⟨k1, k2⟩ := z2q
 cases b with
 | false => exact ⟨os1, ρ1, k2 rfl, H1, E1⟩
 | true => exact wpAny_mono (k1 rfl A hA ρ1 s1 (F.ext E1 H1)) (fun v s3 y => PostB.from E1 y) fun ω ω z => z
theorem qhx {x : Expr} {xs : List Expr} {K : Bool → List AO → Prop} (h : EB c n e loc os x (kOr c n e loc xs K)) : EBs c n e loc os .Or (x :: xs) K := fun A hA ρ s F => by
 refine wpAny_allTrue_Or_cons (yh (h A hA ρ s F) fun b s1 os1 ρ1 z2q H1 E1 => ?_)
 obtain ⟨k1, k2⟩ := z2q
 cases b with
 | true => exact ⟨os1, ρ1, k2 rfl, H1, E1⟩
 | false => exact wpAny_mono (k1 rfl A hA ρ1 s1 (F.ext E1 H1)) (fun v s3 y => PostB.from E1 y) fun ω ω z => z
theorem qp7 {t a b : Expr} {p : Pos} (h : EB c n e loc os t (kIe c n e loc a b K)) : EV c n e loc os (.IfExp t a b p) K := fun A hA ρ s F => by
 refine wpAny_IfExp (yh (h A hA ρ s F) fun b s1 os1 ρ1 z2q H1 E1 => ?_)
 obtain ⟨k1, k2⟩ := z2q
 cases b with
 | true => exact wpAny_mono (k1 rfl A hA ρ1 s1 (F.ext E1 H1)) (fun v s3 y => Post.from E1 y) fun ω ω z => z
 | false => exact wpAny_mono (k2 rfl A hA ρ1 s1 (F.ext E1 H1)) (fun v s3 y => Post.from E1 y) fun ω ω z => z
theorem qs1 {x y : Expr} {p : Pos} (h : EV c n e loc os x fun a os1 => TB1 c n truthy a os1 fun b os2 => (b = true → EV c n e loc os2 y K) ∧ (b = false → K a os2)) : EV c n e loc os (.BoolOp .And [x, y] p) K := fun A hA ρ s F => by
 refine wpAny_And2 (qi (h A hA ρ s F) fun va s1 a os1 ρ1 k1 H1 E1 r1 => ?_)
 refine yh (k1 A hA ρ1 s1 va H1 r1) fun b s2 os2 ρ2 z2q H2 E2 => ?_
 obtain ⟨k2, k3⟩ := z2q
 cases b with
 | false => exact ⟨a, os2, ρ2, k3 rfl, H2, E1.trans E2, H1.vr E2 r1⟩
 | true => exact wpAny_mono (k2 rfl A hA ρ2 s2 ((F.ext E1 H1).ext E2 H2)) (fun v s3 y => Post.from (E1.trans E2) y) fun ω ω z => z
theorem qup {x y : Expr} {p : Pos} (h : EV c n e loc os x fun a os1 => TB1 c n truthy a os1 fun b os2 => (b = false → EV c n e loc os2 y K) ∧ (b = true → K a os2)) : EV c n e loc os (.BoolOp .Or [x, y] p) K := fun A hA ρ s F => by
 refine wpAny_Or2 (qi (h A hA ρ s F) fun va s1 a os1 ρ1 k1 H1 E1 r1 => ?_)
 refine yh (k1 A hA ρ1 s1 va H1 r1) fun b s2 os2 ρ2 z2q H2 E2 => ?_
 obtain ⟨k2, k3⟩ := z2q
 cases b with
 | true => exact ⟨a, os2, ρ2, k3 rfl, H2, E1.trans E2, H1.vr E2 r1⟩
 | false => exact wpAny_mono (k2 rfl A hA ρ2 s2 ((F.ext E1 H1).ext E2 H2)) (fun v s3 y => Post.from (E1.trans E2) y) fun ω ω z => z
end
end Mine
end
section
open PySem PySem.W PyProof.Rows PySem.Calls PySem.Spec
namespace Mine
inductive AF where
 | next | brk | cont
 | ret (a : AV)
noncomputable def FlR (ρ : List Addr) (h : Heap) : AF → Flow → Prop
 | .next, f => f = .next
 | .brk, f => f = .brk
 | .cont, f => f = .cont
 | .ret a, f => ∃ v, f = .ret v ∧ VR ρ h a v
inductive PostF (c : CX) (e : EF) (ρ : List Addr) (s : Shared) (K : AF → Loc → List AO → Prop) (f : Flow) (s' : Shared) : Prop
 | mk (af : AF) (loc' : Loc) (os' : List AO) (ρ' : List Addr) (k : K af loc' os') (F : FR c e loc' os' ρ' s') (E : Ext c.tabs [e.env.locals] ρ s ρ' s') (r : FlR ρ' s'.heap af f)
theorem we {c : CX} {e : EF} {A : Around} {ρ : List Addr} {s s0 : Shared} {t : Sem Flow} {K1 : AF → Loc → List AO → Prop} {Q : Flow → Shared → Prop} {E : Value → Shared → Prop} (h : wpAny (MM c.w) A t (PostF c e ρ s K1) NoE s0)
  (g : ∀ f s1 af loc1 os1 ρ1, K1 af loc1 os1 → FR c e loc1 os1 ρ1 s1 → Ext c.tabs [e.env.locals] ρ s ρ1 s1 → FlR ρ1 s1.heap af f → Q f s1) : wpAny (MM c.w) A t Q E s0 :=
 wpAny_mono h (fun v s1 y => by cases y with | mk af l os1 ρ1 k F E r => exact g v s1 af l os1 ρ1 k F E r) fun ω ω z => z.elim
noncomputable def EX (c : CX) (n : Nat) (e : EF) (loc : Loc) (os : List AO) (st : Stmt) (K : AF → Loc → List AO → Prop) : Prop :=
 ∀ A, AR A n → ∀ ρ s, FR c e loc os ρ s → wpAny (MM c.w) A (exec st e.env) (PostF c e ρ s K) NoE s
noncomputable def EXs (c : CX) (n : Nat) (e : EF) (loc : Loc) (os : List AO) (sts : List Stmt) (K : AF → Loc → List AO → Prop) : Prop :=
 ∀ A, AR A n → ∀ ρ s, FR c e loc os ρ s → wpAny (MM c.w) A (execs sts e.env) (PostF c e ρ s K) NoE s
noncomputable def ST (c : CX) (n : Nat) (e : EF) (loc : Loc) (os : List AO) (t : Value → Sem Unit) (a : AV) (K : Loc → List AO → Prop) : Prop :=
 ∀ A, AR A n → ∀ ρ s v, FR c e loc os ρ s → VR ρ s.heap a v → wpAny (MM c.w) A (t v) (fun ω s' => ∃ loc' os' ρ', K loc' os' ∧ FR c e loc' os' ρ' s' ∧ Ext c.tabs [e.env.locals] ρ s ρ' s') NoE s
section
variable {c : CX} {n : Nat} {e : EF} {loc : Loc} {os : List AO} {K : AF → Loc → List AO → Prop}
theorem PostF.from {ρ ρ' : List Addr} {s s' : Shared} (E : Ext c.tabs [e.env.locals] ρ s ρ' s') {f : Flow} {s'' : Shared} (x : PostF c e ρ' s' K f s'') : PostF c e ρ s K f s'' :=
 let ⟨af, loc', os', ρ'', k, h, F, r⟩ := x; ⟨af, loc', os', ρ'', k, h, E.trans F, r⟩
theorem PostF.mono {K' : AF → Loc → List AO → Prop} {ρ : List Addr} {s : Shared} (h : ∀ a l o, K a l o → K' a l o) {f : Flow} {s'' : Shared} (x : PostF c e ρ s K f s'') : PostF c e ρ s K' f s'' :=
 let ⟨af, loc', os', ρ'', k, F, E, r⟩ := x; ⟨af, loc', os', ρ'', h _ _ _ k, F, E, r⟩
theorem Ext.up {tabs : List Tab} {X ρ ρ' : List Addr} {s s' : Shared} (E : Ext tabs [] ρ s ρ' s') : Ext tabs X ρ s ρ' s' := E.weaken fun ω h => nomatch h
theorem EX.mono {K' : AF → Loc → List AO → Prop} {x : Stmt} (h : EX c n e loc os x K) (hk : ∀ a l o, K a l o → K' a l o) : EX c n e loc os x K' :=
 fun A hA ρ s F => wpAny_mono (h A hA ρ s F) (fun v s' => PostF.mono hk) fun ω ω z => z
theorem qs8 {sts : List Stmt} (h : ∀ K1 : AF → Loc → List AO → Prop, (∀ f l o, K f l o → K1 f l o) → EXs c n e loc os sts K1) : EXs c n e loc os sts K := h K fun ω ω ω x => x
theorem xz (h : K .next loc os) : EXs c n e loc os [] K := fun A hA ρ s F => wpAny_execs_nil ⟨.next, loc, os, ρ, h, F, Ext.refl .., rfl⟩
@[reducible] noncomputable def kA (e : EF) (loc : Loc) (x : Str) (K : AF → Loc → List AO → Prop) : AV → List AO → Prop := fun a os1 => ∃ loc', StAt e.ls loc x a loc' ∧ K .next loc' os1
@[reducible] noncomputable def kX (loc : Loc) (K : AF → Loc → List AO → Prop) : AV → List AO → Prop := fun ω os1 => K .next loc os1
@[reducible] noncomputable def kRet (loc : Loc) (K : AF → Loc → List AO → Prop) : AV → List AO → Prop := fun a os1 => K (.ret a) loc os1
@[reducible] noncomputable def kAs (loc : Loc) (K : AF → Loc → List AO → Prop) : Bool → List AO → Prop := fun b os1 => b = true ∧ K .next loc os1
@[reducible] noncomputable def kIf (c : CX) (n : Nat) (e : EF) (loc : Loc) (a b : List Stmt) (K : AF → Loc → List AO → Prop) : Bool → List AO → Prop := fun r os1 => (r = true → EXs c n e loc os1 a K) ∧ (r = false → EXs c n e loc os1 b K)
@[reducible] noncomputable def Then (c : CX) (n : Nat) (e : EF) (rest : List Stmt) (K : AF → Loc → List AO → Prop) (f : AF) (loc : Loc) (os : List AO) : Prop :=
 match f with
 | .next => EXs c n e loc os rest K
 | f => K f loc os
theorem qx {st : Stmt} {rest : List Stmt} (h : EX c n e loc os st (Then c n e rest K)) : EXs c n e loc os (st :: rest) K := fun A hA ρ s F => by
 refine wpAny_execs_cons (we (h A hA ρ s F) fun f s1 af loc1 os1 ρ1 k F1 E1 r => ?_)
 cases af with
 | next => cases (show f = .next from r); exact wpAny_mono (k A hA ρ1 s1 F1) (fun v s3 y => PostF.from E1 y) fun ω ω z => z
 | brk => cases (show f = .brk from r); exact ⟨_, loc1, os1, ρ1, k, F1, E1, r⟩
 | cont => cases (show f = .cont from r); exact ⟨_, loc1, os1, ρ1, k, F1, E1, r⟩
 | ret a => refine x_ea r fun v z29y r' => ?_; clear r; subst z29y; exact ⟨_, loc1, os1, ρ1, k, F1, E1, v, rfl, r'⟩
theorem qa7 {x : Str} {a : AV} {loc' : Loc} {K : Loc → List AO → Prop} (hs : StAt e.ls loc x a loc') (h : K loc' os) : ST c n e loc os (storeName e.env x) a K := fun A hA ρ s v F r => by
 refine x_ea F.ns fun m hn hm => ?_
 refine ym (id hn) fun o es ep ho hd hk hl => ?_
 refine wpAny_storeName_local (F.ok.ls x hs.mem).1 hn (fun h' hn' sb => ?_) (by rw [F.ok.kind]; rfl)
 have hi : ¬ Imm o := fun z => z.nodict _ _ hd
 obtain ⟨H', tp⟩ := F.hr.out (d := s.drawn) (tk := s.toks + 1) F.hr.gi.bare (Nat.le_succ _) ho (fun vs q => by rw [hd] at q; cases q) hi F.new F.out sb
 have E' := Ext.out (tabs := c.tabs) (ρ := ρ) (s := s) (d := s.drawn) (tk := s.toks + 1) (g := s.gens) sb
 have L' : LocR ρ h' m e.ls loc := hm.imp fun a v => VR.imp (List.prefix_refl _) tp a v
 exact (u7 loc' os ρ h ⟨H', F.ok, (y_ea _ hn' (hs.set F.ok.nodup L' (VR.imp (List.prefix_refl _) tp a v r))), F.out, F.new⟩ E')
theorem qcp {x : Str} {p' p : Pos} {v : Expr} (h : EV c n e loc os v (kA e loc x K))
  (hs : ∀ env, swapsWith v (some (.Name x p')) p.line env = pure false := by intro ω; rfl) : EX c n e loc os (.Assign [.Name x p'] v p) K := fun A hA ρ s F => by
 refine wpAny_Assign_Name (qi (h A hA ρ s F) fun va s1 a os1 ρ1 z3q H1 E1 r1 => ?_) (hs _)
 refine x_ea z3q fun loc' hs k => ?_; clear z3q
 refine wpAny_mono (qa7 (n := n) (K := fun l o => l = loc' ∧ o = os1) hs ⟨rfl, rfl⟩ A hA ρ1 s1 va (F.ext E1 H1) r1) (fun ω s2 y => ?_) fun ω ω z => z
 refine qw y fun ω ω ρ2 z28y F2 E2 => ?_; clear y; obtain ⟨rfl, rfl⟩ := z28y
 exact ⟨.next, _, _, ρ2, k, F2, E1.up.trans E2, rfl⟩
theorem u9 {x : Str} {p' p : Pos} {op : Operator} {v : Expr} {old : AV} (hx : LkAt e.ls loc x old)
  (h : EV c n e loc os v (kT2 c n (inplaceOp op) (kA e loc x K) old)) : EX c n e loc os (.AugAssign (.Name x p') op v p) K := fun A hA ρ s F => by
 refine x_ea F.ns fun m hn hm => ?_
 obtain ⟨hl, vo, hv, r⟩ := hx.get hm
 refine wpAny_AugAssign_Name (wpAny_loadName_local F.ok.kind (F.ok.ls x hl).1 hn hv ?_)
 refine qi (h A hA ρ s F) fun va s1 a os1 ρ1 k1 H1 E1 r1 => ?_
 refine qi (k1 A hA ρ1 s1 vo va H1 (F.hr.vr E1 r) r1) fun vb s2 b os2 ρ2 z3q H2 E2 r2 => ?_
 refine x_ea z3q fun loc' hs k => ?_; clear z3q
 refine wpAny_mono (qa7 (n := n) (K := fun l o => l = loc' ∧ o = os2) hs ⟨rfl, rfl⟩ A hA ρ2 s2 vb ((F.ext E1 H1).ext E2 H2) r2) (fun ω s2 y => ?_) fun ω ω z => z
 refine qw y fun ω ω ρ3 z27y F3 E3 => ?_; clear y; obtain ⟨rfl, rfl⟩ := z27y
 exact ⟨.next, _, _, ρ3, k, F3, (E1.up.trans E2.up).trans E3, rfl⟩
theorem qmj {x : Expr} {p : Pos} (h : EV c n e loc os x (kX loc K)) (hs : ∀ env, swapsWith x none p.line env = pure false := by intro ω; rfl) : EX c n e loc os (.Expr x p) K := fun A hA ρ s F => by
 refine wpAny_Expr_any (qi (h A hA ρ s F) fun va s1 a os1 ρ1 k H1 E1 r1 => ?_) (yv F.ok.kind) (hs _)
 exact ⟨.next, loc, os1, ρ1, k, F.ext E1 H1, E1.up, rfl⟩
theorem qml {x : Expr} {p : Pos} (h : EV c n e loc os x (kRet loc K)) : EX c n e loc os (.Return (some x) p) K := fun A hA ρ s F => by
 refine wpAny_Return_some (qi (h A hA ρ s F) fun va s1 a os1 ρ1 k H1 E1 r1 => ?_)
 exact ⟨.ret a, loc, os1, ρ1, k, F.ext E1 H1, E1.up, va, rfl, r1⟩
theorem vk {p : Pos} (h : K (.ret .none) loc os) : EX c n e loc os (.Return none p) K := fun A hA ρ s F => wpAny_Return_none ⟨.ret .none, loc, os, ρ, h, F, Ext.refl .., .none, rfl, rfl⟩
theorem qqa {p : Pos} (h : K .brk loc os) : EX c n e loc os (.Break p) K := fun A hA ρ s F => wpAny_Break ⟨.brk, loc, os, ρ, h, F, Ext.refl .., rfl⟩
theorem qhz {p : Pos} (h : K .cont loc os) : EX c n e loc os (.Continue p) K := fun A hA ρ s F => wpAny_Continue ⟨.cont, loc, os, ρ, h, F, Ext.refl .., rfl⟩
theorem qmi {t : Expr} {m : Option Expr} {p : Pos} (h : EB c n e loc os t (kAs loc K)) : EX c n e loc os (.Assert t m p) K := fun A hA ρ s F => by
 refine wpAny_Assert_holds (yh (h A hA ρ s F) fun b s1 os1 ρ1 z2q H1 E1 => ?_)
 obtain ⟨hb, k⟩ := z2q
 exact ⟨hb, .next, loc, os1, ρ1, k, F.ext E1 H1, E1.up, rfl⟩
theorem qs7 {t : Expr} {a b : List Stmt} {p : Pos} (h : EB c n e loc os t (kIf c n e loc a b K)) : EX c n e loc os (.If t a b p) K := fun A hA ρ s F => by
 refine wpAny_If (yh (h A hA ρ s F) fun r s1 os1 ρ1 z2q H1 E1 => ?_)
 obtain ⟨k1, k2⟩ := z2q
 cases r with
 | true => exact wpAny_mono (k1 rfl A hA ρ1 s1 (F.ext E1 H1)) (fun v s3 y => PostF.from E1.up y) fun ω ω z => z
 | false => exact wpAny_mono (k2 rfl A hA ρ1 s1 (F.ext E1 H1)) (fun v s3 y => PostF.from E1.up y) fun ω ω z => z
end
end Mine
end
section
open PySem PySem.W PyProof.Rows PySem.Calls PySem.Spec
namespace Mine
mutual
noncomputable def AV.Un (k : Nat) : AV → Prop
 | .ref n => n < k
 | .tup xs => AVs.Un k xs
 | .bm _ x => AV.Un k x
 | _ => True
noncomputable def AVs.Un (k : Nat) : List AV → Prop
 | [] => True
 | x :: xs => AV.Un k x ∧ AVs.Un k xs
end
theorem qja : ∀ (k : Nat), AVs.Un k [] = True := by intros; rfl
theorem qjb : ∀ (k : Nat) (x_1 : AV) (xs : List AV), AVs.Un k (x_1 :: xs) = (AV.Un k x_1 ∧ AVs.Un k xs) := by intros; rfl
theorem zi : ∀ (k n : Nat), AV.Un k (AV.ref n) = (n < k) := by intros; rfl
theorem zj : ∀ (k : Nat) (xs : List AV), AV.Un k (AV.tup xs) = AVs.Un k xs := by intros; rfl
theorem zk : ∀ (k : Nat) (id : String) (x_1 : AV), AV.Un k (AV.bm id x_1) = AV.Un k x_1 := by intros; rfl
theorem zm : ∀ (k : Nat) s, AV.Un k (.str s) = True := by intros; rfl
theorem zo : ∀ (k : Nat) i, AV.Un k (.int i) = True := by intros; rfl
theorem zp : ∀ (k : Nat), AV.Un k .none = True := by intros; rfl
theorem zq : ∀ (k : Nat) b, AV.Un k (.bool b) = True := by intros; rfl
noncomputable def Loc.Un (k : Nat) : Loc → Prop
 | [] => True
 | none :: r => Loc.Un k r
 | some a :: r => a.Un k ∧ Loc.Un k r
theorem qdw : ∀ (k : Nat), Loc.Un k [] = True := by intros; rfl
theorem qdx : ∀ (k : Nat) (r : List (Option AV)), Loc.Un k (Option.none :: r) = Loc.Un k r := by intros; rfl
theorem qdy : ∀ (k : Nat) (a : AV) (r : List (Option AV)), Loc.Un k (Option.some a :: r) = (AV.Un k a ∧ Loc.Un k r) := by intros; rfl
noncomputable def AE.Un (k : Nat) : List (Str × AV) → Prop
 | [] => True
 | (_, a) :: r => a.Un k ∧ AE.Un k r
noncomputable def AO.Un (k : Nat) : AO → Prop
 | .list xs => AVs.Un k xs
 | .nlist xs => AVs.Un k xs
 | .dict es => AE.Un k es
 | .inst _ dn => dn < k
 | .acc _ dn xs => dn < k ∧ AVs.Un k xs
 | .opq => True
 | .hid => True
theorem qhp : ∀ (k : Nat) (xs : List AV), AO.Un k (AO.list xs) = AVs.Un k xs := by intros; rfl
theorem qhq : ∀ (k : Nat) (xs : List AV), AO.Un k (AO.nlist xs) = AVs.Un k xs := by intros; rfl
theorem qhr : ∀ (k : Nat) (es : List (PySem.Str × AV)), AO.Un k (AO.dict es) = AE.Un k es := by intros; rfl
theorem qhs : ∀ (k : Nat) (C : PySem.Addr) (dn : Nat), AO.Un k (AO.inst C dn) = (dn < k) := by intros; rfl
theorem qht : ∀ (k : Nat) (C : PySem.Addr) (dn : Nat) (xs : List AV), AO.Un k (AO.acc C dn xs) = (dn < k ∧ AVs.Un k xs) := by intros; rfl
theorem qhu : ∀ (k : Nat), AO.Un k AO.opq = True := by intros; rfl
theorem qhv : ∀ (k : Nat), AO.Un k AO.hid = True := by intros; rfl
noncomputable def AOs.Un (k : Nat) : List AO → Prop
 | [] => True
 | o :: os => o.Un k ∧ AOs.Un k os
theorem qi8 : ∀ (k : Nat), AOs.Un k [] = True := by intros; rfl
theorem qi9 : ∀ (k : Nat) (o : AO) (os : List AO), AOs.Un k (o :: os) = (AO.Un k o ∧ AOs.Un k os) := by intros; rfl
theorem AOs.Un.mem {k : Nat} : ∀ {os : List AO}, AOs.Un k os → ∀ o ∈ os, o.Un k
 | _ :: os, h, o, hm => by
  rcases List.mem_cons.mp hm with q | q
  ·subst q; exact h.1
  ·exact AOs.Un.mem h.2 o q
noncomputable def AF.Un (k : Nat) : AF → Prop
 | .ret a => a.Un k
 | _ => True
section
variable {ρ : List Addr} {h : Heap} {k : Nat}
theorem qa3 {α : Type} {l : List α} {n k : Nat} (h : n < k) : (l.take k)[n]? = l[n]? := List.getElem?_take_of_lt h
mutual
theorem VR.take : ∀ (a : AV) (v : Value), a.Un k → VR ρ h a v → VR (ρ.take k) h a v
 | .none => fun ω ω e => e
 | .bool _ => fun ω ω e => e
 | .int _ => fun ω ω e => e
 | .str _ => fun ω ω e => e
 | .strT _ _ => fun ω ω e => e
 | .glob _ => fun ω ω e => e
 | .rng _ _ _ => fun ω ω e => e
 | .sl _ _ => fun ω ω e => e
 | .ref n => fun ω u z => x_ea z fun a e q => ⟨a, (qa3 u).trans e, q⟩
 | .tup xs => fun ω u z => xx z fun a vs e q o r => ⟨a, vs, e, q, (fun z => o (List.mem_of_mem_take z)), VRs.take' xs vs u r⟩
 | .bm id x => fun ω u z => qc z fun a y e q r => ⟨a, y, e, q, VR.take x y u r⟩
 | .lam => fun ω ω e => e
theorem VRs.take' : ∀ (xs : List AV) (vs : List Value), AVs.Un k xs → VRs ρ h xs vs → VRs (ρ.take k) h xs vs
 | [] => fun ω ω e => e
 | x :: xs => fun ω u z => qc z fun v r e q z => ⟨v, r, e, VR.take x v u.1 q, VRs.take' xs r u.2 z⟩
end
theorem DR.take {w : World} : ∀ (es : List (Str × AV)) (ds : List DictEntry), AE.Un k es → DR w ρ h es ds → DR w (ρ.take k) h es ds
 | [] => fun ω ω e => e
 | (x, a) :: r => fun ω u z => qw z fun t v rs e q z => ⟨t, v, rs, e, VR.take a v u.1 q, DR.take r rs u.2 z⟩
theorem OR.take {w : World} {a : Addr} {ao : AO} (u : ao.Un k) (x : OR w ρ h a ao) : OR w (ρ.take k) h a ao := by
 cases ao with
 | list xs => refine x_ea x fun vs e r => ?_; clear x; exact ⟨vs, e, VRs.take' _ _ u r⟩
 | nlist xs => refine x_ea x fun vs e r => ?_; clear x; exact ⟨vs, e, VRs.take' _ _ u r⟩
 | dict es => refine q9 x fun ds n e r => ?_; clear x; exact ⟨ds, n, e, DR.take _ _ u r⟩
 | inst C dn => refine x_ea x fun d e1 e => ?_; clear x; exact ⟨d, (qa3 u).trans e1, e⟩
 | acc C dn xs => refine qw x fun d vs n e1 e r => ?_; clear x; exact ⟨d, vs, n, (qa3 u.1).trans e1, e, VRs.take' _ _ u.2 r⟩
 | opq => exact x
 | hid => exact x
theorem LocR.take {m : Str → Option Value} : ∀ {ls : List Str} {loc : Loc}, Loc.Un k loc → LocR ρ h m ls loc → LocR (ρ.take k) h m ls loc
 | x :: xs, some a :: r, u, ⟨⟨v, e, q⟩, z⟩ => ⟨(y_ea v e (VR.take _ _ u.1 q)), LocR.take u.2 z⟩
 | x :: xs, none :: r, u, z => LocR.take (ls := xs) (loc := r) u z
 | [], _, _, _ => by delta LocR; trivial
 | _ :: _, [], _, _ => by delta LocR; trivial
end
section
variable {c : CX} {n : Nat} {e : EF} {loc : Loc} {os os1 g : List AO} {K : AF → Loc → List AO → Prop} {ρ ρ' : List Addr} {s s' : Shared}
theorem HRel.forget (H : c.HR ρ (os1 ++ g) s) (u : AOs.Un os1.length os1) : c.HR (ρ.take os1.length) os1 s := by
 have hl := H.len
 simp at hl
 refine ⟨H.gi, by simp; lia, fun m ao q => ?_, H.nodup.sublist (List.take_sublist _ _), fun a ha => H.fresh a (List.mem_of_mem_take ha)⟩
 have hm : m < os1.length := (List.getElem?_eq_some_iff.mp q).1
 refine x_ea (H.objs m ao (by rw [List.getElem?_append_left hm]; exact q)) fun a e1 x => ?_
 exact (y_ea a ((qa3 hm).trans e1) (x.take (u.mem _ (List.mem_of_getElem? q))))
theorem Ext.forget {tabs : List Tab} {X : List Addr} {k : Nat} (E : Ext tabs X ρ s ρ' s') (h : ρ.length ≤ k) : Ext tabs X ρ s (ρ'.take k) s' := by
 refine ⟨?_, E.keep, fun a h1 h2 => E.new a (List.mem_of_mem_take h1) h2, E.size⟩
 obtain ⟨t, rfl⟩ := E.pre
 rw [List.take_append, List.take_of_length_le h]
 exact List.prefix_append _ _
theorem FR.forget (F : FR c e loc (os1 ++ g) ρ s) (u : AOs.Un os1.length os1) (ul : Loc.Un os1.length loc) : FR c e loc os1 (ρ.take os1.length) s := by
 refine x_ea F.ns fun m hn hm => ?_
 exact ⟨HRel.forget F.hr u, F.ok, (y_ea m hn (hm.take ul)), fun q => F.out (List.mem_of_mem_take q), F.new⟩
noncomputable def LocSub : Loc → Loc → Prop
 | none :: r, _ :: r' => LocSub r r'
 | some a :: r, o :: r' => o = some a ∧ LocSub r r'
 | [], _ => True
 | _ :: _, [] => False
theorem LocSub.refl : ∀ (l : Loc), LocSub l l
 | [] => trivial
 | none :: r => LocSub.refl r
 | some _ :: r => ⟨rfl, LocSub.refl r⟩
theorem LocR.sub {ρ : List Addr} {h : Heap} {m : Str → Option Value} : ∀ {ls : List Str} {l l' : Loc}, LocSub l l' → LocR ρ h m ls l' → LocR ρ h m ls l
 | [], _, _, _, _ => by delta LocR; trivial
 | _ :: _, [], _, _, _ => by delta LocR; trivial
 | x :: xs, none :: r, [], s, _ => s.elim
 | x :: xs, some a :: r, [], s, _ => s.elim
 | x :: xs, none :: r, none :: r', s, z => LocR.sub (ls := xs) (l := r) (l' := r') s z
 | x :: xs, none :: r, some _ :: r', s, z => LocR.sub (ls := xs) (l := r) (l' := r') s z.2
 | x :: xs, some a :: r, o :: r', s, z => by
  obtain ⟨rfl, s⟩ := s
  exact ⟨z.1, LocR.sub s z.2⟩
inductive Fg (m : Nat) (K : AF → Loc → List AO → Prop) (f : AF) (loc : Loc) (os : List AO) : Prop
 | mk (os1 g : List AO) (loc1 : Loc) (h1 : os = os1 ++ g) (h2 : m ≤ os1.length) (h3 : AOs.Un os1.length os1) (h4 : LocSub loc1 loc) (h5 : Loc.Un os1.length loc1) (h6 : f.Un os1.length) (k : K f loc1 os1)
theorem FR.sub {loc1 : Loc} (F : FR c e loc os ρ s) (h : LocSub loc1 loc) : FR c e loc1 os ρ s :=
 ⟨F.hr, F.ok, let ⟨m, hn, hm⟩ := F.ns; (y_ea m hn (hm.sub h)), F.out, F.new⟩
theorem PostF.forget {m : Nat} (hm : ρ.length ≤ m) {f : Flow} (x : PostF c e ρ s (Fg m K) f s') : PostF c e ρ s K f s' := by
 obtain ⟨af, loc', os', ρ', ⟨os1, g, loc1, rfl, h1, h2, hs, h3, h4, k⟩, F, E, r⟩ := x
 refine ⟨af, loc1, os1, _, k, (F.sub hs).forget h2 h3, E.forget (Nat.le_trans hm h1), ?_⟩
 cases af with
 | next => exact r
 | brk => exact r
 | cont => exact r
 | ret a => refine x_ea r fun v q r => ?_; exact ⟨v, q, VR.take _ _ h4 r⟩
theorem EXs.forget {sts : List Stmt} (h : EXs c n e loc os sts (Fg os.length K)) : EXs c n e loc os sts K := fun A hA ρ s F =>
 wpAny_mono (h A hA ρ s F) (fun f s' y => PostF.forget (Nat.le_of_eq F.hr.len) y) fun ω ω z => z
noncomputable def Turn (I : Loc → List AO → Prop) (K : AF → Loc → List AO → Prop) : AF → Loc → List AO → Prop
 | .next, l, o => I l o
 | .cont, l, o => I l o
 | .brk, l, o => K .next l o
 | .ret a, l, o => K (.ret a) l o
noncomputable def PQ (c : CX) (e : EF) (ρ : List Addr) (s : Shared) (K : AF → Loc → List AO → Prop) (r : Except Value Flow) (s' : Shared) : Prop := match r with | .ok f => PostF c e ρ s K f s' | .error _ => False
inductive WI (c : CX) (e : EF) (I : Nat → Loc → List AO → Prop) (ρ : List Addr) (s : Shared) (m : Nat) (s' : Shared) : Prop
 | mk (loc' : Loc) (os' : List AO) (ρ' : List Addr) (h1 : I m loc' os') (h2 : FR c e loc' os' ρ' s') (h3 : Ext c.tabs [e.env.locals] ρ s ρ' s')
theorem zw (I : Nat → Loc → List AO → Prop) {t : Expr} {body orelse : List Stmt} {p : Pos} (m : Nat) (h0 : I m loc os)
  (turn : ∀ m loc os, I m loc os → EB c n e loc os t fun b os1 => (b = true → EXs c n e loc os1 body (Turn (fun l o => ∃ m', m' < m ∧ I m' l o) K)) ∧ (b = false → EXs c n e loc os1 orelse fun f l o => K f l o)) :
  EX c n e loc os (.While t body orelse p) K := fun A hA ρ s F => by
 refine wpAny_While (codeAny_mono (R := PQ c e ρ s K) ?_ fun r s' h => by cases r with | ok f => exact h | error _ => exact h.elim)
 refine codeAny_whileLoop (WI c e I ρ s) ?_ m ⟨loc, os, ρ, h0, F, Ext.refl ..⟩
 rintro m s1 ⟨loc1, os1, ρ1, i1, F1, E1⟩
 refine yh (turn m loc1 os1 i1 A hA ρ1 s1 F1) fun b s2 os2 ρ2 z2q H2 E2 => ?_
 obtain ⟨k1, k2⟩ := z2q
 have F2 := F1.ext E2 H2
 have E12 := E1.trans E2.up
 cases b with
 | true =>
  refine we (k1 rfl A hA ρ2 s2 F2) fun f s3 af loc3 os3 ρ3 k F3 E3 r => ?_
  cases af with
  | next => cases (show f = .next from r); refine x_ea k fun m' hm i => ?_; clear k; exact (y_ea m' hm ⟨loc3, os3, ρ3, i, F3, E12.trans E3⟩)
  | cont => cases (show f = .cont from r); refine x_ea k fun m' hm i => ?_; clear k; exact (y_ea m' hm ⟨loc3, os3, ρ3, i, F3, E12.trans E3⟩)
  | brk => cases (show f = .brk from r); exact ⟨.next, loc3, os3, ρ3, k, F3, E12.trans E3, rfl⟩
  | ret a => refine x_ea r fun v z41y r' => ?_; clear r; subst z41y; exact ⟨.ret a, loc3, os3, ρ3, k, F3, E12.trans E3, v, rfl, r'⟩
 | false => exact wpAny_mono (k2 rfl A hA ρ2 s2 F2) (fun f s3 y => PostF.from E12 y) fun ω ω z => z.elim
theorem Ext.news {tabs : List Tab} {X Y : List Addr} (E : Ext tabs (Y ++ X) ρ s ρ' s') (h : ∀ a ∈ Y, s.heap.objs.size ≤ a) : Ext tabs X ρ s ρ' s' :=
 ⟨E.pre, fun b o e h1 h2 h3 => E.keep b o e h1 (fun q => by
  rcases List.mem_append.mp q with q | q
  ·exact absurd (Heap.lt_size e) (Nat.not_lt.mpr (h b q))
  ·exact h2 q) h3, E.new, E.size⟩
end
noncomputable def qqh (o : Obj) : Prop := ∀ vs, o.data = .fields vs → ∀ q t, vs[1]? ≠ some (.str q t)
structure Outs (c : CX) (Y : List Addr) (ρ : List Addr) (s s' : Shared) : Prop where
 keep : ∀ b o, s.heap.get? b = some o → b ∉ Y → s'.heap.get? b = some o
 size : s.heap.objs.size ≤ s'.heap.objs.size
 bare : AllBare s'.gens
 os : s'.os = s.os
 tk : s.toks ≤ s'.toks
structure OutY (c : CX) (Y : List Addr) (ρ : List Addr) (h : Heap) : Prop where
 out : ∀ a ∈ Y, a ∉ ρ
 new : ∀ a ∈ Y, c.B.heap.objs.size ≤ a
 obj : ∀ a ∈ Y, ∃ o, h.get? a = some o ∧ (o.cls ≠ .none ∧ ∀ es ep, o.data ≠ .dict es ep) ∧ ¬ Imm o ∧ qqh o
theorem CodeRec.outs {Y : List Addr} {v : Value} {q : Str} {h h' : Heap} (k : ∀ b o, h.get? b = some o → b ∉ Y → h'.get? b = some o) (hy : ∀ a ∈ Y, ∃ o, h.get? a = some o ∧ qqh o) (x : h.CodeRec v q) : h'.CodeRec v q := by
 refine v6 x fun c oc vs t e g r z => ?_; clear x
 refine ⟨c, oc, vs, t, e, k _ _ g fun hm => ?_, r, z⟩
 refine x_ea (hy c hm) fun o e1 e2 => ?_
 rw [g] at e1; cases e1
 exact e2 vs r q t z
theorem OldK.outs {Y : List Addr} {h₀ h h' : Heap} (K : OldK h₀ h) (k : ∀ b o, h.get? b = some o → b ∉ Y → h'.get? b = some o) (hY : ∀ a ∈ Y, h₀.objs.size ≤ a) : OldK h₀ h' := by
 have ne : ∀ b o, h₀.get? b = some o → b ∉ Y := fun b o e q => absurd (Heap.lt_size e) (Nat.not_lt.mpr (hY b q))
 refine ⟨fun b o e => ?_, fun b o e => let ⟨o', ho'⟩ := K.there b o e; ⟨o', k _ _ ho' (ne b o e)⟩⟩
 rcases K.old b o e with x | ⟨t, hc, vs, more, hv, x⟩ | ⟨rfl, hc, ⟨o', es, n, ho', r⟩, z⟩
 ·exact .inl (k _ _ x (ne b o e))
 ·exact .inr (.inl (y_a2 t hc (qho vs more hv (k _ _ x (ne b o e)))))
 ·have q := k _ _ ho' (ne _ o e)
  exact .inr (.inr (y_a3 rfl hc (qi7 o' es n q r) (fun key => by rw [OldK.staticOf_congr (q.trans ho'.symm) key]; exact z key)))
section
variable {c : CX} {n : Nat} {e : EF} {loc : Loc} {os os1 g : List AO} {K : AF → Loc → List AO → Prop} {ρ ρ' Y : List Addr} {s s' s'' : Shared}
theorem Outs.gi (O : Outs c Y ρ s s') (y : OutY c Y ρ s.heap) (G : c.GI s) : c.GI s' := by
 have lowne : ∀ b, b < c.B.heap.objs.size → b ∉ Y := fun b hb q => absurd hb (Nat.not_lt.mpr (y.new b q))
 refine x_ea G.lim fun mc z40y q => ?_; refine wf z40y fun o es ep ho r => ?_; clear z40y
 refine ⟨OldK.outs G.old O.keep y.new, fun t ht => (G.tab t ht).step (fun b o e q => O.keep b o e ?_) fun m hm v x => CodeRec.outs O.keep (fun a ha => let ⟨o, e1, _, _, e2⟩ := y.obj a ha; (y_ea o e1 e2)) x, O.os.trans G.os, O.bare, Nat.le_trans G.size O.size,
  ⟨mc, ⟨o, es, ep, O.keep _ _ ho (lowne _ G.lowS.1), r⟩, q⟩, G.lowS, Nat.le_trans G.tk O.tk, fun o e => O.keep _ _ (G.stat o e) (lowne _ G.lowS.1)⟩
 have l := (G.tab t ht).low
 rcases q with rfl | rfl
 ·exact lowne _ l.1
 ·exact lowne _ l.2
theorem Outs.imm (O : Outs c Y ρ s s') (y : OutY c Y ρ s.heap) : ∀ a o, Imm o → s.heap.get? a = some o → s'.heap.get? a = some o := fun a o hi e => O.keep a o e fun q => by
 refine zh (y.obj a q) fun o' e' ω z ω => ?_
 rw [e] at e'; cases e'; exact z hi
theorem Outs.hr (O : Outs c Y ρ s s') (y : OutY c Y ρ s.heap) (H : c.HR ρ os s) : c.HR ρ os s' := by
 refine ⟨O.gi y H.gi, H.len, fun k ao e => ?_, H.nodup, H.fresh⟩
 refine x_ea (H.objs k ao e) fun b e1 z => ?_
 exact (y_ea b e1 (z.imp (List.prefix_refl _) (ImmK.of (O.imm y)) fun o e => O.keep b o e fun q => y.out b q (List.mem_of_getElem? e1)))
theorem Outs.vr (O : Outs c Y ρ s s') (y : OutY c Y ρ s.heap) {a : AV} {v : Value} (r : VR ρ s.heap a v) : VR ρ s'.heap a v := VR.imp (List.prefix_refl _) (ImmK.of (O.imm y)) a v r
theorem Outs.fr (O : Outs c Y ρ s s') (y : OutY c Y ρ s.heap) (hL : e.env.locals ∉ Y) (F : FR c e loc os ρ s) : FR c e loc os ρ s' := by
 refine x_ea F.ns fun m z39y hm => ?_; refine wf z39y fun o es ep ho r => ?_; clear z39y
 exact ⟨O.hr y F.hr, F.ok, (y_ea m ⟨o, es, ep, O.keep _ _ ho hL, r⟩ (hm.imp fun a v => O.vr y)), F.out, F.new⟩
theorem Outs.ext (O : Outs c Y ρ s s') {X : List Addr} (h : ∀ a ∈ Y, a ∈ X) : Ext c.tabs X ρ s ρ s' :=
 ⟨List.prefix_refl _, fun b o e ω h2 ω => .inl (O.keep b o e fun q => h2 (h b q)), fun ω h h' => absurd h h', O.size⟩
structure IT (c : CX) (Y : List Addr) (P : Nat → Heap → Prop) : Prop where
 frame : ∀ i h h', P i h → (∀ a ∈ Y, ∀ o, h.get? a = some o → h'.get? a = some o) → P i h'
 obj : ∀ i h, P i h → ∀ a ∈ Y, ∃ o, h.get? a = some o ∧ (o.cls ≠ .none ∧ ∀ es ep, o.data ≠ .dict es ep) ∧ ¬ Imm o ∧ qqh o
noncomputable def qse (c : CX) (n : Nat) (ρ₀ : List Addr) (target : Expr) (it : Value) (Y : List Addr) (P : Nat → Heap → Prop) (X : Nat → Option AV) (I : Nat → List AO → Prop) : Prop :=
 ∀ A, AR A n → ∀ i os ρ s, ρ₀ <+: ρ → c.HR ρ os s → I i os → P i s.heap → OutY c Y ρ s.heap → wpAny (MM c.w) A (pyNext it) (fun r s1 => match r with
  | none => X i = none ∧ Outs c Y ρ s s1
  | some v => wpAny (MM c.w) A (letOwnedTupleGo target it v) (fun ω s2 => Outs c Y ρ s s2 ∧ P (i + 1) s2.heap ∧ ∃ x, X i = some x ∧ VR ρ s2.heap x v) NoE s1) NoE s
noncomputable def qjk (c : CX) (n : Nat) (a : AV) (os : List AO) (target : Expr) (X : Nat → Option AV) (I : Nat → List AO → Prop) : Prop :=
 ∀ A, AR A n → ∀ ρ s v, c.HR ρ os s → VR ρ s.heap a v → wpAny (MM c.w) A (pyIter v) (fun it s1 => ∃ Y P, IT c Y P ∧ Outs c [] ρ s s1 ∧ P 0 s1.heap ∧
  (∀ b ∈ Y, s.heap.objs.size ≤ b) ∧ qse c n ρ target it Y P X I) NoE s
inductive FI (c : CX) (e : EF) (I : Nat → Loc → List AO → Prop) (N : Nat) (P : Nat → Heap → Prop) (Y : List Addr) (ρ : List Addr) (s : Shared) (m : Nat) (s' : Shared) : Prop
 | mk (i : Nat) (loc' : Loc) (os' : List AO) (ρ' : List Addr) (hm : m = N - i) (h1 : I i loc' os') (h2 : FR c e loc' os' ρ' s') (h3 : P i s'.heap) (h4 : OutY c Y ρ' s'.heap) (h5 : Ext c.tabs (Y ++ [e.env.locals]) ρ s ρ' s')
noncomputable def FQ (c : CX) (e : EF) (K : AF → Loc → List AO → Prop) (Y : List Addr) (ρ : List Addr) (s : Shared) (r : Except Value Flow) (s' : Shared) : Prop := match r with | .ok f => ∃ af loc' os' ρ', K af loc' os' ∧ FR c e loc' os' ρ' s' ∧ Ext c.tabs (Y ++ [e.env.locals]) ρ s ρ' s' ∧ FlR ρ' s'.heap af f | .error _ => False
theorem qqb (I : Nat → Loc → List AO → Prop) {target : Expr} {it : Value} {body orelse : List Stmt} {P : Nat → Heap → Prop} {X : Nat → Option AV} (N : Nat) (T : IT c Y P)
  (hN : ∀ i x, X i = some x → i < N) (next : qse c n ρ target it Y P X fun i os => ∃ loc, I i loc os)
  (turn : ∀ i x loc os, I i loc os → X i = some x → ST c n e loc os (assign target e.env) x fun loc' os' => EXs c n e loc' os' body (Turn (I (i + 1)) K))
  (fin : ∀ i loc os, I i loc os → X i = none → EXs c n e loc os orelse K)
  {A : Around} (hA : AR A n) (h0 : I 0 loc os) (F : FR c e loc os ρ s) (h1 : P 0 s.heap) (y : OutY c Y ρ s.heap) (hL : e.env.locals ∉ Y) :
  codeAny (MM c.w) A (.forLoop target it body orelse e.env) (fun r s' => match r with | .ok f => ∃ af loc' os' ρ', K af loc' os' ∧ FR c e loc' os' ρ' s' ∧ Ext c.tabs (Y ++ [e.env.locals]) ρ s ρ' s' ∧ FlR ρ' s'.heap af f | .error _ => False) s := by
 show codeAny _ _ _ (FQ c e K Y ρ s) s
 refine codeAny_forLoop_any (FI c e I N P Y ρ s) ?_ N ⟨0, loc, os, ρ, rfl, h0, F, h1, y, Ext.refl ..⟩
 rintro m s1 ⟨i, loc1, os1, ρ1, rfl, i1, F1, p1, y1, E1⟩
 refine wpAny_mono (next A hA i os1 ρ1 s1 E1.pre F1.hr ⟨loc1, i1⟩ p1 y1) (fun r s2 h2 => ?_) fun ω ω z => z.elim
 have up : ∀ {ρ ρ' s s'}, Ext c.tabs [e.env.locals] ρ s ρ' s' → Ext c.tabs (Y ++ [e.env.locals]) ρ s ρ' s' := fun E => E.weaken fun a h => List.mem_append_right _ h
 have upO : ∀ {ρ s s'}, Outs c Y ρ s s' → Ext c.tabs (Y ++ [e.env.locals]) ρ s ρ s' := fun O => O.ext fun a h => List.mem_append_left _ h
 cases r with
 | none =>
  obtain ⟨hx, O⟩ := h2
  refine we (fin i loc1 os1 i1 hx A hA ρ1 s2 (O.fr y1 hL F1)) fun f s3 af loc3 os3 ρ3 k F3 E3 r => ?_
  exact (qz af loc3 os3 ρ3 k F3 ((E1.trans (upO O)).trans (up E3)) r)
 | some v =>
  refine wpAny_mono h2 (fun ω s3 h3 => ?_) fun ω ω z => z.elim
  refine x_a2 h3 fun O p3 z36y => ?_; clear h3; refine x_ea z36y fun x hx r3 => ?_; clear z36y
  have F3 := O.fr y1 hL F1
  refine wpAny_mono (turn i x loc1 os1 i1 hx A hA ρ1 s3 v F3 r3) (fun ω s4 z => ?_) fun ω ω z => z.elim
  refine qw z fun loc4 os4 ρ4 k4 F4 E4 => ?_; clear z
  refine we (k4 A hA ρ4 s4 F4) fun f s5 af loc5 os5 ρ5 k5 F5 E5 r5 => ?_
  have E35 := E4.trans E5
  have E := (E1.trans (upO O)).trans (up E35)
  have y3o : ∀ a ∈ Y, ∃ o, s3.heap.get? a = some o ∧ (o.cls ≠ .none ∧ ∀ es ep, o.data ≠ .dict es ep) ∧ ¬ Imm o ∧ qqh o := T.obj _ _ p3
  have kept : ∀ a ∈ Y, ∀ o, s3.heap.get? a = some o → s5.heap.get? a = some o := fun a ha o ho => by
   refine xy (y3o a ha) fun o' ho' hc ω => ?_
   rw [ho] at ho'; cases ho'
   exact (E35.keep a o ho (y1.out a ha) (fun q => hL (by simp at q; exact q ▸ ha)) (F3.hr.gi.not_tab ho hc.1)).of hc.2
  have p5 := T.frame _ _ _ p3 kept
  have lt : i < N := hN i x hx
  have fin' : I (i + 1) loc5 os5 → ∃ m, m < N - i ∧ FI c e I N P Y ρ s m s5 := fun k =>
   (y_ea (N - (i + 1)) (by exact Nat.sub_succ_lt_self N i (hN i x hx)) ⟨i + 1, loc5, os5, ρ5, rfl, k, F5, p5, ⟨fun a ha q => by
    refine x_ea (y3o a ha) fun o' ho' ω => ?_
    exact absurd (Heap.lt_size ho') (Nat.not_lt.mpr (E35.new a q (y1.out a ha))), y1.new, T.obj _ _ p5⟩, E⟩)
  cases af with
  | next => cases (show f = .next from r5); exact fin' k5
  | cont => cases (show f = .cont from r5); exact fin' k5
  | brk => cases (show f = .brk from r5); exact (qz .next loc5 os5 ρ5 k5 F5 E rfl)
  | ret a => refine x_ea r5 fun u z35y r' => ?_; clear r5; subst z35y; exact ⟨.ret a, loc5, os5, ρ5, k5, F5, E, u, rfl, r'⟩
theorem OutY.none {h : Heap} : OutY c [] ρ h := ⟨fun ω h => (nomatch h), fun ω h => (nomatch h), fun ω h => (nomatch h)⟩
theorem qc9 {target iter : Expr} {body orelse : List Stmt} {p : Pos} (h : EV c n e loc os iter fun a os1 => ∃ (X : Nat → Option AV) (N : Nat) (I : Nat → Loc → List AO → Prop), I 0 loc os1 ∧ (∀ i x, X i = some x → i < N) ∧
   qjk c n a os1 target X (fun i os => ∃ loc, I i loc os) ∧
   (∀ i x loc os, I i loc os → X i = some x → ST c n e loc os (assign target e.env) x fun loc' os' => EXs c n e loc' os' body (Turn (I (i + 1)) K)) ∧
   (∀ i loc os, I i loc os → X i = none → EXs c n e loc os orelse K))
  (hs : ∀ env x, foldedSetIterable iter env x = pure x := by intro ω ω; rfl) : EX c n e loc os (.For target iter body orelse p) K := fun A hA ρ s F => by
 refine wpAny_For (qi (h A hA ρ s F) fun v s1 a os1 ρ1 z3q H1 E1 r1 => ?_) (hs _)
 refine ym z3q fun X N I i0 hN T z34y => ?_; clear z3q; obtain ⟨turn, fin⟩ := z34y
 have F1 := F.ext E1 H1
 refine wpAny_mono (T A hA ρ1 s1 v H1 r1) (fun it s2 z => ?_) fun ω ω z => z
 refine xx z fun Y P it' O p0 z33y => ?_; clear z; obtain ⟨hY, nx⟩ := z33y
 have F2 := O.fr .none (fun h => nomatch h) F1
 have lt : e.env.locals < s1.heap.objs.size := by refine x_ea F1.ns fun m z32y ω => ?_; refine wf z32y fun o es ep ho ω => ?_; clear z32y; exact Heap.lt_size ho
 have y : OutY c Y ρ1 s2.heap := ⟨fun a ha q => absurd (H1.lt q) (Nat.not_lt.mpr (hY a ha)), fun a ha => Nat.le_trans H1.gi.size (hY a ha), it'.obj _ _ p0⟩
 refine codeAny_mono (qqb I N it' hN nx turn fin hA i0 F2 p0 y fun q => absurd lt (Nat.not_lt.mpr (hY _ q))) fun r s3 z => ?_
 cases r with
 | error _ => exact z.elim
 | ok f =>
  refine v6 z fun af loc3 os3 ρ3 k3 F3 E3 r3 => ?_; clear z
  have E2 : Ext c.tabs [e.env.locals] ρ1 s1 ρ1 s2 := O.ext fun a h => nomatch h
  have E2' : Ext c.tabs (Y ++ [e.env.locals]) ρ1 s1 ρ3 s3 := (E2.weaken fun a h => List.mem_append_right _ h).trans E3
  exact ⟨af, loc3, os3, ρ3, k3, F3, E1.up.trans (E2'.news hY), r3⟩
theorem qkb {o : Obj} {T : String} (e : o.cls = .type T) (h : T ∉ ["tuple", "builtin_function_or_method", "function", "range", "slice"]) : ¬ Imm o := fun z => by
 refine x_ea z.cls fun T' q hT => ?_
 rw [e] at q; injection q with q; subst q; exact h hT
theorem IT.one {it : Addr} {T : String} {vs : Nat → Array Value} {P : Nat → Heap → Prop} (h : ∀ i h, P i h ↔ ∃ o, h.get? it = some o ∧ o.cls = .type T ∧ o.data = .fields (vs i)) (hT : T ∉ ["tuple", "builtin_function_or_method", "function", "range", "slice"])
  (hv : ∀ i q t, (vs i)[1]? ≠ some (.str q t)) : IT c [it] P :=
 ⟨fun i h1 h2 p k => by refine x_ea ((h i h1).mp p) fun o e r => ?_; exact (h i h2).mpr (y_ea o (k it (by simp) o e) r), fun i h1 p a ha => by
  simp at ha; subst ha
  refine xy ((h i h1).mp p) fun o e r1 r2 => ?_
  exact (qar o e ⟨(fun z => by rw [r1] at z; cases z), (fun es ep z => by rw [r2] at z; cases z)⟩ (qkb r1 hT) (fun ws z q t => by rw [r2] at z; cases z; exact hv i q t))⟩
theorem qb9 {ob : Obj} (H : c.HR ρ os s) : Outs c [] ρ s { s with heap := s.heap.push ob } :=
 ⟨fun b o e ω => Heap.get?_push_of_some ob e, qe, H.gi.bare, rfl, Nat.le_refl _⟩
theorem qca {it : Addr} {h' : Heap} {k : Nat} (H : c.HR ρ os s) (ht : s.toks ≤ k) (sb : Heap.SameBut it s.heap h') : Outs c [it] ρ s { s with heap := h', toks := k } :=
 ⟨fun b o e q => (sb.2 b fun z => q (by simp [z])).trans e, Nat.le_of_eq sb.1.symm, H.gi.bare, rfl, ht⟩
theorem qex {it : Addr} {h' : Heap} {k : Nat} (H : c.HR ρ os s) (ht : s.toks ≤ k) (sb : Heap.ExtBut it s.heap h') (hs : s.heap.objs.size ≤ h'.objs.size) : Outs c [it] ρ s { s with heap := h', toks := k } :=
 ⟨fun b o e q => sb b o (fun z => q (by simp [z])) e, hs, H.gi.bare, rfl, ht⟩
theorem qq {k : Nat} {xs : List AV} (H : c.HR ρ os s) (hk : os[k]? = some (.list xs)) {a : Addr} (ha : ρ[k]? = some a) : ∃ vs : List Value, IsL s.heap a vs.toArray ∧ VRs ρ s.heap xs vs := by
 refine x_ea (H.objs k _ hk) fun a' e x => ?_
 rw [ha] at e; cases e; exact x
theorem qgu {k : Nat} {xs : List AV} {target : Expr} {I : Nat → List AO → Prop} (hk : os[k]? = some (.list xs)) (hI : ∀ i os, I i os → os[k]? = some (.list xs)) (ht : ∀ it v, letOwnedTupleGo target it v = pure ()) :
  qjk c n (.ref k) os target (fun i => xs[i]?) I := fun A hA ρ s v H r => by
 refine x_ea r fun l hl z31y => ?_; clear r; subst z31y
 refine x_ea (qq H hk hl) fun vs e ω => ?_
 refine wpAny_pyIter_list e.list (yn [s.heap.objs.size] (fun i h => h.IsListIter s.heap.objs.size l i) (IT.one (T := "list_iterator") (vs := fun i => #[.ref l, .int i 0]) (fun i h => Iff.rfl) (by decide) (by exact fun i q t => not_eq_of_beq_eq_false rfl)) (qb9 H) ⟨_, Heap.get?_push_size _ rfl, rfl, rfl⟩ ⟨(by simp), ?_⟩)
 intro A hA i os' ρ' s' hp H' hi p y
 refine x_ea (qq H' (hI i os' hi) (yb hp hl)) fun vs' e' r' => ?_
 cases hx : xs[i]? with
 | some x =>
  refine x_ea (r'.get hx) fun u hu ru => ?_
  refine wpAny_pyNext_list_item p e'.list (by simpa using hu) fun h' p' sb => ?_
  dsimp only
  rw [ht]
  have O := qca (k := s'.toks) H' (Nat.le_refl _) sb
  exact wpAny_pure (y_a2 O p' (y_ea x hx (O.vr y ru)))
 | none =>
  have hn : vs'.toArray[i]? = none := by
   have := r'.length
   have h2 := List.getElem?_eq_none_iff.mp hx
   simp; exact le_of_eq_of_le this h2
  exact q6 (wpAny_pyNext_list_end hA.hd p e'.list hn fun h' eb hs => ⟨hx, qex (k := s'.toks) H' (Nat.le_refl _) eb hs⟩)
theorem qrd {x : Str} {target : Expr} {I : Nat → List AO → Prop} (ha : x.cps.all (· < 128) = true) (ht : ∀ it v, letOwnedTupleGo target it v = pure ()) :
  qjk c n (.str x) os target (fun i => (x.cps[i]?).map fun c => .str ⟨#[c]⟩) I := fun A hA ρ s v H r => by
 obtain ⟨t, rfl⟩ := r
 refine wpAny_pyIter_ascii ha (yn [s.heap.objs.size] (fun i h => h.IsStrIter s.heap.objs.size "str_ascii_iterator" x t i) (IT.one (T := "str_ascii_iterator") (vs := fun i => #[.str x t, .int i 0]) (fun i h => Iff.rfl) (by decide) (by exact fun i q t_1 => not_eq_of_beq_eq_false rfl)) (qb9 H) ⟨_, Heap.get?_push_size _ rfl, rfl, rfl⟩ ⟨(by simp), ?_⟩)
 intro A hA i os' ρ' s' hp H' hi p y
 cases hx : x.cps[i]? with
 | some ch =>
  refine wpAny_pyNext_ascii_item p hx fun h' p' sb => ?_
  dsimp only
  rw [ht]
  have O := qca (k := s'.toks + 1) H' (Nat.le_succ _) sb
  exact wpAny_pure ⟨O, p', .str ⟨#[ch]⟩, by show Option.map _ _ = _; rw [hx]; rfl, _, rfl⟩
 | none => exact q6 (wpAny_pyNext_ascii_end hA.hd p hx fun h' eb hs => ⟨by show Option.map _ _ = _; rw [hx]; rfl, qex (k := s'.toks) H' (Nat.le_refl _) eb hs⟩)
theorem qai {a b st : Int} {target : Expr} {I : Nat → List AO → Prop} (hs : Builtin.Range.small a b st = true) (ht : ∀ it v, letOwnedTupleGo target it v = pure ()) :
  qjk c n (.rng a b st) os target (fun i => if (i : Int) < Builtin.Range.rangeSize a b st then some (.int (a + i * st)) else none) I := fun A hA ρ s v H r => by
 refine x_e4 r fun r t t' t'' z30y => ?_; obtain ⟨rfl, hr⟩ := z30y
 refine wpAny_pyIter_range hr hs (yn [s.heap.objs.size] (fun i h => IsRangeIter h s.heap.objs.size (a + i * st) (Builtin.Range.rangeSize a b st - i) st) ?_ (qb9 H) (by simpa using Heap.get?_push_size _ rfl) ⟨(by simp), ?_⟩)
 ·refine ⟨fun i h1 h2 p k => k _ (by simp) _ p, fun i h1 p a ha => ?_⟩
  simp at ha; subst ha
  exact (qar _ p ⟨(by exact not_eq_of_beq_eq_false rfl), (by intro es ep z; cases z)⟩ (qkb rfl (by decide)) (fun ws z q t => by cases z; exact not_eq_of_beq_eq_false rfl))
 intro A hA i os' ρ' s' hp H' hi p y
 by_cases hx : (i : Int) < Builtin.Range.rangeSize a b st
 ·refine wpAny_pyNext_range_item p (by exact Int.sub_pos_of_lt hx) fun h' p' sb => ?_
  dsimp only
  rw [ht]
  have O := qca (k := s'.toks + 1) H' (Nat.le_succ _) sb
  refine wpAny_pure ⟨O, ?_, .int (a + i * st), if_pos hx, _, rfl⟩
  have e1 : a + ((i + 1 : Nat) : Int) * st = a + i * st + st := by push_cast; rw [Int.add_mul, Int.one_mul, Int.add_assoc]
  have e2 : Builtin.Range.rangeSize a b st - ((i + 1 : Nat) : Int) = Builtin.Range.rangeSize a b st - i - 1 := by push_cast; exact Eq.symm (Int.sub_sub (Builtin.Range.rangeSize a b st) (↑i) 1)
  rw [e1, e2]; exact p'
 ·exact q6 (wpAny_pyNext_range_end hA.hd p (by lia) fun h' eb hs => ⟨if_neg hx, qex (k := s'.toks) H' (Nat.le_refl _) eb hs⟩)
end
end Mine
end
section
open PySem PySem.W PyProof.Rows PySem.Calls PySem.Spec
namespace Mine
theorem len1 {α : Type} : ∀ {l : List α}, l.length = 1 → ∃ a, l = [a]
 | [a], _ => ⟨a, rfl⟩
theorem len2 {α : Type} : ∀ {l : List α}, l.length = 2 → ∃ a b, l = [a, b]
 | [a, b], _ => (y_e2 a b rfl)
theorem len3 {α : Type} : ∀ {l : List α}, l.length = 3 → ∃ a b c, l = [a, b, c]
 | [a, b, c], _ => (y_e3 a b c rfl)
theorem len4 {α : Type} : ∀ {l : List α}, l.length = 4 → ∃ a b c d, l = [a, b, c, d]
 | [a, b, c, d], _ => (y_e4 a b c d rfl)
theorem len5 {α : Type} : ∀ {l : List α}, l.length = 5 → ∃ a b c d e, l = [a, b, c, d, e]
 | [a, b, c, d, e], _ => (y_e4 a b c d ⟨e, rfl⟩)
theorem qaj {ns : List Str} {vs : List Value} {i : Nat} {x : Str} {v : Value} (nd : ns.Nodup) (hx : ns[i]? = some x) (hv : vs[i]? = some v) : (ns.zip vs).reverse.lookup x = some v := by
 induction ns generalizing vs i with
 | nil => cases hx
 | cons y ns ih =>
  cases vs with
  | nil => assumption
  | cons u vs =>
   have nd' := List.nodup_cons.mp nd
   rw [List.zip_cons_cons, List.reverse_cons, List.lookup_append]
   cases i with
   | zero =>
    simp at hx hv
    subst hx hv
    have : (ns.zip vs).reverse.lookup y = none := by
     rw [List.lookup_eq_none_iff]
     intro p hp
     have hm := List.mem_reverse.mp hp
     have := (List.of_mem_zip (a := p.1) (b := p.2) hm).1
     exact bne_iff_ne.mpr fun (z : y = p.1) => nd'.1 (by rw [z]; exact this)
    rw [this]; simp
   | succ i => rw [ih nd'.2 hx hv]; rfl
theorem LocR.start {ρ : List Addr} {h : Heap} {m : Str → Option Value} : ∀ {ls : List Str} {as : List AV} {vs : List Value} {k : Nat}, VRs ρ h as vs → (∀ (i : Nat) (x : Str) (v : Value), ls[i]? = some x → vs[i]? = some v → m x = some v) → LocR ρ h m ls (as.map some ++ List.replicate k none)
 | [], _, _, _, _, _ => by delta LocR; trivial
 | x :: xs, [], _, 0, _, _ => by delta LocR; trivial
 | x :: xs, [], vs, k + 1, r, hm => by
  show LocR ρ h m xs (List.replicate k none)
  have r' : vs = [] := r
  exact LocR.start (ls := xs) (as := []) (vs := []) (k := k) rfl fun i y v e q => by cases q
 | x :: xs, a :: as, vs, k, ⟨v, r, e, q, z⟩, hm => by
  subst e
  exact ⟨(y_ea v (hm 0 x v rfl rfl) q), LocR.start z fun i y u e q => hm (i + 1) y u e q⟩
structure FnRec (c : CX) (f : Addr) (fd : FuncData) (body : List Stmt) (ls gs : List Str) : Prop where
 look : ∃ o, c.K.lookup f = some o ∧ o.data = .func fd
 code : ∃ cA oc vs t, fd.code = .ref cA ∧ c.K.lookup cA = some oc ∧ oc.data = .fields vs ∧ vs[1]? = some (.str fd.qualname t)
 body : fd.body = .stmts body
 co : fd.scope.isCoroutine = false
 gen : fd.scope.isGenerator = false
 kind : fd.scope.kind = .function
 cells : ∀ x ∈ fd.scope.names, x.2 ≠ .cell
 glob : fd.globals = mainGlobals
 blt : fd.builtins = builtinsNs
 nodup : ls.Nodup
 ls : ∀ x ∈ ls, fd.scope.names.lookup x = some .local ∧ (x == ("__debug__" : Str)) = false
 gs : ∀ x ∈ gs, fd.scope.names.lookup x = some .globalImplicit ∧ (x == ("__debug__" : Str)) = false
noncomputable abbrev efOf (fd : FuncData) (L f : Addr) (ls gs : List Str) : EF := ⟨callEnv fd L f, ls, gs⟩
theorem FnRec.ef {c : CX} {f : Addr} {fd : FuncData} {body : List Stmt} {ls gs : List Str} (R : FnRec c f fd body ls gs) (L : Addr) : (efOf fd L f ls gs).Ok :=
 ⟨R.kind, R.glob, R.blt, R.nodup, R.ls, R.gs⟩
noncomputable def AF.val : AF → AV
 | .ret a => a
 | _ => .none
theorem qp2 : ∀ (a : AV), (AF.ret a).val = a := by intros; rfl
theorem qp3 : AF.val .next = .none := by intros; rfl
theorem qp4 : AF.val .brk = .none := by intros; rfl
theorem qp5 : AF.val .cont = .none := by intros; rfl
inductive Ret (m : Nat) (K : AV → List AO → Prop) (f : AF) (loc : Loc) (os : List AO) : Prop
 | mk (os1 g : List AO) (h1 : os = os1 ++ g) (h2 : m ≤ os1.length) (h3 : AOs.Un os1.length os1) (h4 : f.val.Un os1.length) (k : K f.val os1)
theorem FnRec.codeRec {c : CX} {f : Addr} {fd : FuncData} {body : List Stmt} {ls gs : List Str} (R : FnRec c f fd body ls gs) {h : Heap} (hk : c.K.In h) : h.CodeRec fd.code fd.qualname := by
 refine v6 R.code fun cA oc vs t e1 e2 e3 e4 => ?_
 exact ⟨cA, oc, vs, t, e1, hk _ _ e2, e3, e4⟩
section
variable {c : CX} {n : Nat} {os : List AO} {K : AV → List AO → Prop} {f : Addr} {fd : FuncData} {body : List Stmt} {ls gs : List Str}
noncomputable def CGc (c : CX) (n : Nat) (f : Value) (args : List AV) (os : List AO) (K : AV → List AO → Prop) : Prop :=
 ∀ A, AR A n → ∀ ρ s vs, c.HR ρ os s → VRs ρ s.heap args vs → codeAny (MM c.w) A (.call f ⟨vs, []⟩) (fun r s' => match r with | .ok (.ret v) => Post c ρ s K v s' | _ => False) s
theorem CGc.cg {f : Value} {args : List AV} (h : CGc c n f args os K) : CG c n f args os K := fun A hA ρ s vs H V => wpAny_call (codeAny_mono (h A hA ρ s vs H V) fun r s' z => by
 rcases r with e | (v | _ | _ | _) <;> first | exact z.elim | exact z)
theorem qmd (C : c.Ok) (R : FnRec c f fd body ls gs) {args dargs : List AV}
  (hb : ∀ s, c.GI s → ∀ vs : List Value, vs.length = args.length → ∃ ds : List Value, (∀ ρ h, VRs ρ h dargs ds) ∧ BindsTo s fd ⟨vs, []⟩ ((ls.take (args.length + dargs.length)).zip (vs ++ ds)))
  (h : ∀ L, EXs c n (efOf fd L f ls gs) ((args ++ dargs).map some ++ List.replicate (ls.length - (args ++ dargs).length) none) os body (Ret os.length K)) :
  CGc c (n + 1) (.ref f) args os K := fun A hA ρ s vs H V => by
 refine x_ea R.look fun o ho hd => ?_
 have hin := gi_k H.gi C
 refine x_ea (hb s H.gi vs V.length) fun ds hds hbind => ?_
 have room : A.depth < recursionLimit := by have := hA.depth; show A.depth < 1000; lia
 refine codeAny_call_def room (hin _ _ ho) hd H.gi.lim (R.codeRec hin) R.body hbind R.cells (fun x hx => ?_) (fun h₀ hns k₀ => ?_) R.co R.gen R.kind
 ·have hm : (x.1, x.2) ∈ (ls.take (args.length + dargs.length)).zip (vs ++ ds) := hx
  exact (R.ls _ (List.mem_of_mem_take (List.of_mem_zip hm).1)).1
 have hV : VRs ρ s.heap (args ++ dargs) (vs ++ ds) := V.append (hds _ _)
 have hsz : s.heap.objs.size ≤ h₀.objs.size := by
  refine wf hns fun o ω ω ho ω => ?_; clear hns
  exact Nat.le_of_lt (Heap.lt_size ho)
 have H0 : c.HR ρ os { s with heap := h₀, toks := s.toks + ((ls.take (args.length + dargs.length)).zip (vs ++ ds)).length } := H.keeps (d := s.drawn) H.gi.bare (Nat.le_add_right _ _) k₀ hsz
 have E0 : Ext c.tabs [] ρ s ρ { s with heap := h₀, toks := s.toks + ((ls.take (args.length + dargs.length)).zip (vs ++ ds)).length } := Ext.keeps (d := s.drawn) k₀ hsz
 have F0 : FR c (efOf fd s.heap.objs.size f ls gs) ((args ++ dargs).map some ++ List.replicate (ls.length - (args ++ dargs).length) none) os ρ { s with heap := h₀, toks := s.toks + ((ls.take (args.length + dargs.length)).zip (vs ++ ds)).length } := by
  refine ⟨H0, R.ef _, (y_ea _ hns (LocR.start (y0 (List.prefix_refl _) k₀ hV) fun i x v hx hv => ?_)), fun q => absurd (H.lt q) (Nat.lt_irrefl _), H.gi.size⟩
  have hl := hV.length
  have hi : i < args.length + dargs.length := by
   have := (List.getElem?_eq_some_iff.mp hv).1
   simp at hl this; exact Nat.lt_of_lt_of_eq this hl
  exact qaj (R.nodup.sublist (List.take_sublist _ _)) ((List.getElem?_take_of_lt hi).trans hx) hv
 refine wpAny_mono (h s.heap.objs.size _ (hA.deeper _) ρ _ F0) (fun fl s1 y => ?_) fun ω ω z => z.elim
 obtain ⟨af, loc1, os1, ρ1, ⟨os2, g, rfl, hm, hu, hv, k1⟩, F1, E1, r1⟩ := y
 have E : Ext c.tabs [] ρ s (ρ1.take os2.length) s1 := (((E0.weaken (fun a h => (nomatch h))).trans E1).news (Y := [s.heap.objs.size]) (X := []) (by simp)).forget (Nat.le_trans (Nat.le_of_eq H.len) hm)
 have H1 := HRel.forget F1.hr hu
 cases af with
 | ret a => refine x_ea r1 fun v z42y r' => ?_; clear r1; subst z42y; exact ⟨a, os2, _, k1, H1, E, VR.take _ _ hv r'⟩
 | next => cases (show fl = .next from r1); exact ⟨.none, os2, _, k1, H1, E, rfl⟩
 | brk => cases (show fl = .brk from r1); exact ⟨.none, os2, _, k1, H1, E, rfl⟩
 | cont => cases (show fl = .cont from r1); exact ⟨.none, os2, _, k1, H1, E, rfl⟩
theorem wh (C : c.Ok) (R : FnRec c f fd body ls gs) {args dargs : List AV}
  (hb : ∀ s, c.GI s → ∀ vs : List Value, vs.length = args.length → ∃ ds : List Value, (∀ ρ h, VRs ρ h dargs ds) ∧ BindsTo s fd ⟨vs, []⟩ ((ls.take (args.length + dargs.length)).zip (vs ++ ds)))
  (h : ∀ L, EXs c n (efOf fd L f ls gs) ((args ++ dargs).map some ++ List.replicate (ls.length - (args ++ dargs).length) none) os body (Ret os.length K)) :
  CG c (n + 1) (.ref f) args os K := (qmd C R hb h).cg
end
end Mine
end
section
open PySem PySem.W PyProof.Rows PySem.Calls PySem.Spec
namespace Mine
theorem qr {α : Type} {M : Model} {A : Around} {s : Shared} {t : Sem α} {Q : α → Shared → Prop} {E : Value → Shared → Prop}
  (h : wpAny M A t (fun a s' => s.toks ≤ s'.toks → Q a s') E s) : wpAny M A t Q E s :=
 wpAny_mono (wpAny_toks h) (fun ω ω x => x.2 x.1) fun ω ω x => x.2
section
variable {c : CX} {n : Nat} {os : List AO} {K : AV → List AO → Prop}
theorem qm1 {a b : Int} (h : K (.int (a + b)) os) : TV2 c n (binaryOp .Add) (.int a) (.int b) os K := by
 rintro A hA ρ s v u H q4x; obtain ⟨t, hv⟩ := q4x; rintro q5x; obtain ⟨t', hu⟩ := q5x
 subst hv hu; exact add_int (Post.ret _ (Nat.le_succ _) H h ⟨_, rfl⟩)
theorem qkz {a b : Int} (h : K (.int (a + b)) os) : TV2 c n (inplaceOp .Add) (.int a) (.int b) os K := by
 rintro A hA ρ s v u H q6x; obtain ⟨t, hv⟩ := q6x; rintro q7x; obtain ⟨t', hu⟩ := q7x
 subst hv hu; exact iadd_int (Post.ret _ (Nat.le_succ _) H h ⟨_, rfl⟩)
theorem qm6 {a b : Int} (h : K (.int (a - b)) os) : TV2 c n (binaryOp .Sub) (.int a) (.int b) os K := by
 rintro A hA ρ s v u H q8x; obtain ⟨t, hv⟩ := q8x; rintro q9x; obtain ⟨t', hu⟩ := q9x
 subst hv hu; exact sub_int (Post.ret _ (Nat.le_succ _) H h ⟨_, rfl⟩)
theorem qf1 {a b : Int} (hb : b ≠ 0) (h : K (.int (a.fmod b)) os) : TV2 c n (binaryOp .Mod) (.int a) (.int b) os K := by
 rintro A hA ρ s v u H q10x; obtain ⟨t, hv⟩ := q10x; rintro q11x; obtain ⟨t', hu⟩ := q11x
 subst hv hu; exact mod_int hb (Post.ret _ (Nat.le_succ _) H h ⟨_, rfl⟩)
theorem qky {a b : Int} (hb : b ≠ 0) (hs : b.natAbs < 1073741824) (h : K (.int (a.fdiv b)) os) : TV2 c n (binaryOp .FloorDiv) (.int a) (.int b) os K := by
 rintro A hA ρ s v u H q12x; obtain ⟨t, hv⟩ := q12x; rintro q13x; obtain ⟨t', hu⟩ := q13x
 subst hv hu; exact floordiv_int hb (Post.ret _ (Nat.le_succ _) H h ⟨_, rfl⟩) (.inl (PyProof.noPylong_small hs))
theorem qm5 {a : Int} (h : K (.int (-a)) os) : TV1 c n (unaryOp .USub) (.int a) os K := by
 rintro A hA ρ s v H q14x; obtain ⟨t, hv⟩ := q14x
 subst hv; exact neg_int (Post.ret _ (Nat.le_succ _) H h ⟨_, rfl⟩)
theorem qqt {a b : Int} (h : K (.bool (decide (a < b))) os) : TV2 c n (compareOp .Lt) (.int a) (.int b) os K := by
 rintro A hA ρ s v u H q15x; obtain ⟨t, hv⟩ := q15x; rintro q16x; obtain ⟨t', hu⟩ := q16x
 subst hv hu; exact lt_int (Post.now H h rfl)
theorem qqp {a b : Int} (h : K (.bool (decide (b < a))) os) : TV2 c n (compareOp .Gt) (.int a) (.int b) os K := by
 rintro A hA ρ s v u H q17x; obtain ⟨t, hv⟩ := q17x; rintro q18x; obtain ⟨t', hu⟩ := q18x
 subst hv hu; exact gt_int (Post.now H h rfl)
theorem qqo {a b : Int} (h : K (.bool (decide (b ≤ a))) os) : TV2 c n (compareOp .GtE) (.int a) (.int b) os K := by
 rintro A hA ρ s v u H q19x; obtain ⟨t, hv⟩ := q19x; rintro q20x; obtain ⟨t', hu⟩ := q20x
 subst hv hu; exact ge_int (Post.now H h rfl)
theorem qjn {a b : Int} (h : K (.bool (a == b)) os) : TV2 c n (compareOp .Eq) (.int a) (.int b) os K := by
 rintro A hA ρ s v u H q21x; obtain ⟨t, hv⟩ := q21x; rintro q22x; obtain ⟨t', hu⟩ := q22x
 subst hv hu; exact eq_int (Post.now H h rfl)
theorem qqu {a b : Int} (h : K (.bool (a != b)) os) : TV2 c n (compareOp .NotEq) (.int a) (.int b) os K := by
 rintro A hA ρ s v u H q23x; obtain ⟨t, hv⟩ := q23x; rintro q24x; obtain ⟨t', hu⟩ := q24x
 subst hv hu; exact ne_int (Post.now H h rfl)
theorem qa9 {x y : Str} (hl : x.length + y.length ≤ sizeLine) (h : K (.str (x ++ y)) os) : TV2 c n (binaryOp .Add) (.str x) (.str y) os K := by
 rintro A hA ρ s v u H q25x; obtain ⟨t, hv⟩ := q25x; rintro q26x; obtain ⟨t', hu⟩ := q26x
 subst hv hu; exact qr (add_str (fun t' tk ht => Post.ret _ ht H h ⟨_, rfl⟩) hl)
theorem qab {x y : Str} (hl : x.length + y.length ≤ sizeLine) (h : K (.str (x ++ y)) os) : TV2 c n (inplaceOp .Add) (.str x) (.str y) os K := by
 rintro A hA ρ s v u H q27x; obtain ⟨t, hv⟩ := q27x; rintro q28x; obtain ⟨t', hu⟩ := q28x
 subst hv hu; exact qr (iadd_str (fun t' tk ht => Post.ret _ ht H h ⟨_, rfl⟩) hl)
theorem qqn {x y : Str} (h : K (.bool (x == y)) os) : TV2 c n (compareOp .Eq) (.str x) (.str y) os K := by
 rintro A hA ρ s v u H q29x; obtain ⟨t, hv⟩ := q29x; rintro q30x; obtain ⟨t', hu⟩ := q30x
 subst hv hu; exact eq_str (Post.now H h rfl)
theorem qjo {x y : Str} (h : K (.bool (x != y)) os) : TV2 c n (compareOp .NotEq) (.str x) (.str y) os K := by
 rintro A hA ρ s v u H q31x; obtain ⟨t, hv⟩ := q31x; rintro q32x; obtain ⟨t', hu⟩ := q32x
 subst hv hu; exact ne_str (Post.now H h rfl)
theorem qqq {x y : Str} (h : K (.bool (decide (y.cps.toList < x.cps.toList))) os) : TV2 c n (compareOp .Gt) (.str x) (.str y) os K := by
 rintro A hA ρ s v u H q33x; obtain ⟨t, hv⟩ := q33x; rintro q34x; obtain ⟨t', hu⟩ := q34x
 subst hv hu; exact P.gt_str (Post.now H h rfl)
theorem qid {x y : Str} (h : K (.bool (!!(Builtin.Str.occurrences x y 0 x.length 1).isEmpty)) os) : TV2 c n (compareOp .NotIn) (.str y) (.str x) os K := by
 rintro A hA ρ s v u H q35x; obtain ⟨t, hv⟩ := q35x; rintro q36x; obtain ⟨t', hu⟩ := q36x
 subst hv hu; exact notIn_str (Post.now H h rfl)
theorem qba {a : AV} {b : Bool} (hb : ∀ ρ h v, VR ρ h a v → (v == .none) = b) (h : K (.bool b) os) : TV2 c n (compareOp .Is) a .none os K := fun A hA ρ s v u H hv hu => by
 rw [show u = .none from hu]; exact is_none (by rw [hb _ _ _ hv]; exact Post.now H h rfl)
theorem qb3 {ρ : List Addr} {h : Heap} {v : Value} (r : VR ρ h .none v) : (v == .none) = true := by rw [show v = .none from r]; rfl
theorem qlg {ρ : List Addr} {h : Heap} {v : Value} {k : Nat} (r : VR ρ h (.ref k) v) : (v == .none) = false := by refine x_ea r fun a ω z47y => ?_; clear r; subst z47y; rfl
theorem qic {i : Nat} {x : Str} (h : K (.bool true) os) : TV2 c n (compareOp .IsNot) (.str x) (.ref i) os K := by
 rintro A hA ρ s v u H q37x; obtain ⟨t, hv⟩ := q37x; rintro q38x; refine x_ea q38x fun x hx hu => ?_; clear q38x
 subst hu hv
 exact wpAny_isNot_other rfl (by exact Ne.symm (not_eq_of_beq_eq_false rfl)) (Post.now H h rfl)
theorem qib {i : Nat} (h : K (.bool false) os) : TV2 c n (compareOp .IsNot) (.ref i) (.ref i) os K := by
 rintro A hA ρ s v u H q39x; refine x_ea q39x fun y hy hv => ?_; clear q39x; rintro q40x; refine x_ea q40x fun x hx hu => ?_; clear q40x
 subst hu hv
 rw [hx] at hy; cases hy
 exact wpAny_isNot_ref_self (Post.now H h rfl)
theorem qqs {i : Nat} (h : K (.bool true) os) : TV2 c n (compareOp .Is) (.ref i) (.ref i) os K := by
 rintro A hA ρ s v u H q41x; refine x_ea q41x fun y hy hv => ?_; clear q41x; rintro q42x; refine x_ea q42x fun x hx hu => ?_; clear q42x
 subst hu hv
 rw [hx] at hy; cases hy
 exact wpAny_is_ref_self (Post.now H h rfl)
theorem qa4 {b : Bool} {K : Bool → List AO → Prop} (h : K b os) : TB1 c n truthy (.bool b) os K := fun A hA ρ s v H hv => by
 rw [show v = .bool b from hv]; exact wpAny_truthy_bool ⟨os, ρ, h, H, Ext.refl ..⟩
theorem qkq {x : Str} {K : Bool → List AO → Prop} (hl : x.length ≤ sizeLine) (h : K ((x.length : Int) != 0) os) : TB1 c n truthy (.str x) os K := by
 rintro A hA ρ s v H q44x; obtain ⟨t, hv⟩ := q44x
 subst hv
 have : sizeLine = 2 ^ 24 := rfl
 exact P.truthy_str (by lia) ⟨os, ρ, h, H.toks _ (by show s.toks ≤ s.toks + 1 + 1; lia), Ext.toks ..⟩
theorem qr6 {k : Nat} {xs : List AV} {K : Bool → List AO → Prop} (hk : os[k]? = some (.list xs)) (hl : xs.length ≤ sizeLine) (h : K (!xs.isEmpty) os) : TB1 c n truthy (.ref k) os K := by
 rintro A hA ρ s v H q45x; refine x_ea q45x fun a ha hv => ?_; clear q45x
 subst hv
 refine x_ea (qq H hk ha) fun vs e r => ?_
 have : sizeLine = 2 ^ 24 := rfl
 have hlen := r.length
 refine wpAny_truthy_list e.list (by simp; lia) ?_
 have : (!vs.toArray.isEmpty) = (!xs.isEmpty) := by cases vs <;> cases xs <;> simp_all
 rw [this]
 exact ⟨os, ρ, h, H.toks _ (by show s.toks ≤ s.toks + 1 + 1; lia), Ext.toks ..⟩
theorem uf {x : Str} (hl : x.length ≤ sizeLine) (h : K (.int x.length) os) : CG c n (.builtin "len") [.str x] os K := fun A hA ρ s vs H V => by
 refine qc V fun v r z45y z46y hr => ?_; clear V; subst z45y; obtain ⟨t, rfl⟩ := z46y
 cases (show r = [] from hr)
 have : sizeLine = 2 ^ 24 := rfl
 exact len_str (by lia) (Post.ret _ (by lia) H h ⟨_, rfl⟩)
theorem w7 {k : Nat} {xs : List AV} (hk : os[k]? = some (.list xs)) (hl : xs.length ≤ sizeLine) (h : K (.int xs.length) os) : CG c n (.builtin "len") [.ref k] os K := fun A hA ρ s vs H V => by
 refine qc V fun v r z43y z44y hr => ?_; clear V; subst z43y; refine x_ea z44y fun a ha z48y => ?_; clear z44y; subst z48y
 cases (show r = [] from hr)
 refine x_ea (qq H hk ha) fun vs e r => ?_
 have : sizeLine = 2 ^ 24 := rfl
 have hlen := r.length
 refine len_list e.list (by simp; lia) ?_
 have : ((vs.toArray.size : Nat) : Int) = (xs.length : Int) := by exact (fun {m n} => Int.ofNat_inj.mpr) hlen
 rw [this]
 exact Post.ret _ (by lia) H h ⟨_, rfl⟩
end
end Mine
end
section
open PySem PySem.W PyProof.Rows PySem.Calls PySem.Spec
namespace Mine
section
variable {c : CX} {n : Nat} {os : List AO} {K : AV → List AO → Prop} {e : EF} {loc : Loc}
theorem qsz {w : World} {A : Around} {E : Value → Shared → Prop} {s : Shared} {slice : Expr} {o i : Value} {Q : Value → Shared → Prop} (go : ∀ l, wpAny (MM w) A (operate l (getItem o i)) Q E s) : wpAny (MM w) A (subscripted slice false o i) Q E s := by
 cases slice with
 | Slice a b c p => cases c with
  | none => exact go _
  | some c => exact go _
 | _ => exact go _
theorem xr {w : World} {A : Around} {E : Value → Shared → Prop} {s : Shared} {value slice : Expr} {o i : Value} {T id : String} {Q : Value → Shared → Prop} (hT : s.TypeIs o T)
  (hl : typeLookup (.type T) "__getitem__" = pure (some (.builtin id))) (h : wpAny (MM w) A (getItem o i) Q E s) : wpAny (MM w) A (subscriptTail value slice o i) Q E s := by
 unfold subscriptTail
 refine wpAny_bind ?_
 rw [getitemInPython_of_ne hT.not_modules]
 refine wpAny_bind (wpAny_specialOf hT hl ?_)
 have go : ∀ l, wpAny (MM w) A (operate l (getItem o i)) (fun r s₃ => wpAny (MM w) A (letTemporaryGo value o r >>= fun ω => pure r) Q E s₃) E s := fun l =>
  wpAny_operating (wpAny_mono h (fun r s₃ h₃ => wpAny_bind (wpAny_letTemporaryGo (wpAny_pure h₃))) fun ω ω x => x)
 have fin : wpAny (MM w) A (subscripted slice false o i) (fun r s₃ => wpAny (MM w) A (letTemporaryGo value o r >>= fun ω => pure r) Q E s₃) E s := by
  exact qsz (fun l => go l)
 first
  | exact wpAny_pure (wpAny_bind fin)
  | exact wpAny_bind (wpAny_pure (wpAny_bind fin))
  | exact wpAny_bind fin
theorem qof {i : Int} {m : Nat} (h0 : 0 ≤ i) (h1 : i < m) : seqIndex? i m = some i.toNat := by
 exact seqIndex_of h0 h1
theorem yq {value slice : Expr} {x : Str} {i : Int} {ch : Nat} (hr : -(2 ^ 63) ≤ i ∧ i < 2 ^ 63) (hx : ((seqIndex? i x.length).bind (x.cps[·]?)) = some ch) (h : K (.str ⟨#[ch]⟩) os) : TV2 c n (subscriptTail value slice) (.str x) (.int i) os K := by
 rintro A hA ρ s v u H q46x; obtain ⟨t, hv⟩ := q46x; rintro q47x; obtain ⟨t', hu⟩ := q47x
 subst hv hu
 exact xr (typeIs_str s x t) F.slot_str_getitem.lookup (P.getItem_str (by simp; assumption) hx (Post.ret _ (Nat.le_succ _) H h ⟨_, rfl⟩))
theorem xu {value slice : Expr} {k : Nat} {xs : List AV} {i : Int} {x : AV} (hk : os[k]? = some (.list xs)) (hr : -(2 ^ 63) ≤ i ∧ i < 2 ^ 63) (hx : (0 ≤ i ∧ xs[i.toNat]? = some x) ∨ (i < 0 ∧ -(xs.length : Int) ≤ i ∧ xs[(i + xs.length).toNat]? = some x)) (h : K x os) :
  TV2 c n (subscriptTail value slice) (.ref k) (.int i) os K := by
 rintro A hA ρ s v u H q48x; refine x_ea q48x fun a ha hv => ?_; clear q48x; rintro q49x; obtain ⟨t', hu⟩ := q49x
 subst hv hu
 refine x_ea (qq H hk ha) fun vs e r => ?_
 have hlen := r.length
 rcases hx with ⟨h0, hx⟩ | ⟨h0, h1, hx⟩
 ·refine x_ea (r.get hx) fun y hy ry => ?_
  exact xr e.list.typeIs slot_list_getitem.lookup (wpAny_getItem_list e.list h0 hr.2 (by simpa using hy) (Post.now H h ry))
 ·refine x_ea (r.get hx) fun y hy ry => ?_
  exact xr e.list.typeIs slot_list_getitem.lookup (wpAny_getItem_list_neg e.list h0 (by exact le_of_eq_of_le (congrArg Neg.neg (congrArg Nat.cast hlen)) h1) hr.1 (by rw [show vs.toArray.size = xs.length by assumption]; simpa using hy) (Post.now H h ry))
theorem qux {value slice : Expr} {xs : List AV} {i : Int} {x : AV} (hr : 0 ≤ i ∧ i < 2 ^ 63) (hx : xs[i.toNat]? = some x) (h : K x os) :
  TV2 c n (subscriptTail value slice) (.tup xs) (.int i) os K := by
 rintro A hA ρ s v u H q50x; refine xx q50x fun a vs hv e ω r => ?_; clear q50x; rintro q51x; obtain ⟨t', hu⟩ := q51x
 subst hv hu
 have hlen := r.length
 refine x_ea (r.get hx) fun y hy ry => ?_
 have hi : i.toNat < vs.length := (List.getElem?_eq_some_iff.mp hy).1
 have hT : IsTup s.heap a vs.toArray := ⟨_, e, rfl, 0, rfl⟩
 exact xr hT.typeIs slot_tuple_getitem.lookup (getItem_tuple hT (by lia) hr.2 (qof hr.1 (by exact Int.lt_of_toNat_lt hi)) (by simpa using hy) (Post.now H h ry))
@[reducible] noncomputable def kI (K : Option Int → List AO → Prop) : AV → List AO → Prop := fun a os1 => ∃ i, a = .int i ∧ K (some i) os1
@[reducible] noncomputable def EVO (c : CX) (n : Nat) (e : EF) (loc : Loc) (os : List AO) (x : Option Expr) (K : Option Int → List AO → Prop) : Prop := match x with
 | none => K none os
 | some x => EV c n e loc os x (kI K)
@[reducible] noncomputable def kS2 (K : AV → List AO → Prop) (l : Option Int) : Option Int → List AO → Prop := fun u os2 => K (.sl l u) os2
@[reducible] noncomputable def kS (c : CX) (n : Nat) (e : EF) (loc : Loc) (hi : Option Expr) (K : AV → List AO → Prop) : Option Int → List AO → Prop := fun l os1 => EVO c n e loc os1 hi (kS2 K l)
theorem qp8 {lo hi : Option Expr} {p : Pos} (h : EVO c n e loc os lo (kS c n e loc hi K)) : EV c n e loc os (.Slice lo hi none p) K := fun A hA ρ s F => by
 have part : ∀ {x : Option Expr} {os : List AO} {K : Option Int → List AO → Prop} {ρ s}, FR c e loc os ρ s → EVO c n e loc os x K → wpAny (MM c.w) A (evalPart x e.env) (fun v s1 => ∃ i os1 ρ1, K i os1 ∧ c.HR ρ1 os1 s1 ∧ Ext c.tabs [] ρ s ρ1 s1 ∧ IsPart v i) NoE s := by
  intro x os K ρ s F h
  cases x with
  | none => exact wpAny_pure (qpy none os ρ h F.hr (Ext.refl ..) .none)
  | some x =>
   refine wpAny_mono (h A hA ρ s F) (fun v s1 y => ?_) fun ω ω z => z
   obtain ⟨ω, os1, ρ1, ⟨i, rfl, k⟩, H1, E1, t, rfl⟩ := y
   exact (qpy (some i) os1 ρ1 k H1 E1 (.int i t))
 refine wpAny_Slice (wpAny_mono (part F h) (fun vl s1 y => ?_) fun ω ω z => z)
 refine ym y fun l os1 ρ1 k1 H1 E1 p1 => ?_; clear y
 refine wpAny_mono (part (F.ext E1 H1) k1) (fun vu s2 y => ?_) fun ω ω z => z
 refine ym y fun u os2 ρ2 k2 H2 E2 p2 => ?_; clear y
 rw [evalPart_none]
 refine wpAny_pure ?_
 have kp := qf (h := s2.heap) (ob := qkm vl vu)
 exact ⟨_, os2, ρ2, k2, H2.keeps (d := s2.drawn) (tk := s2.toks) H2.gi.bare (Nat.le_refl _) kp qe, (E1.trans E2).trans (Ext.keeps kp qe), s2.heap.objs.size, vl, vu, rfl, Heap.get?_push_size _ rfl, p1, p2⟩
theorem qgs {v : Value} {i : Option Int} (p : IsPart v i) : ∃ l : Option (Int × Tok), v = partValue l ∧ l.map (·.1) = i := by
 cases p with
 | none => exact (y_ea none rfl rfl)
 | int i t => exact (y_ea (some (i, t)) rfl rfl)
theorem qa8 {value slice : Expr} {x : Str} {l u : Option Int} (hl : x.length ≤ sizeLine) (h : K (.str (Txt.slice x l u)) os) : TV2 c n (subscriptTail value slice) (.str x) (.sl l u) os K := by
 rintro A hA ρ s v w H q52x; obtain ⟨t, hv⟩ := q52x; rintro q53x; refine ym q53x fun a vl vu hw e p1 p2 => ?_; clear q53x
 subst hv hw
 refine x_ea (qgs p1) fun l' z72y z73y => ?_; subst z72y; subst z73y
 refine x_ea (qgs p2) fun u' z70y z71y => ?_; subst z70y; subst z71y
 refine xr (typeIs_str s x t) F.slot_str_getitem.lookup (qr (wpAny_getItem_str_slice (l := l') (u := u') (st := none) ⟨_, e, rfl, rfl⟩ rfl
  (post_val_or_str ⟨Nat.le_trans (Txt.slice_le x _ _) hl, fun t' k => ?_⟩)))
 intro ht
 exact Post.ret _ ht H h ⟨_, rfl⟩
theorem qqm {value slice : Expr} {k : Nat} {xs : List AV} {l u : Option Int} {ys : List AV} (hk : os[k]? = some (.list xs)) (hl : xs.length ≤ sizeLine)
  (hy : ∀ (vs : List Value), vs.length = xs.length → ∀ ρ h, VRs ρ h xs vs → VRs ρ h ys (slicePick vs.toArray l u none).toList) (h : K (.ref os.length) (os ++ [.list ys])) : TV2 c n (subscriptTail value slice) (.ref k) (.sl l u) os K := by
 rintro A hA ρ s v w H q54x; refine x_ea q54x fun b hb hv => ?_; clear q54x; rintro q55x; refine ym q55x fun a vl vu hw e p1 p2 => ?_; clear q55x
 subst hv hw
 refine x_ea (qq H hk hb) fun vs e' r => ?_
 have hlen := r.length
 refine xr e'.list.typeIs slot_list_getitem.lookup (wpAny_getItem_list_slice e'.list ⟨_, e, rfl, rfl⟩ p1 p2 .none (by exact Ne.symm (Option.some_ne_none 0)) ?_ (by simp; simp only [*]))
 have kp := qf (h := s.heap) (ob := { cls := .type "list", data := .seq (slicePick vs.toArray l u none) })
 refine ⟨_, _, ρ ++ [s.heap.objs.size], h, H.alloc (d := s.drawn) (tk := s.toks) H.gi.bare (Nat.le_refl _) kp qe (Nat.le_refl _) ⟨(slicePick vs.toArray l u none).toList, ⟨0, by simpa using Heap.get?_push_size _ rfl⟩, y0 (List.prefix_append _ _) kp (hy vs hlen ρ s.heap r)⟩,
  Ext.alloc kp qe (Nat.le_refl _), s.heap.objs.size, by rw [← H.len]; exact List.getElem?_concat_length, rfl⟩
theorem qf0 {value slice : Expr} {k : Nat} {xs : List AV} (hk : os[k]? = some (.list xs)) (hl : xs.length ≤ sizeLine) (h : K (.ref os.length) (os ++ [.list (xs.take (xs.length - 1))])) : TV2 c n (subscriptTail value slice) (.ref k) (.sl none (some (-1))) os K :=
 qqm hk hl (fun vs hv ρ h r => by rw [show (-1 : Int) = -((1 : Nat) : Int) from rfl, slicePick_butLast _ 1 (Nat.le_refl _)]; simp only [List.size_toArray, hv]; exact r.take _) h
theorem qft {x : Str} {name : Str} {f : Value} (h : ∀ {M : Model} {A : Around} {E : Value → Shared → Prop} {s : Shared} {t : Tok} {pl : Sem Bool} {Q : Value × List Value → Shared → Prop}, Q (f, [.str x t]) s → wpAny M A (getMethod (.str x t) name pl) Q E s) : je c os (.str x) name f := by
 rintro A pl ρ s v Q E H q56x; obtain ⟨t, hv⟩ := q56x; rintro k
 subst hv; exact h (k s.toks (Nat.le_refl _))
theorem jl {ρ : List Addr} {h : Heap} {x : Str} {as : List AV} {vs : List Value} (V : VRs ρ h (.str x :: as) vs) : ∃ t r, vs = .str x t :: r ∧ VRs ρ h as r := by
 refine qc V fun v r z68y z69y hr => ?_; clear V; subst z68y; obtain ⟨t, rfl⟩ := z69y; exact (qho t r rfl hr)
theorem wo {ρ : List Addr} {h : Heap} {x : Int} {as : List AV} {vs : List Value} (V : VRs ρ h (.int x :: as) vs) : ∃ t r, vs = .int x t :: r ∧ VRs ρ h as r := by
 refine qc V fun v r z66y z67y hr => ?_; clear V; subst z66y; obtain ⟨t, rfl⟩ := z67y; exact (qho t r rfl hr)
theorem wq {ρ : List Addr} {h : Heap} {x : Nat} {as : List AV} {vs : List Value} (V : VRs ρ h (.ref x :: as) vs) : ∃ a r, ρ[x]? = some a ∧ vs = .ref a :: r ∧ VRs ρ h as r := by
 refine qc V fun v r z64y z65y hr => ?_; clear V; subst z64y; refine x_ea z65y fun t ht z74y => ?_; clear z65y; subst z74y; exact (jk t r ht rfl hr)
theorem q0 {ρ : List Addr} {h : Heap} {vs : List Value} (V : VRs ρ h [] vs) : vs = [] := V
theorem qdt {x y : Str} (h : K (.int (Txt.count x y)) os) : CG c n (.builtin "str.count") [.str x, .str y] os K := fun A hA ρ s vs H V => by
 refine q9 (jl V) fun t r z63y V1 => ?_; subst z63y
 refine q9 (jl V1) fun t' r' z62y V2 => ?_; subst z62y
 obtain rfl := q0 V2
 exact SC.count (Post.ret _ (Nat.le_succ _) H h ⟨_, rfl⟩)
theorem qfs {x : Str} (h : K (.bool (Txt.isspace x)) os) : CG c n (.builtin "str.isspace") [.str x] os K := fun A hA ρ s vs H V => by
 refine q9 (jl V) fun t r z61y V1 => ?_; subst z61y
 obtain rfl := q0 V1
 exact SC.isspace (Post.now H h rfl)
theorem qpp {ρ : List Addr} {h : Heap} : ∀ {xs : List Str} {vs : List Value}, VRs ρ h (xs.map .str) vs → ∃ l : List (Str × Tok), vs = strValues l ∧ l.map (·.1) = xs
 | [], vs, V => (y_ea [] V rfl)
 | x :: xs, vs, V => by
  refine q9 (jl V) fun t r z60y V1 => ?_; subst z60y
  refine x_ea (qpp V1) fun l z58y z59y => ?_; subst z58y; subst z59y
  exact (y_ea ((x, t) :: l) rfl rfl)
theorem qi4 {ρ : List Addr} {h : Heap} : ∀ (l : List (Str × Tok)), VRs ρ h ((l.map (·.1)).map .str) (strValues l)
 | [] => rfl
 | (x, t) :: l => ⟨_, _, rfl, ⟨t, rfl⟩, qi4 l⟩
theorem qr8 {x : Str} {k : Nat} {xs : List Str} (hk : os[k]? = some (.list (xs.map .str))) (hj : JoinOk x xs = true) (h : K (.str (Txt.join x xs)) os) : CG c n (.builtin "str.join") [.str x, .ref k] os K := fun A hA ρ s vs H V => by
 refine q9 (jl V) fun t r z57y V1 => ?_; subst z57y
 refine qc (wq V1) fun a r' ha z56y V2 => ?_; subst z56y
 obtain rfl := q0 V2
 refine x_ea (qq H hk ha) fun vs e r => ?_
 refine x_ea (qpp r) fun l z55y hl => ?_; subst z55y
 exact qr (SC.join e.list hl hj fun t' k ht => Post.ret _ ht H h ⟨_, rfl⟩)
theorem qrx {w : World} {A : Around} {E : Value → Shared → Prop} {s : Shared} {x y : Str} {t u : Tok} {Q : Value → Shared → Prop} (hy : (y.length == 0) = false) (hsz : x.length + 2 ≤ sizeLine)
  (h : ∀ l k, l.map (·.1) = Txt.split x y → Q (.ref s.heap.objs.size) { s with heap := s.heap.push { cls := .type "list", data := .seq (strValues l).toArray }, toks := k }) :
  wpAny (MM w) A (call (.builtin "str.split") [.str x t, .str y u]) Q E s := by
 have hn : (Builtin.Str.partsBetween x (Builtin.Str.occurrences x y 0 x.length (x.length + 1)) y.length).length ≤ sizeLine := by
  have e1 := StrLaws.occ_length_le x y 0 x.length (x.length + 1)
  rw [length_partsBetween]; exact fits_base_add e1 hsz
 cases h1 : (decide (x.length < y.length) || decide (Builtin.Str.strKind x < Builtin.Str.strKind y)) with
 | false =>
  cases hf : (Builtin.Str.occurrences x y 0 x.length (x.length + 1)).isEmpty with
  | false =>
   refine call_meets F.slot_str_split (typeIs_str _ _ _) F.entry_str_split (F.args_str_split_2 _ _) (meets_str_split_sep x y t u h1 hy hf (by exact Nat.le_of_add_right_le hsz) hn) ?_
   show wants Q E _ { s with toks := _, heap := s.heap.push { cls := .type "list", data := .seq (strsFrom s.toks (Builtin.Str.partsBetween x (Builtin.Str.occurrences x y 0 x.length (x.length + 1)) y.length)).toArray } }
   rw [strsFrom_eq]
   exact h (numbered s.toks _) _ ((numbered_texts _ _).trans ((if_neg (ne_true_of_eq_false h1)).trans (if_neg (ne_true_of_eq_false hf))).symm)
  | true =>
   exact call_meets F.slot_str_split (typeIs_str _ _ _) F.entry_str_split (F.args_str_split_2 _ _) (meets_str_split_not_found x y t u h1 hy hf)
    (h [(x, t)] s.toks ((if_neg (ne_true_of_eq_false h1)).trans (if_pos hf)).symm)
 | true =>
  exact call_meets F.slot_str_split (typeIs_str _ _ _) F.entry_str_split (F.args_str_split_2 _ _) (meets_str_split_cannot_occur x y t u h1)
   (h [(x, t)] s.toks (if_pos h1).symm)
theorem qh3 {x y : Str} (hy : (y.length == 0) = false) (h1 : x.length + 2 ≤ sizeLine)
  (h : K (.ref os.length) (os ++ [.list ((Txt.split x y).map .str)])) : CG c n (.builtin "str.split") [.str x, .str y] os K := fun A hA ρ s vs H V => by
 refine q9 (jl V) fun t r z54y V1 => ?_; subst z54y
 refine q9 (jl V1) fun t' r' z53y V2 => ?_; subst z53y
 obtain rfl := q0 V2
 refine qr (qrx hy h1 fun l k hl ht => ?_)
 have kp := qf (h := s.heap) (ob := { cls := .type "list", data := .seq (strValues l).toArray })
 refine ⟨_, _, ρ ++ [s.heap.objs.size], h, H.alloc (d := s.drawn) (tk := k) H.gi.bare ht kp qe (Nat.le_refl _) ⟨strValues l, ⟨0, Heap.get?_push_size _ rfl⟩, ?_⟩,
  Ext.alloc kp qe (Nat.le_refl _), s.heap.objs.size, by rw [← H.len]; exact List.getElem?_concat_length, rfl⟩
 rw [← hl]; exact qi4 l
theorem IsL.map {h : Heap} {a : Addr} {items : Array Value} (x : IsL h a items) (f : Array Value → Array Value) : IsL (h.update a (Obj.mapSeq f)) a (f items) := let ⟨n, e⟩ := x; ⟨_, PySem.IsL.update e f⟩
theorem Post.put {K : AV → List AO → Prop} {ρ : List Addr} {s : Shared} {k : Nat} {b : Addr} {h' : Heap} {a : AV} {v : Value} {ys : List AV} {ws : List Value} {tk : Nat} (H : c.HR ρ os s) (hb : ρ[k]? = some b) (sb : Heap.SameBut b s.heap h') (ht : s.toks ≤ tk)
  (e : IsL h' b ws.toArray) (hw : VRs ρ s.heap ys ws) (ha : VR ρ s.heap a v) (h : K a (os.set k (.list ys))) : Post c ρ s K v { s with heap := h', toks := tk } := by
 have tp : ImmK ρ s.heap h' := fun x o hi hc ho => (sb.2 x fun z => by
  subst z; exact H.not_imm ho hi hc (List.mem_of_getElem? hb)).trans ho
 exact ⟨a, _, ρ, h, H.set (d := s.drawn) (tk := tk) H.gi.bare ht hb sb ⟨ws, e, VRs.imp (List.prefix_refl _) tp _ _ hw⟩, Ext.set (List.mem_of_getElem? hb) sb, VR.imp (List.prefix_refl _) tp _ _ ha⟩
theorem ql4 {w : World} {A : Around} {s : Shared} {l : Addr} {items : Array Value} {x : Value} {R : Result → Shared → Prop} (hl : IsL s.heap l items) (hsz : items.size ≤ sizeLine)
  (h : R (.ok (.ret .none)) { s with heap := s.heap.update l (Obj.mapSeq (·.push x)) }) : codeAny (MM w) A (.builtin "list.append" ⟨[.ref l, x], []⟩) R s := by
 refine zh hl.ex fun o ho hc hdi z52y => ?_; obtain ⟨n, hd⟩ := z52y
 refine codeAny_builtin entry_list_append ?_
 show wpAny _ _ (updateSeq l (·.push x) >>= fun ω => ret .none) _ _ s
 exact wpAny_bind (wpAny_updateSeq ho hd (wpAny_pure h) hsz)
theorem zx {k : Nat} {xs : List AV} {a : AV} (hk : os[k]? = some (.list xs)) (hl : xs.length ≤ sizeLine) (h : K .none (os.set k (.list (xs ++ [a])))) : CG c n (.builtin "list.append") [.ref k, a] os K := fun A hA ρ s vs H V => by
 refine qc (wq V) fun b r' hb z51y V1 => ?_; subst z51y
 refine qc V1 fun v r z50y hv V2 => ?_; clear V1; subst z50y
 obtain rfl := q0 V2
 refine x_ea (qq H hk hb) fun ws e r => ?_
 have hlen := r.length
 refine zh e.ex fun o ho hc hdi z49y => ?_; obtain ⟨n, hd⟩ := z49y
 refine wpAny_call_entry slot_list_append e.list.typeIs entry_list_append ?_ (args_list_append _ _)
 show wpAny _ _ (updateSeq b (·.push v) >>= fun ω => ret .none) _ _ s
 refine wpAny_bind (wpAny_updateSeq ho hd (wpAny_pure (y_ea .none rfl ?_)) (by simp; simp only [*]))
 exact Post.put (a := .none) (tk := s.toks) H hb (Heap.SameBut.update ..) (Nat.le_refl _) (ws := ws ++ [v]) (ys := xs ++ [a]) (by simpa using e.map (·.push v)) (r.append ⟨v, [], rfl, hv, rfl⟩) rfl h
noncomputable def qmq (os : List AO) (k : Nat) : Prop := ∃ xs, os[k]? = some (.list xs)
theorem ug {k : Nat} (hk : qmq os k) : je c os (.ref k) "append" (.builtin "list.append") := by
 rintro A pl ρ s v Q E H q57x; refine x_ea q57x fun a ha hv => ?_; clear q57x; rintro q
 subst hv
 obtain ⟨xs, hk⟩ := hk
 refine x_ea (qq H hk ha) fun ws e r => ?_
 refine zh e.ex fun o ho hc hdi z48y => ?_; obtain ⟨n, hd⟩ := z48y
 exact getMethod_list_append ho hc hdi (q s.toks (Nat.le_refl _))
end
end Mine
end
section
open PySem PySem.W PyProof.Rows PySem.Calls PySem.Spec
namespace Mine
set_option maxHeartbeats 1000000 in
theorem qcl : Slot "method_descriptor" "__get__" "method_descriptor.__get__" :=
 .of (owner := "method_descriptor") (n := "__get__") (by exact of_pureOf rfl) (by rfl) (by rfl) (by rfl)
  (by exact Or.symm (Or.inr rfl)) (by exact isSubtype_of_subB rfl)
theorem qj0 : entryFor table "method_descriptor.__get__" = some Builtin.«method_descriptor.__get__» := entryFor_of_tree (by kernel_rfl)
theorem qnb (a b c : Value) : argsOk "method_descriptor.__get__" ⟨[a, b, c], []⟩ := by delta argsOk; kernel_rfl
theorem qq5 {M : Model} {a : Addr} {vs : Array Value} {h : Heap} (hx : h.get? a = some { cls := .type "list", data := .seq vs 0 }) : Looks M h (Builtin.ObjectAttr.find (.ref a) (.type "list") "append") (.bind (.builtin "method_descriptor.__get__") (.builtin "list.append")) := by
 have hk : typeOf (.builtin "list.append") = pure (.type "method_descriptor") := type_list_append
 have f7 : typeLookup (.type "method_descriptor") "__get__" = pure (some (.builtin "method_descriptor.__get__")) := by rw [typeLookup_type, builtinLookup_eq_fast]; kernel_rfl
 have f8 : typeLookup (.type "method_descriptor") "__set__" = pure none := by rw [typeLookup_type, builtinLookup_eq_fast]; kernel_rfl
 have f9 : typeLookup (.type "method_descriptor") "__delete__" = pure none := by rw [typeLookup_type, builtinLookup_eq_fast]; kernel_rfl
 have sp : ∀ n r, typeLookup (.type "method_descriptor") n = pure r → Looks M h (specialOf (.builtin "list.append") n) r := fun n r e => (Looks.of_pure hk).andThen (Looks.of_pure e)
 refine (Looks.of_pure slot_list_append.lookup).andThen ((sp _ _ f7).andThen ?_)
 have tk : Looks M h (Builtin.ObjectAttr.takesStores (.builtin "list.append")) false := (sp _ _ f8).andThen ((sp _ _ f9).andThen .now)
 refine (show Looks M h (Builtin.ObjectAttr.dataDescriptor? (some (.builtin "list.append")) (some (.builtin "method_descriptor.__get__"))) none from tk.andThen .now).andThen ?_
 refine Looks.andThen (a := none) ?_ ?_
 ·intro A Q E s k q
  have hx' := k _ _ hx
  show wpAny M A (Builtin.ObjectAttr.ownDict a >>= fun r => Builtin.ObjectAttr.inDict "append" r) _ _ _
  refine wpAny_bind ?_
  delta Builtin.ObjectAttr.ownDict loadHead
  refine wpAny_bind (wpAny_loadPart hx' ?_)
  show wpAny _ _ (instanceDict a false) _ _ _
  delta instanceDict
  exact wpAny_bind (wpAny_loadPart hx' (wpAny_pure (wpAny_pure q)))
 ·exact Looks.andThen (a := ()) .now (Looks.tag .now)
theorem qwm {w : World} {A : Around} {E : Value → Shared → Prop} {a : Addr} {vs : Array Value} {hp : Heap} {g : Array GenState} {d : Drawn} {tk : Nat} {os : OsState} {Q : Value → Shared → Prop} (hx : hp.get? a = some { cls := .type "list", data := .seq vs 0 })
 (h : ∀ tk', Q (.ref hp.objs.size) ⟨hp.push (qk2 "list.append" (.ref a)), g, d, tk', os⟩) : wpAny (MM w) A (getAttr (.ref a) "append" true) Q E ⟨hp, g, d, tk, os⟩ := by
 have hT : ∀ tk', (⟨hp, g, d, tk', os⟩ : Shared).TypeIs (.ref a) "list" := fun ω => ⟨_, hx, rfl⟩
 delta getAttr getAttrBy
 refine wpAny_bind (wpAny_mkText (wpAny_holding (wpAny_bind (wpAny_typeOf (hT _) (wpAny_bind (wpAny_of_eq F.slot_list_getattribute.lookup ?_))))))
 show wpAny _ _ (getAttrByItsOwn (.ref a) (.str "append" tk) (.type "list") (.builtin "list.__getattribute__") true true) _ _ _
 delta getAttrByItsOwn hookBefore
 refine wpAny_bind (wpAny_of_eq (show (if onTheHeap (.type "list") then typeLookup (.type "list") "__getattr__" else pure none) = pure none from rfl) ?_)
 refine wpAny_bind (wpAny_attempt (wpAny_holding ?_))
 show wpAny _ _ (boundAndCalled _ _ _) _ _ _
 delta boundAndCalled
 rw [F.slot_list_getattribute.bind]
 refine wpAny_bind (wpAny_pure ?_)
 refine wpAny_mono (wpAny_call_entry (Q := fun v s' => v = .ref hp.objs.size ∧ s' = ⟨hp.push (qk2 "list.append" (.ref a)), g, d, tk + 1, os⟩) (E := fun ω ω => False) F.slot_list_getattribute (hT _) am_entry_list_getattribute ?_ (F.args_list_getattribute_2 _ _)) (fun v s' z => ?_) fun ω ω z => z.elim
 ·delta Builtin.«object.__getattribute__»
  refine wpAny_bind (wpAny_pure (wpAny_bind (wpAny_pure (wpAny_bind (wpAny_typeOf (hT _) (wpAny_bind ((qq5 hx).at ?_)))))))
  show wpAny _ _ (Builtin.ObjectAttr.bindTo _ _ _ _) _ _ _
  delta Builtin.ObjectAttr.bindTo
  refine wpAny_bind (wpAny_holding (wpAny_call (codeAny_call_builtin qcl.plain qj0 (qcl.check _ _ _ _ _ _ _ _ type_list_append (qnb _ _ _) ?_))))
  delta Builtin.«method_descriptor.__get__»
  repeat (any_goals (first | assumption | exact hT _ | wp_step))
  rw [show (".".intercalate ("list.append".cutAt '.').dropLast) = "list" from by rfl]
  have f10 : isSubtype (.type "list") (.type "list") = pure true := by rw [isSubtype_type]; kernel_rfl
  dsimp only
  repeat (any_goals (first | assumption | exact hT _ | wp_step))
  exact (wg _ rfl rfl rfl)
 ·obtain ⟨rfl, rfl⟩ := z
  show wpAny _ _ (handedOut _) _ _ _
  rw [handedOut_of (by rfl)]; exact wpAny_pure (h _)
theorem qt8 : ∃ sig, Manifest.signature? "list.append" = some sig ∧ ∀ a b : Value, Bind.checkArgs "list.append" { sig with full := "list.append" } ⟨[a, b], []⟩ = pure () := by
 exact y_ea { machinery := Manifest.Machinery.oneArg, full := "list.append", short := "append", receiver := Manifest.Receiver.self, params := [{ name := "object", kind := Manifest.ParamKind.posOnly, required := true }] } rfl fun a => congrFun rfl
set_option maxHeartbeats 1000000 in
theorem qu5 {w : World} {A : Around} {E : Value → Shared → Prop} {a b : Addr} {o : Obj} {hp : Heap} {g : Array GenState} {d : Drawn} {tk : Nat} {os : OsState} {v : Value} {Q : Value → Shared → Prop}
 (hb : hp.get? b = some (qk2 "list.append" (.ref a))) (hx : hp.get? a = some o) (hc : o.cls = .type "list") {its : Array Value} {nn : Nat} (hn : o.data = .seq its nn)
 (h : codeAny (MM w) A (.builtin "list.append" ⟨[.ref a, v], []⟩) (fun r s' => match r with | .ok (.ret v) => Q v s' | .ok _ => False | .error e => E e s') ⟨hp, g, d, tk, os⟩) :
 wpAny (MM w) A (call (.ref b) [v]) Q E ⟨hp, g, d, tk, os⟩ := by
 refine x_ea qt8 fun sig hs1 hs2 => ?_
 obtain ⟨oc, od, odt, osl⟩ := o
 simp only at hc hn
 subst hc hn
 have hT : ∀ tk', (⟨hp, g, d, tk', os⟩ : Shared).TypeIs (.ref a) "list" := fun ω => ⟨_, hx, rfl⟩
 refine wpAny_call (codeAny_of_tree ?_)
 show wpAny _ A.in1 (callAny (.ref b) ⟨[v], []⟩) _ _ _
 delta callAny
 refine wpAny_bind (wpAny_load hb ?_)
 show wpAny _ A.in1 (do checkBoundCall "list.append" ⟨[.ref a, v], []⟩; return ← again (.builtin "list.append" ⟨[.ref a, v], []⟩)) _ _ _
 delta checkBoundCall
 have hk : builtinKind "list.append" = some Manifest.AttrKind.method := by decide +kernel
 rw [hs1, hk]
 have f1 : isSubtype (.type "list") (.type "module") = pure false := by rw [isSubtype_type]; kernel_rfl
 have f2 : Manifest.varargsMethods.contains "list.append" = false := by decide +kernel
 have f3 : s!"{Bind.lastOf "list"}.{Bind.lastOf "list.append"}" = "list.append" := by rfl
 dsimp only
 repeat (any_goals (first | assumption | exact hT _ | ((with_reducible show wpAny _ _ (Bind.checkArgs _ _ _) _ _ _); rw [f3, hs2]; refine wpAny_pure ?_) | wp_step))
 exact ⟨plainId_quiet (by decide +kernel) _, h⟩
end Mine
end
section
open PySem PySem.W PyProof.Rows PySem.Calls PySem.Spec
namespace Mine
section
variable {c : CX} {n : Nat} {os : List AO} {K : AV → List AO → Prop} {e : EF} {loc : Loc}
theorem FR.keeps {ρ : List Addr} {s : Shared} {h' : Heap} {tk : Nat} (F : FR c e loc os ρ s) (k : ∀ b o, s.heap.get? b = some o → h'.get? b = some o) (hz : s.heap.objs.size ≤ h'.objs.size) (ht : s.toks ≤ tk) : FR c e loc os ρ { s with heap := h', toks := tk } :=
 F.ext (Ext.keeps (d := s.drawn) k hz) (F.hr.keeps (d := s.drawn) F.hr.gi.bare ht k hz)
theorem qpx {A : Around} (hA : AR A n) {ρ : List Addr} {s : Shared} (F : FR c e loc os ρ s) {a b : AV} {v : Value} (hv : VR ρ s.heap (.tup [a, b]) v) {Q : List Value → Shared → Prop}
  (h : ∀ (va vb : Value) s', FR c e loc os ρ s' → Ext c.tabs [e.env.locals] ρ s ρ s' → VR ρ s'.heap a va → VR ρ s'.heap b vb → Q [va, vb] s') : wpAny (MM c.w) A (unpackItems v 2 none) Q NoE s := by
 refine xx hv fun x vs z85y hx ω z86y => ?_; clear hv; subst z85y; refine qc z86y fun va r1 z87y ra z88y => ?_; clear z86y; subst z87y; obtain ⟨vb, r2, rfl, rb, hr⟩ := z88y
 obtain rfl : r2 = [] := hr
 have hT : IsTup s.heap x #[va, vb] := ⟨_, hx, rfl, 0, rfl⟩
 refine q6 (unpackItems_tuple (items := #[va, vb]) hA.hd hT fun h' eb hz => ?_)
 have kp : ∀ b o, s.heap.get? b = some o → h'.get? b = some o := fun b o e => eb b o (Nat.ne_of_lt (Heap.lt_size e)) e
 exact h va vb _ (F.keeps (tk := s.toks) kp hz (Nat.le_refl _)) (Ext.keeps (d := s.drawn) kp hz) (qkp (List.prefix_refl _) kp ra) (qkp (List.prefix_refl _) kp rb)
theorem qj6 {A : Around} (hA : AR A n) {t1 t2 : Value → Sem Unit} {a b : AV} {K : Loc → List AO → Prop} {va vb : Value} {ρ : List Addr} {s : Shared} (F : FR c e loc os ρ s) (ra : VR ρ s.heap a va) (rb : VR ρ s.heap b vb)
  (h1 : ST c n e loc os t1 a fun l o => o = os ∧ ST c n e l os t2 b K) (hk : ∀ {ρ' s'}, Ext c.tabs [e.env.locals] ρ s ρ' s' → VR ρ' s'.heap b vb) :
  wpAny (MM c.w) A (assignInOrder [t1, t2] [va, vb]) (fun ω s' => ∃ loc' os' ρ', K loc' os' ∧ FR c e loc' os' ρ' s' ∧ Ext c.tabs [e.env.locals] ρ s ρ' s') NoE s := by
 show wpAny (MM c.w) A (holding [vb] (t1 va) >>= fun ω => holding [] (t2 vb) >>= fun ω => pure ()) _ _ _
 refine wpAny_bind (wpAny_holding (wpAny_mono (h1 A hA ρ s va F ra) (fun ω s1 y => ?_) fun ω ω z => z))
 refine qw y fun l1 ω ρ1 z84y F1 E1 => ?_; clear y; obtain ⟨rfl, k1⟩ := z84y
 refine wpAny_bind (wpAny_holding (wpAny_mono (k1 A hA ρ1 s1 vb F1 (hk E1)) (fun ω s2 y => ?_) fun ω ω z => z))
 refine qw y fun l2 o2 ρ2 k2 F2 E2 => ?_; clear y
 exact wpAny_pure (u7 l2 o2 ρ2 k2 F2 (E1.trans E2))
theorem qs0 {ρ ρ' : List Addr} {s s' : Shared} (F : FR c e loc os ρ s) (E : Ext c.tabs [e.env.locals] ρ s ρ' s') {a : AV} {v : Value} (r : VR ρ s.heap a v) : VR ρ' s'.heap a v := by
 refine VR.impN E.pre E.new (F.hr.tups E fun x hx o hi ho => ?_) a v r
 simp at hx; subst hx
 refine x_ea F.ns fun m z83y ω => ?_; refine qw z83y fun o' es ep ho' hd ω => ?_; clear z83y
 rw [ho'] at ho; cases ho
 exact hi.nodict _ _ hd
theorem qmy {x : Str} {a : AV} {loc' : Loc} {K : Loc → List AO → Prop} (hs : StAt e.ls loc x a loc') (h : K loc' os) : ST c n e loc os (bindName e.env x) a K := fun A hA ρ s v F r => wpAny_bindName (qa7 (n := n) hs h A hA ρ s v F r)
theorem xt {x : Str} {p : Pos} {a : AV} {loc' : Loc} {K : Loc → List AO → Prop} (hs : StAt e.ls loc x a loc') (h : K loc' os) : ST c n e loc os (assign (.Name x p) e.env) a K := fun A hA ρ s v F r => wpAny_assign_Name (qa7 (n := n) hs h A hA ρ s v F r)
theorem qfx {x y : Str} {px py p : Pos} {kk} {a b : AV} {loc1 loc2 : Loc} {K : Loc → List AO → Prop} (h1 : StAt e.ls loc x a loc1) (h2 : StAt e.ls loc1 y b loc2) (h : K loc2 os) : ST c n e loc os (assign (.Tuple [.Name x px, .Name y py] kk p) e.env) (.tup [a, b]) K := fun A hA ρ s v F r => by
 rw [arm_assign_Tuple]
 refine wpAny_bind (wpAny_standAt ?_)
 show wpAny (MM c.w) A (holding [v] (unpackItems v 2 none) >>= fun items => assignInOrder [assign (.Name x px) e.env, assign (.Name y py) e.env] items) _ _ s
 refine wpAny_bind (wpAny_holding (qpx hA F r fun va vb s' F' E' ra rb => ?_))
 refine wpAny_mono (qj6 hA F' ra rb (xt h1 ⟨rfl, xt h2 h⟩) fun E => qs0 F' E rb) (fun ω s2 y => ?_) fun ω ω z => z
 refine qw y fun l o ρ2 k F2 E2 => ?_; clear y
 exact (u7 l o ρ2 k F2 (E'.trans E2))
theorem qcr {K : AF → Loc → List AO → Prop} {x y : Str} {px py tp p vp : Pos} {kk kv} {vs : List Expr} (h : EVs c n e loc os vs fun as os1 => as.length ≤ sizeLine ∧ ∃ a b loc1 loc2, as = [a, b] ∧ StAt e.ls loc y b loc1 ∧ StAt e.ls loc1 x a loc2 ∧ K .next loc2 os1)
  (hw : swappedStores [.Tuple [.Name x px, .Name y py] kk tp] (.Tuple vs kv vp) e.env = pure (some [x, y])) (hs : swapsWithSole [.Tuple [.Name x px, .Name y py] kk tp] (.Tuple vs kv vp) p.line e.env = pure false := by rfl) :
  EX c n e loc os (.Assign [.Tuple [.Name x px, .Name y py] kk tp] (.Tuple vs kv vp) p) K := fun A hA ρ s F => by
 have hv : EV c n e loc os (.Tuple vs kv vp) fun av os1 => ∃ a b loc1 loc2, av = .tup [a, b] ∧ StAt e.ls loc y b loc1 ∧ StAt e.ls loc1 x a loc2 ∧ K .next loc2 os1 :=
  zu (fun A hA p ρ s F => wpAny_mono (h A hA p ρ s F) (fun v s' z => by
   obtain ⟨as, os1, ρ1, ⟨hl, a, b, l1, l2, rfl, r⟩, q1, q2, q3⟩ := z
   exact ⟨_, os1, ρ1, ⟨hl, y_e4 a b l1 l2 ⟨rfl, r⟩⟩, q1, q2, q3⟩) fun ω ω z => z)
 refine Assign_Tuple_swapped (names := [x, y]) (qi (hv A hA ρ s F) fun v s1 z0q os1 ρ1 z3q H1 E1 r1 => ?_) hs hw
 refine v6 z3q fun a b loc1 loc2 z82y h1 h2 k => ?_; clear z3q; subst z82y
 refine qpx hA (F.ext E1 H1) r1 fun va vb s' F' E' ra rb => ?_
 refine wpAny_mono (qj6 (t1 := bindName e.env y) (t2 := bindName e.env x) (K := fun l o => l = loc2 ∧ o = os1) hA F' rb ra (qmy h1 ⟨rfl, qmy h2 ⟨rfl, rfl⟩⟩) fun E => qs0 F' E ra) (fun ω s2 z => ?_) fun ω ω z => z
 refine qw z fun ω ω ρ2 z81y F2 E2 => ?_; clear z; obtain ⟨rfl, rfl⟩ := z81y
 exact ⟨.next, _, _, ρ2, k, F2, (E1.up.trans E').trans E2, rfl⟩
theorem qcq {K : AF → Loc → List AO → Prop} {x y : Str} {px py tp p : Pos} {kk} {v : Expr} (h : EV c n e loc os v fun av os1 => ∃ a b loc1 loc2, av = .tup [a, b] ∧ StAt e.ls loc x a loc1 ∧ StAt e.ls loc1 y b loc2 ∧ K .next loc2 os1)
  (hw : ∀ env, swappedStores [.Tuple [.Name x px, .Name y py] kk tp] v env = pure none := by intro ω; rfl) (hs : ∀ env, swapsWithSole [.Tuple [.Name x px, .Name y py] kk tp] v p.line env = pure false := by intro ω; rfl) :
  EX c n e loc os (.Assign [.Tuple [.Name x px, .Name y py] kk tp] v p) K := fun A hA ρ s F => by
 refine Assign_Tuple (qi (h A hA ρ s F) fun v s1 z0q os1 ρ1 z3q H1 E1 r1 => ?_) (hs _) (hw _)
 refine v6 z3q fun a b loc1 loc2 z80y h1 h2 k => ?_; clear z3q; subst z80y
 refine wpAny_mono (qfx (n := n) (K := fun l o => l = loc2 ∧ o = os1) h1 h2 ⟨rfl, rfl⟩ A hA ρ1 s1 v (F.ext E1 H1) r1) (fun ω s2 z => ?_) fun ω ω z => z
 refine qw z fun ω ω ρ2 z79y F2 E2 => ?_; clear z; obtain ⟨rfl, rfl⟩ := z79y
 exact ⟨.next, _, _, ρ2, k, F2, E1.up.trans E2, rfl⟩
theorem qjc {k : Nat} {xs : List AV} (hk : os[k]? = some (.nlist xs)) (h : K (.bm "list.append" (.ref k)) os) : TV1 c n (fun v => getAttr v "append" true) (.ref k) os K := by
 rintro A hA ρ s v H q58x; refine x_ea q58x fun a ha hv => ?_; clear q58x
 subst hv
 refine x_ea (H.objs k _ hk) fun a' e x => ?_
 rw [ha] at e; cases e
 refine x_ea x fun vs ho r => ?_; clear x
 refine qr ?_
 obtain ⟨hp, g, d, tk, os'⟩ := s
 refine qwm ho fun tk' ht => ?_
 have kp := qf (h := hp) (ob := qk2 "list.append" (.ref a))
 exact ⟨_, os, ρ, h, H.keeps (d := d) (tk := tk') H.gi.bare ht kp qe, Ext.keeps kp qe, hp.objs.size, .ref a, rfl, Heap.get?_push_size _ rfl, a, ha, rfl⟩
theorem jo {k : Nat} {xs : List AV} {a : AV} (hk : os[k]? = some (.list xs)) (hl : xs.length ≤ sizeLine) (h : K .none (os.set k (.list (xs ++ [a])))) : CS c n (.bm "list.append" (.ref k)) [a] os K := fun A hA ρ s v vs H hv V => by
 refine qc hv fun b u z77y hb z78y => ?_; clear hv; subst z77y; refine x_ea z78y fun x hx z89y => ?_; clear z78y; subst z89y
 refine qc V fun va r z76y ra hr => ?_; clear V; subst z76y
 obtain rfl : r = [] := hr
 refine x_ea (qq H hk hx) fun ws e rw => ?_
 refine zh e.ex fun o ho hc hdi z75y => ?_; obtain ⟨m, hd⟩ := z75y
 have hlen := rw.length
 obtain ⟨hp, g, d, tk, os'⟩ := s
 refine qu5 hb ho hc hd (ql4 e (by simp; simp only [*]) ?_)
 exact Post.put (a := .none) (tk := tk) H hx (Heap.SameBut.update ..) (Nat.le_refl _) (ws := ws ++ [va]) (ys := xs ++ [a]) (by simpa using e.map (·.push va)) (rw.append ⟨va, [], rfl, ra, rfl⟩) rfl h
theorem qjh {K : AF → Loc → List AO → Prop} {k : Nat} {xs : List AV} {sts : List Stmt} (hk : os[k]? = some (.nlist xs)) (h : EXs c n e loc (os.set k (.list xs)) sts K) : EXs c n e loc os sts K := fun A hA ρ s F => by
 refine h A hA ρ s ⟨⟨F.hr.gi, by simp [F.hr.len], fun m ao q => ?_, F.hr.nodup, F.hr.fresh⟩, F.ok, F.ns, F.out, F.new⟩
 rw [List.getElem?_set] at q
 split at q
 ·rename_i hm
  subst hm
  split at q
  ·cases q
   refine x_ea (F.hr.objs k _ hk) fun a e z74y => ?_; refine x_ea z74y fun vs ho r => ?_; clear z74y
   exact ⟨a, e, vs, ⟨0, ho⟩, r⟩
  ·cases q
 ·exact F.hr.objs m ao q
end
end Mine
end
section
open PySem PySem.W PyProof.Rows PySem.Calls PySem.Spec
namespace Mine
noncomputable def jj (i : Nat) : Stmt := (PySem.Challenge.pw_ik0126_01.main.body)[i]?.getD (.Pass ⟨0, 0, 0, 0⟩)
noncomputable def qg6 : Stmt → List Stmt × List Stmt × Expr
 | .FunctionDef _ _ b _ _ _ _ _ _ _ => (b, [], .Name "" ⟨0, 0, 0, 0⟩)
 | .ClassDef _ _ _ b _ _ _ _ _ _ _ => (b, [], .Name "" ⟨0, 0, 0, 0⟩)
 | .While _ b _ _ => (b, [], .Name "" ⟨0, 0, 0, 0⟩)
 | .If _ b e _ => (b, e, .Name "" ⟨0, 0, 0, 0⟩)
 | .For _ _ b _ _ => (b, [], .Name "" ⟨0, 0, 0, 0⟩)
 | .Assign _ v _ => ([], [], v)
 | .Return v _ => ([], [], v.getD (.Name "" ⟨0, 0, 0, 0⟩))
 | _ => ([], [], .Name "" ⟨0, 0, 0, 0⟩)
noncomputable def qy (i j : Nat) : Stmt := (qg6 (jj i)).1[j]?.getD (.Pass ⟨0, 0, 0, 0⟩)
noncomputable def qu (s : Stmt) : List Stmt := (qg6 s).1
noncomputable def fdOf (st : Stmt) (qual : Str) (gl : Addr) (clo : List (Str × Addr)) (dfl kwd doc pm : Value) (ann : Option Addr) (code ct : Value) (bi : Addr) : FuncData := match st with
 | .FunctionDef n args body _ _ _ scope _ _ _ => { name := n, qualname := qual, params := args, body := .stmts body, scope := scope, globals := gl, closure := clo, defaults := dfl, kwdefaults := kwd, doc := doc, pyModule := pm, annotations := ann, code := code, closureTuple := ct, builtins := bi }
 | _ => default
noncomputable def KF (P : Params) : Frag := [
 (2, { cls := .none, data := .dict #[⟨PyData.keyHash P "\x69mport.loaded._sre", (.str "\x69mport.loaded._sre" 183), (.bool true)⟩, ⟨PyData.keyHash P "class._frozen_importlib.BuiltinImporter", (.str "class._frozen_importlib.BuiltinImporter" 185), (.ref 14)⟩, ⟨PyData.keyHash P "watched.\x69mport", (.str "watched.\x69mport" 206), (.ref 18)⟩, ⟨PyData.keyHash P "class._frozen_importlib.ModuleSpec", (.str "class._frozen_importlib.ModuleSpec" 216), (.ref 22)⟩, ⟨PyData.keyHash P "sys.modules.booked-epoch", (.str "sys.modules.booked-epoch" 245), (.int (3) 0)⟩, ⟨PyData.keyHash P "\x69mport.later-laid._sre", (.str "\x69mport.later-laid._sre" 270), (.bool true)⟩, ⟨PyData.keyHash P "watched.library", (.str "watched.library" 272), (.ref 27)⟩, ⟨PyData.keyHash P "watched.library-objects", (.str "watched.library-objects" 0), (.str "\x0c" 0)⟩, ⟨PyData.keyHash P "watched.library-deep._sre", (.str "watched.library-deep._sre" 273), (.str "\x04\x00\x00\x0b\x04\x00\x00\x0b\x04\x00\x00\x03\x04\x00\x00\x0b\x08\x04dict\x02" 0)⟩] 9 }),
 (3, { cls := (.type "dict"), data := .dict #[⟨PyData.keyHash P "__name__", (.str "__name__" 165), (.str "law_ik0126_01" 783)⟩, ⟨PyData.keyHash P "__doc__", (.str "__doc__" 166), .none⟩, ⟨PyData.keyHash P "__package__", (.str "__package__" 167), .none⟩, ⟨PyData.keyHash P "__loader__", (.str "__loader__" 168), (.builtin "__main__.__loader__#opaque")⟩, ⟨PyData.keyHash P "__spec__", (.str "__spec__" 169), .none⟩, ⟨PyData.keyHash P "__annotations__", (.str "__annotations__" 170), (.ref 6)⟩, ⟨PyData.keyHash P "__builtins__", (.str "__builtins__" 171), (.ref 4)⟩, ⟨PyData.keyHash P "__file__", (.str "__file__" 173), (.str "/claim/cut.py" 172)⟩, ⟨PyData.keyHash P "__cached__", (.str "__cached__" 174), .none⟩, ⟨PyData.keyHash P "_sre", (.str "_sre" 275), (.ref 12)⟩, ⟨PyData.keyHash P "_wall", (.str "_wall" 288), (.ref 38)⟩, ⟨PyData.keyHash P "twin_re_1_fnmatch", (.str "twin_re_1_fnmatch" 328), (.ref 43)⟩, ⟨PyData.keyHash P "translate", (.str "translate" 337), (.ref 50)⟩, ⟨PyData.keyHash P "_special_chars_map", (.str "_special_chars_map" 485), (.ref 52)⟩, ⟨PyData.keyHash P "escape", (.str "escape" 492), (.ref 62)⟩, ⟨PyData.keyHash P "_translate", (.str "_translate" 513), (.ref 69)⟩, ⟨PyData.keyHash P "_join_translated_parts", (.str "_join_translated_parts" 526), (.ref 76)⟩, ⟨PyData.keyHash P "twin_re_1_header", (.str "twin_re_1_header" 556), (.ref 81)⟩, ⟨PyData.keyHash P "NL", (.str "NL" 558), (.str "\n" 557)⟩, ⟨PyData.keyHash P "EMPTYSTRING", (.str "EMPTYSTRING" 560), (.str "" 559)⟩, ⟨PyData.keyHash P "_ValueFormatter", (.str "_ValueFormatter" 674), (.ref 154)⟩, ⟨PyData.keyHash P "_Accumulator", (.str "_Accumulator" 770), (.ref 238)⟩, ⟨PyData.keyHash P "unorderable_list_difference", (.str "unorderable_list_difference" 782), (.ref 249)⟩, ⟨PyData.keyHash P "_law_pattern", (.str "_law_pattern" 790), (.ref 254)⟩, ⟨PyData.keyHash P "_law_folded", (.str "_law_folded" 800), (.ref 261)⟩, ⟨PyData.keyHash P "_law_rows", (.str "_law_rows" 811), (.ref 268)⟩, ⟨PyData.keyHash P "_law_marked", (.str "_law_marked" 826), (.ref 275)⟩, ⟨PyData.keyHash P "law", (.str "law" 832), (.ref 280)⟩] 28 }),
 (4, { cls := (.type "module"), dict := some 0, data := .plain }),
 (42, { cls := (.type "tuple"), data := .seq #[(.int (14) 0), (.int (14) 0), (.int (4) 0), (.int (1) 0), (.int (1) 0), (.int (9) 0), (.int (0) 0), (.int (64) 0), (.int (0) 0), (.int (1342177280) 0), (.int (0) 0), (.int (0) 0), (.int (0) 0), (.int (0) 0), (.int (0) 0), (.int (17) 0), (.int (0) 0), (.int (13) 0), (.int (11) 0), (.int (9) 0), (.int (0) 0), (.int (64) 0), (.int (0) 0), (.int (1342177280) 0), (.int (0) 0), (.int (0) 0), (.int (0) 0), (.int (0) 0), (.int (0) 0), (.int (17) 0), (.int (1) 0), (.int (1) 0)] 0 }),
 (43, { cls := (.type "re.Pattern"), data := .fields #[(.str "([&~|])" 292), (.int (32) 327), (.int (1) 0), .none, .none, (.ref 42), (.int (0) 0)] }),
 (50, { cls := (.type "function"), data := .func (fdOf (jj 4) "translate" 3 [] .none .none .none (.str "cpy313.fnmatch" 289) none (.ref 49) .none 0) }),
 (49, { cls := (.type "code"), data := .fields #[(.str "translate" 329), (.str "translate" 330), (.str "/claim/cut.py" 331), (.int (7) 0), (.int (1) 0), (.int (0) 0), (.int (0) 0), (.int (3) 0), (.ref 44), (.bool true), (.int (276) 0), (.ref 45), .none, (.ref 46), (.ref 47), (.ref 48), (.int (335) 0), (.int (7) 0), (.str "/claim/cut.py" 336)] }),
 (52, { cls := (.type "dict"), data := .dict #[⟨40, (.int (40) 341), (.str "\\(" 345)⟩, ⟨41, (.int (41) 347), (.str "\\)" 351)⟩, ⟨91, (.int (91) 353), (.str "\\[" 357)⟩, ⟨93, (.int (93) 359), (.str "\\]" 363)⟩, ⟨123, (.int (123) 365), (.str "\\{" 369)⟩, ⟨125, (.int (125) 371), (.str "\\}" 375)⟩, ⟨63, (.int (63) 377), (.str "\\?" 381)⟩, ⟨42, (.int (42) 383), (.str "\\*" 387)⟩, ⟨43, (.int (43) 389), (.str "\\+" 393)⟩, ⟨45, (.int (45) 395), (.str "\\-" 399)⟩, ⟨124, (.int (124) 401), (.str "\\|" 405)⟩, ⟨94, (.int (94) 407), (.str "\\^" 411)⟩, ⟨36, (.int (36) 413), (.str "\\$" 417)⟩, ⟨92, (.int (92) 419), (.str "\\\\" 423)⟩, ⟨46, (.int (46) 425), (.str "\\." 429)⟩, ⟨38, (.int (38) 431), (.str "\\&" 435)⟩, ⟨126, (.int (126) 437), (.str "\\~" 441)⟩, ⟨35, (.int (35) 443), (.str "\\#" 447)⟩, ⟨32, (.int (32) 449), (.str "\\ " 453)⟩, ⟨9, (.int (9) 455), (.str "\\\t" 459)⟩, ⟨10, (.int (10) 461), (.str "\\\n" 465)⟩, ⟨13, (.int (13) 467), (.str "\\\x0d" 471)⟩, ⟨11, (.int (11) 473), (.str "\\\x0b" 477)⟩, ⟨12, (.int (12) 479), (.str "\\\x0c" 483)⟩] 24 }),
 (62, { cls := (.type "function"), data := .func (fdOf (jj 7) "escape" 3 [] .none .none .none (.str "re" 338) none (.ref 61) .none 0) }),
 (61, { cls := (.type "code"), data := .fields #[(.str "escape" 486), (.str "escape" 487), (.str "/claim/cut.py" 488), (.int (13) 0), (.int (1) 0), (.int (0) 0), (.int (0) 0), (.int (3) 0), (.ref 56), (.bool true), (.int (276) 0), (.ref 57), .none, (.ref 58), (.ref 59), (.ref 60), (.int (490) 0), (.int (13) 0), (.str "/claim/cut.py" 491)] }),
 (69, { cls := (.type "function"), data := .func (fdOf (jj 9) "_translate" 3 [] .none .none .none (.str "cpy313.fnmatch" 493) none (.ref 68) .none 0) }),
 (68, { cls := (.type "code"), data := .fields #[(.str "_translate" 495), (.str "_translate" 496), (.str "/claim/cut.py" 497), (.int (20) 0), (.int (3) 0), (.int (0) 0), (.int (0) 0), (.int (3) 0), (.ref 63), (.bool true), (.int (276) 0), (.ref 64), .none, (.ref 65), (.ref 66), (.ref 67), (.int (511) 0), (.int (20) 0), (.str "/claim/cut.py" 512)] }),
 (76, { cls := (.type "function"), data := .func (fdOf (jj 10) "_join_translated_parts" 3 [] .none .none .none (.str "cpy313.fnmatch" 493) none (.ref 75) .none 0) }),
 (75, { cls := (.type "code"), data := .fields #[(.str "_join_translated_parts" 514), (.str "_join_translated_parts" 515), (.str "/claim/cut.py" 516), (.int (82) 0), (.int (2) 0), (.int (0) 0), (.int (0) 0), (.int (3) 0), (.ref 70), (.bool true), (.int (276) 0), (.ref 71), .none, (.ref 72), (.ref 73), (.ref 74), (.int (524) 0), (.int (82) 0), (.str "/claim/cut.py" 525)] }),
 (80, { cls := (.type "tuple"), data := .seq #[(.int (14) 0), (.int (4) 0), (.int (0) 0), (.int (1) 0), (.int (4294967295) 0), (.int (17) 0), (.int (0) 0), (.int (24) 0), (.int (11) 0), (.int (1) 0), (.int (4294967295) 0), (.int (13) 0), (.int (6) 0), (.int (16) 0), (.int (32) 0), (.int (16) 0), (.int (9) 0), (.int (0) 0), (.int (1) 0), (.int (17) 0), (.int (1) 0), (.int (1) 0)] 0 }),
 (81, { cls := (.type "re.Pattern"), data := .fields #[(.str "([ \t]+)" 530), (.int (32) 555), (.int (1) 0), .none, .none, (.ref 80), (.int (0) 0)] }),
 (95, { cls := (.type "function"), data := .func (fdOf (qy 15 0) "_ValueFormatter.__init__" 3 [] .none .none .none (.str "cpy313.email.header" 527) none (.ref 94) .none 0) }),
 (94, { cls := (.type "code"), data := .fields #[(.str "__init__" 573), (.str "_ValueFormatter.__init__" 574), (.str "/claim/cut.py" 575), (.int (115) 0), (.int (5) 0), (.int (0) 0), (.int (0) 0), (.int (3) 0), (.ref 89), (.bool true), (.int (276) 0), (.ref 90), .none, (.ref 91), (.ref 92), (.ref 93), (.int (581) 0), (.int (115) 0), (.str "/claim/cut.py" 582)] }),
 (102, { cls := (.type "function"), data := .func (fdOf (qy 15 1) "_ValueFormatter._str" 3 [] .none .none .none (.str "cpy313.email.header" 527) none (.ref 101) .none 0) }),
 (101, { cls := (.type "code"), data := .fields #[(.str "_str" 584), (.str "_ValueFormatter._str" 585), (.str "/claim/cut.py" 586), (.int (123) 0), (.int (2) 0), (.int (0) 0), (.int (0) 0), (.int (3) 0), (.ref 96), (.bool true), (.int (276) 0), (.ref 97), .none, (.ref 98), (.ref 99), (.ref 100), (.int (589) 0), (.int (123) 0), (.str "/claim/cut.py" 590)] }),
 (109, { cls := (.type "function"), data := .func (fdOf (qy 15 2) "_ValueFormatter.__str__" 3 [] .none .none .none (.str "cpy313.email.header" 527) none (.ref 108) .none 0) }),
 (108, { cls := (.type "code"), data := .fields #[(.str "__str__" 592), (.str "_ValueFormatter.__str__" 593), (.str "/claim/cut.py" 594), (.int (127) 0), (.int (1) 0), (.int (0) 0), (.int (0) 0), (.int (3) 0), (.ref 103), (.bool true), (.int (276) 0), (.ref 104), .none, (.ref 105), (.ref 106), (.ref 107), (.int (596) 0), (.int (127) 0), (.str "/claim/cut.py" 597)] }),
 (116, { cls := (.type "function"), data := .func (fdOf (qy 15 3) "_ValueFormatter.newline" 3 [] .none .none .none (.str "cpy313.email.header" 527) none (.ref 115) .none 0) }),
 (115, { cls := (.type "code"), data := .fields #[(.str "newline" 599), (.str "_ValueFormatter.newline" 600), (.str "/claim/cut.py" 601), (.int (130) 0), (.int (1) 0), (.int (0) 0), (.int (0) 0), (.int (3) 0), (.ref 110), (.bool true), (.int (276) 0), (.ref 111), .none, (.ref 112), (.ref 113), (.ref 114), (.int (604) 0), (.int (130) 0), (.str "/claim/cut.py" 605)] }),
 (130, { cls := (.type "function"), data := .func (fdOf (qy 15 5) "_ValueFormatter.feed" 3 [] .none .none .none (.str "cpy313.email.header" 527) none (.ref 129) .none 0) }),
 (129, { cls := (.type "code"), data := .fields #[(.str "feed" 614), (.str "_ValueFormatter.feed" 615), (.str "/claim/cut.py" 616), (.int (144) 0), (.int (4) 0), (.int (0) 0), (.int (0) 0), (.int (3) 0), (.ref 124), (.bool true), (.int (276) 0), (.ref 125), .none, (.ref 126), (.ref 127), (.ref 128), (.int (625) 0), (.int (144) 0), (.str "/claim/cut.py" 626)] }),
 (144, { cls := (.type "function"), data := .func (fdOf (qy 15 7) "_ValueFormatter._ascii_split" 3 [] .none .none .none (.str "cpy313.email.header" 527) none (.ref 143) .none 0) }),
 (143, { cls := (.type "code"), data := .fields #[(.str "_ascii_split" 635), (.str "_ValueFormatter._ascii_split" 636), (.str "/claim/cut.py" 637), (.int (169) 0), (.int (4) 0), (.int (0) 0), (.int (0) 0), (.int (3) 0), (.ref 138), (.bool true), (.int (276) 0), (.ref 139), .none, (.ref 140), (.ref 141), (.ref 142), (.int (644) 0), (.int (169) 0), (.str "/claim/cut.py" 645)] }),
 (151, { cls := (.type "function"), data := .func (fdOf (qy 15 8) "_ValueFormatter._append_chunk" 3 [] .none .none .none (.str "cpy313.email.header" 527) none (.ref 150) .none 0) }),
 (150, { cls := (.type "code"), data := .fields #[(.str "_append_chunk" 647), (.str "_ValueFormatter._append_chunk" 648), (.str "/claim/cut.py" 649), (.int (178) 0), (.int (3) 0), (.int (0) 0), (.int (0) 0), (.int (3) 0), (.ref 145), (.bool true), (.int (276) 0), (.ref 146), .none, (.ref 147), (.ref 148), (.ref 149), (.int (658) 0), (.int (178) 0), (.str "/claim/cut.py" 659)] }),
 (153, { cls := (.type "dict"), data := .dict #[⟨PyData.keyHash P "__module__", (.str "__module__" 568), (.str "cpy313.email.header" 527)⟩, ⟨PyData.keyHash P "__firstlineno__", (.str "__firstlineno__" 572), (.int (113) 571)⟩, ⟨PyData.keyHash P "__init__", (.str "__init__" 583), (.ref 95)⟩, ⟨PyData.keyHash P "_str", (.str "_str" 591), (.ref 102)⟩, ⟨PyData.keyHash P "__str__", (.str "__str__" 598), (.ref 109)⟩, ⟨PyData.keyHash P "newline", (.str "newline" 606), (.ref 116)⟩, ⟨PyData.keyHash P "add_transition", (.str "add_transition" 613), (.ref 123)⟩, ⟨PyData.keyHash P "feed", (.str "feed" 627), (.ref 130)⟩, ⟨PyData.keyHash P "_maxlengths", (.str "_maxlengths" 634), (.ref 137)⟩, ⟨PyData.keyHash P "_ascii_split", (.str "_ascii_split" 646), (.ref 144)⟩, ⟨PyData.keyHash P "_append_chunk", (.str "_append_chunk" 660), (.ref 151)⟩, ⟨PyData.keyHash P "__static_attributes__", (.str "__static_attributes__" 667), (.ref 152)⟩, ⟨PyData.keyHash P "__dict__", (.str "__dict__" 669), (.ref 155)⟩, ⟨PyData.keyHash P "__weakref__", (.str "__weakref__" 671), (.ref 156)⟩, ⟨PyData.keyHash P "__doc__", (.str "__doc__" 672), .none⟩] 4 }),
 (154, { cls := (.type "type"), data := .cls ⟨"_ValueFormatter", [(.type "object")], [(.ref 154), (.type "object")], 153, "_ValueFormatter", true, [], [], false, none, false⟩, slots := #[none, none, (some (.str "_ValueFormatter" 561)), (some (.str "_ValueFormatter" 569)), (some (.builtin "object.__new__")), (some (.bool true))] }),
 (159, { cls := (.type "tuple"), data := .seq #[(.type "list")] 0 }),
 (162, { cls := (.type "cell"), data := .cell (some (.ref 238)) }),
 (175, { cls := (.type "function"), data := .func (fdOf (qy 16 0) "_Accumulator.__init__" 3 [("__class__", 162)] (.ref 167) .none .none (.str "cpy313.email.header" 527) none (.ref 174) (.ref 168) 0) }),
 (174, { cls := (.type "code"), data := .fields #[(.str "__init__" 688), (.str "_Accumulator.__init__" 689), (.str "/claim/cut.py" 690), (.int (206) 0), (.int (2) 0), (.int (0) 0), (.int (0) 0), (.int (3) 0), (.ref 169), (.bool true), (.int (276) 0), (.ref 170), .none, (.ref 171), (.ref 172), (.ref 173), (.int (694) 0), (.int (206) 0), (.str "/claim/cut.py" 695)] }),
 (167, { cls := (.type "tuple"), data := .seq #[(.int (0) 687)] 0 }),
 (182, { cls := (.type "function"), data := .func (fdOf (qy 16 1) "_Accumulator.push" 3 [] .none .none .none (.str "cpy313.email.header" 527) none (.ref 181) .none 0) }),
 (181, { cls := (.type "code"), data := .fields #[(.str "push" 697), (.str "_Accumulator.push" 698), (.str "/claim/cut.py" 699), (.int (210) 0), (.int (3) 0), (.int (0) 0), (.int (0) 0), (.int (3) 0), (.ref 176), (.bool true), (.int (276) 0), (.ref 177), .none, (.ref 178), (.ref 179), (.ref 180), (.int (703) 0), (.int (210) 0), (.str "/claim/cut.py" 704)] }),
 (190, { cls := (.type "function"), data := .func (fdOf (qy 16 2) "_Accumulator.pop_from" 3 [] (.ref 183) .none .none (.str "cpy313.email.header" 527) none (.ref 189) .none 0) }),
 (189, { cls := (.type "code"), data := .fields #[(.str "pop_from" 707), (.str "_Accumulator.pop_from" 708), (.str "/claim/cut.py" 709), (.int (213) 0), (.int (2) 0), (.int (0) 0), (.int (0) 0), (.int (3) 0), (.ref 184), (.bool true), (.int (276) 0), (.ref 185), .none, (.ref 186), (.ref 187), (.ref 188), (.int (713) 0), (.int (213) 0), (.str "/claim/cut.py" 714)] }),
 (183, { cls := (.type "tuple"), data := .seq #[(.int (0) 706)] 0 }),
 (198, { cls := (.type "function"), data := .func (fdOf (qy 16 3) "_Accumulator.pop" 3 [("__class__", 162)] .none .none .none (.str "cpy313.email.header" 527) none (.ref 197) (.ref 191) 0) }),
 (197, { cls := (.type "code"), data := .fields #[(.str "pop" 716), (.str "_Accumulator.pop" 717), (.str "/claim/cut.py" 718), (.int (218) 0), (.int (1) 0), (.int (0) 0), (.int (0) 0), (.int (3) 0), (.ref 192), (.bool true), (.int (276) 0), (.ref 193), .none, (.ref 194), (.ref 195), (.ref 196), (.int (721) 0), (.int (218) 0), (.str "/claim/cut.py" 722)] }),
 (205, { cls := (.type "function"), data := .func (fdOf (qy 16 4) "_Accumulator.__len__" 3 [] .none .none .none (.str "cpy313.email.header" 527) none (.ref 204) .none 0) }),
 (204, { cls := (.type "code"), data := .fields #[(.str "__len__" 724), (.str "_Accumulator.__len__" 725), (.str "/claim/cut.py" 726), (.int (223) 0), (.int (1) 0), (.int (0) 0), (.int (0) 0), (.int (3) 0), (.ref 199), (.bool true), (.int (276) 0), (.ref 200), .none, (.ref 201), (.ref 202), (.ref 203), (.int (728) 0), (.int (223) 0), (.str "/claim/cut.py" 729)] }),
 (212, { cls := (.type "function"), data := .func (fdOf (qy 16 5) "_Accumulator.__str__" 3 [] .none .none .none (.str "cpy313.email.header" 527) none (.ref 211) .none 0) }),
 (211, { cls := (.type "code"), data := .fields #[(.str "__str__" 731), (.str "_Accumulator.__str__" 732), (.str "/claim/cut.py" 733), (.int (226) 0), (.int (1) 0), (.int (0) 0), (.int (0) 0), (.int (3) 0), (.ref 206), (.bool true), (.int (276) 0), (.ref 207), .none, (.ref 208), (.ref 209), (.ref 210), (.int (735) 0), (.int (226) 0), (.str "/claim/cut.py" 736)] }),
 (220, { cls := (.type "function"), data := .func (fdOf (qy 16 6) "_Accumulator.reset" 3 [] (.ref 213) .none .none (.str "cpy313.email.header" 527) none (.ref 219) .none 0) }),
 (219, { cls := (.type "code"), data := .fields #[(.str "reset" 738), (.str "_Accumulator.reset" 739), (.str "/claim/cut.py" 740), (.int (229) 0), (.int (2) 0), (.int (0) 0), (.int (0) 0), (.int (3) 0), (.ref 214), (.bool true), (.int (276) 0), (.ref 215), .none, (.ref 216), (.ref 217), (.ref 218), (.int (743) 0), (.int (229) 0), (.str "/claim/cut.py" 744)] }),
 (213, { cls := (.type "tuple"), data := .seq #[.none] 0 }),
 (227, { cls := (.type "function"), data := .func (fdOf (qy 16 7) "_Accumulator.is_onlyws" 3 [] .none .none .none (.str "cpy313.email.header" 527) none (.ref 226) .none 0) }),
 (226, { cls := (.type "code"), data := .fields #[(.str "is_onlyws" 746), (.str "_Accumulator.is_onlyws" 747), (.str "/claim/cut.py" 748), (.int (235) 0), (.int (1) 0), (.int (0) 0), (.int (0) 0), (.int (3) 0), (.ref 221), (.bool true), (.int (276) 0), (.ref 222), .none, (.ref 223), (.ref 224), (.ref 225), (.int (750) 0), (.int (235) 0), (.str "/claim/cut.py" 751)] }),
 (235, { cls := (.type "function"), data := .func (fdOf (qy 16 8) "_Accumulator.part_count" 3 [("__class__", 162)] .none .none .none (.str "cpy313.email.header" 527) none (.ref 234) (.ref 228) 0) }),
 (234, { cls := (.type "code"), data := .fields #[(.str "part_count" 753), (.str "_Accumulator.part_count" 754), (.str "/claim/cut.py" 755), (.int (238) 0), (.int (1) 0), (.int (0) 0), (.int (0) 0), (.int (3) 0), (.ref 229), (.bool true), (.int (276) 0), (.ref 230), .none, (.ref 231), (.ref 232), (.ref 233), (.int (758) 0), (.int (238) 0), (.str "/claim/cut.py" 759)] }),
 (237, { cls := (.type "dict"), data := .dict #[⟨PyData.keyHash P "__module__", (.str "__module__" 682), (.str "cpy313.email.header" 527)⟩, ⟨PyData.keyHash P "__firstlineno__", (.str "__firstlineno__" 686), (.int (204) 685)⟩, ⟨PyData.keyHash P "__init__", (.str "__init__" 696), (.ref 175)⟩, ⟨PyData.keyHash P "push", (.str "push" 705), (.ref 182)⟩, ⟨PyData.keyHash P "pop_from", (.str "pop_from" 715), (.ref 190)⟩, ⟨PyData.keyHash P "pop", (.str "pop" 723), (.ref 198)⟩, ⟨PyData.keyHash P "__len__", (.str "__len__" 730), (.ref 205)⟩, ⟨PyData.keyHash P "__str__", (.str "__str__" 737), (.ref 212)⟩, ⟨PyData.keyHash P "reset", (.str "reset" 745), (.ref 220)⟩, ⟨PyData.keyHash P "is_onlyws", (.str "is_onlyws" 752), (.ref 227)⟩, ⟨PyData.keyHash P "part_count", (.str "part_count" 760), (.ref 235)⟩, ⟨PyData.keyHash P "__static_attributes__", (.str "__static_attributes__" 762), (.ref 236)⟩, ⟨PyData.keyHash P "__dict__", (.str "__dict__" 765), (.ref 239)⟩, ⟨PyData.keyHash P "__weakref__", (.str "__weakref__" 767), (.ref 240)⟩, ⟨PyData.keyHash P "__doc__", (.str "__doc__" 768), .none⟩] 5 }),
 (238, { cls := (.type "type"), data := .cls ⟨"_Accumulator", [(.type "list")], [(.ref 238), (.type "list"), (.type "object")], 237, "_Accumulator", true, [], [], false, none, false⟩, slots := #[(some (.ref 159)), none, (some (.str "_Accumulator" 675)), (some (.str "_Accumulator" 683)), (some (.builtin "list.__new__")), (some (.bool true))] }),
 (249, { cls := (.type "function"), data := .func (fdOf (jj 18) "unorderable_list_difference" 3 [] .none .none .none (.str "cpy313.unittest.util" 771) none (.ref 248) .none 0) }),
 (248, { cls := (.type "code"), data := .fields #[(.str "unorderable_list_difference" 773), (.str "unorderable_list_difference" 774), (.str "/claim/cut.py" 775), (.int (241) 0), (.int (2) 0), (.int (0) 0), (.int (0) 0), (.int (3) 0), (.ref 243), (.bool true), (.int (276) 0), (.ref 244), .none, (.ref 245), (.ref 246), (.ref 247), (.int (780) 0), (.int (241) 0), (.str "/claim/cut.py" 781)] }),
 (254, { cls := (.type "function"), data := .func (fdOf (jj 20) "_law_pattern" 3 [] .none .none .none (.str "law_ik0126_01" 783) none (.ref 253) .none 0) }),
 (253, { cls := (.type "code"), data := .fields #[(.str "_law_pattern" 785), (.str "_law_pattern" 786), (.str "/claim/cut.py" 787), (.int (251) 0), (.int (2) 0), (.int (0) 0), (.int (0) 0), (.int (3) 0), (.ref 250), (.bool true), (.int (276) 0), (.ref 251), .none, .none, .none, (.ref 252), (.int (788) 0), (.int (251) 0), (.str "/claim/cut.py" 789)] }),
 (261, { cls := (.type "function"), data := .func (fdOf (jj 21) "_law_folded" 3 [] .none .none .none (.str "law_ik0126_01" 783) none (.ref 260) .none 0) }),
 (260, { cls := (.type "code"), data := .fields #[(.str "_law_folded" 791), (.str "_law_folded" 792), (.str "/claim/cut.py" 793), (.int (255) 0), (.int (2) 0), (.int (0) 0), (.int (0) 0), (.int (3) 0), (.ref 255), (.bool true), (.int (276) 0), (.ref 256), .none, (.ref 257), (.ref 258), (.ref 259), (.int (798) 0), (.int (255) 0), (.str "/claim/cut.py" 799)] }),
 (268, { cls := (.type "function"), data := .func (fdOf (jj 22) "_law_rows" 3 [] .none .none .none (.str "law_ik0126_01" 783) none (.ref 267) .none 0) }),
 (267, { cls := (.type "code"), data := .fields #[(.str "_law_rows" 801), (.str "_law_rows" 802), (.str "/claim/cut.py" 803), (.int (261) 0), (.int (3) 0), (.int (0) 0), (.int (0) 0), (.int (3) 0), (.ref 262), (.bool true), (.int (276) 0), (.ref 263), .none, (.ref 264), (.ref 265), (.ref 266), (.int (809) 0), (.int (261) 0), (.str "/claim/cut.py" 810)] }),
 (275, { cls := (.type "function"), data := .func (fdOf (jj 23) "_law_marked" 3 [] .none .none .none (.str "law_ik0126_01" 783) none (.ref 274) .none 0) }),
 (274, { cls := (.type "code"), data := .fields #[(.str "_law_marked" 812), (.str "_law_marked" 813), (.str "/claim/cut.py" 814), (.int (268) 0), (.int (3) 0), (.int (0) 0), (.int (0) 0), (.int (3) 0), (.ref 269), (.bool true), (.int (276) 0), (.ref 270), .none, (.ref 271), (.ref 272), (.ref 273), (.int (824) 0), (.int (268) 0), (.str "/claim/cut.py" 825)] }),
 (280, { cls := (.type "function"), data := .func (fdOf (jj 24) "law" 3 [] .none .none .none (.str "law_ik0126_01" 783) none (.ref 279) .none 0) }),
 (279, { cls := (.type "code"), data := .fields #[(.str "law" 827), (.str "law" 828), (.str "/claim/cut.py" 829), (.int (279) 0), (.int (1) 0), (.int (0) 0), (.int (0) 0), (.int (3) 0), (.ref 276), (.bool true), (.int (276) 0), (.ref 277), .none, .none, .none, (.ref 278), (.int (830) 0), (.int (279) 0), (.str "/claim/cut.py" 831)] })]
noncomputable def KFas : List Addr := [2, 3, 4, 42, 43, 50, 49, 52, 62, 61, 69, 68, 76, 75, 80, 81, 95, 94, 102, 101, 109, 108, 116, 115, 130, 129, 144, 143, 151, 150, 153, 154, 159, 162, 175, 174, 167, 182, 181, 190, 189, 183, 198, 197, 205, 204, 212, 211, 220, 219, 213, 227, 226, 235, 234, 237, 238, 249, 248, 254, 253, 261, 260, 268, 267, 275, 274, 280, 279]
end Mine
end
section
open PySem PySem.W PyProof.Rows PySem.Calls PySem.Spec
namespace Mine
noncomputable abbrev qge : FuncData := fdOf (jj 4) "translate" 3 [] .none .none .none (.str "cpy313.fnmatch" 289) none (.ref 49) .none 0
noncomputable abbrev qg0 : List Str := [("pat" : Str), ("STAR" : Str), ("parts" : Str)]
noncomputable abbrev qgp : List Str := [("object" : Str), ("_translate" : Str), ("_join_translated_parts" : Str)]
theorem qia {c : CX} (h : c.K = KF c.w.params) : FnRec c 50 qge (qu (jj 4)) qg0 qgp :=
 ⟨(y_ea _ (by rw [h]; rfl) rfl), (qz 49 _ _ _ rfl (by rw [h]; rfl) rfl rfl), rfl, rfl, rfl, rfl, by decide, rfl, rfl, by decide +kernel, by decide, by decide⟩
noncomputable abbrev qnt : FuncData := fdOf (jj 7) "escape" 3 [] .none .none .none (.str "re" 338) none (.ref 61) .none 0
noncomputable abbrev qou : List Str := [("pattern" : Str)]
noncomputable abbrev qoc : List Str := [("isinstance" : Str), ("str" : Str), ("_special_chars_map" : Str)]
theorem qql {c : CX} (h : c.K = KF c.w.params) : FnRec c 62 qnt (qu (jj 7)) qou qoc :=
 ⟨(y_ea _ (by rw [h]; rfl) rfl), (qz 61 _ _ _ rfl (by rw [h]; rfl) rfl rfl), rfl, rfl, rfl, rfl, by decide, rfl, rfl, by decide +kernel, by decide, by decide⟩
noncomputable abbrev z5 : FuncData := fdOf (jj 9) "_translate" 3 [] .none .none .none (.str "cpy313.fnmatch" 493) none (.ref 68) .none 0
noncomputable abbrev wa : List Str := [("pat" : Str), ("STAR" : Str), ("QUESTION_MARK" : Str), ("res" : Str), ("add" : Str), ("i" : Str), ("n" : Str), ("c" : Str), ("j" : Str), ("stuff" : Str), ("chunks" : Str), ("k" : Str), ("chunk" : Str)]
noncomputable abbrev z9 : List Str := [("len" : Str), ("range" : Str), ("twin_re_1_fnmatch" : Str), ("escape" : Str)]
theorem qfw {c : CX} (h : c.K = KF c.w.params) : FnRec c 69 z5 (qu (jj 9)) wa z9 :=
 ⟨(y_ea _ (by rw [h]; rfl) rfl), (qz 68 _ _ _ rfl (by rw [h]; rfl) rfl rfl), rfl, rfl, rfl, rfl, by decide, rfl, rfl, by decide +kernel, by decide, by decide⟩
noncomputable abbrev yr : FuncData := fdOf (jj 10) "_join_translated_parts" 3 [] .none .none .none (.str "cpy313.fnmatch" 493) none (.ref 75) .none 0
noncomputable abbrev yw : List Str := [("inp" : Str), ("STAR" : Str), ("res" : Str), ("add" : Str), ("i" : Str), ("n" : Str), ("fixed" : Str)]
noncomputable abbrev yt : List Str := [("len" : Str)]
theorem y4 {c : CX} (h : c.K = KF c.w.params) : FnRec c 76 yr (qu (jj 10)) yw yt :=
 ⟨(y_ea _ (by rw [h]; rfl) rfl), (qz 75 _ _ _ rfl (by rw [h]; rfl) rfl rfl), rfl, rfl, rfl, rfl, by decide, rfl, rfl, by decide +kernel, by decide, by decide⟩
noncomputable abbrev qih : FuncData := fdOf (qy 15 0) "_ValueFormatter.__init__" 3 [] .none .none .none (.str "cpy313.email.header" 527) none (.ref 94) .none 0
noncomputable abbrev qir : List Str := [("self" : Str), ("headerlen" : Str), ("maxlen" : Str), ("continuation_ws" : Str), ("splitchars" : Str)]
noncomputable abbrev qin : List Str := [("len" : Str), ("_Accumulator" : Str)]
theorem qkw {c : CX} (h : c.K = KF c.w.params) : FnRec c 95 qih (qu (qy 15 0)) qir qin :=
 ⟨(y_ea _ (by rw [h]; rfl) rfl), (qz 94 _ _ _ rfl (by rw [h]; rfl) rfl rfl), rfl, rfl, rfl, rfl, by decide, rfl, rfl, by decide +kernel, by decide, by decide⟩
noncomputable abbrev qnr : FuncData := fdOf (qy 15 1) "_ValueFormatter._str" 3 [] .none .none .none (.str "cpy313.email.header" 527) none (.ref 101) .none 0
noncomputable abbrev qor : List Str := [("self" : Str), ("linesep" : Str)]
noncomputable abbrev qoa : List Str := []
theorem qqj {c : CX} (h : c.K = KF c.w.params) : FnRec c 102 qnr (qu (qy 15 1)) qor qoa :=
 ⟨(y_ea _ (by rw [h]; rfl) rfl), (qz 101 _ _ _ rfl (by rw [h]; rfl) rfl rfl), rfl, rfl, rfl, rfl, by decide, rfl, rfl, by decide +kernel, by decide, by decide⟩
noncomputable abbrev quj : FuncData := fdOf (qy 15 2) "_ValueFormatter.__str__" 3 [] .none .none .none (.str "cpy313.email.header" 527) none (.ref 108) .none 0
noncomputable abbrev qul : List Str := [("self" : Str)]
noncomputable abbrev quk : List Str := [("NL" : Str)]
noncomputable abbrev qgd : FuncData := fdOf (qy 15 3) "_ValueFormatter.newline" 3 [] .none .none .none (.str "cpy313.email.header" 527) none (.ref 115) .none 0
noncomputable abbrev qgz : List Str := [("self" : Str), ("end_of_line" : Str)]
noncomputable abbrev qgo : List Str := [("len" : Str), ("str" : Str)]
theorem qh9 {c : CX} (h : c.K = KF c.w.params) : FnRec c 116 qgd (qu (qy 15 3)) qgz qgo :=
 ⟨(y_ea _ (by rw [h]; rfl) rfl), (qz 115 _ _ _ rfl (by rw [h]; rfl) rfl rfl), rfl, rfl, rfl, rfl, by decide, rfl, rfl, by decide +kernel, by decide, by decide⟩
noncomputable abbrev qns : FuncData := fdOf (qy 15 5) "_ValueFormatter.feed" 3 [] .none .none .none (.str "cpy313.email.header" 527) none (.ref 129) .none 0
noncomputable abbrev qos : List Str := [("self" : Str), ("fws" : Str), ("string" : Str), ("charset" : Str), ("encoded_lines" : Str), ("first_line" : Str), ("last_line" : Str), ("line" : Str)]
noncomputable abbrev qob : List Str := [("IndexError" : Str)]
theorem qqk {c : CX} (h : c.K = KF c.w.params) : FnRec c 130 qns (qu (qy 15 5)) qos qob :=
 ⟨(y_ea _ (by rw [h]; rfl) rfl), (qz 129 _ _ _ rfl (by rw [h]; rfl) rfl rfl), rfl, rfl, rfl, rfl, by decide, rfl, rfl, by decide +kernel, by decide, by decide⟩
noncomputable abbrev qaf : FuncData := fdOf (qy 15 7) "_ValueFormatter._ascii_split" 3 [] .none .none .none (.str "cpy313.email.header" 527) none (.ref 143) .none 0
noncomputable abbrev qak : List Str := [("self" : Str), ("fws" : Str), ("string" : Str), ("splitchars" : Str), ("parts" : Str), ("part" : Str)]
noncomputable abbrev qah : List Str := [("twin_re_1_header" : Str), ("zip" : Str), ("iter" : Str)]
theorem qaw {c : CX} (h : c.K = KF c.w.params) : FnRec c 144 qaf (qu (qy 15 7)) qak qah :=
 ⟨(y_ea _ (by rw [h]; rfl) rfl), (qz 143 _ _ _ rfl (by rw [h]; rfl) rfl rfl), rfl, rfl, rfl, rfl, by decide, rfl, rfl, by decide +kernel, by decide, by decide⟩
noncomputable abbrev un : FuncData := fdOf (qy 15 8) "_ValueFormatter._append_chunk" 3 [] .none .none .none (.str "cpy313.email.header" 527) none (.ref 150) .none 0
noncomputable abbrev uw : List Str := [("self" : Str), ("fws" : Str), ("string" : Str), ("ch" : Str), ("i" : Str), ("prevpart" : Str), ("part" : Str), ("remainder" : Str)]
noncomputable abbrev uq : List Str := [("len" : Str), ("range" : Str), ("str" : Str)]
theorem qaa {c : CX} (h : c.K = KF c.w.params) : FnRec c 151 un (qu (qy 15 8)) uw uq :=
 ⟨(y_ea _ (by rw [h]; rfl) rfl), (qz 150 _ _ _ rfl (by rw [h]; rfl) rfl rfl), rfl, rfl, rfl, rfl, by decide, rfl, rfl, by decide +kernel, by decide, by decide⟩
noncomputable abbrev qbq : FuncData := fdOf (qy 16 0) "_Accumulator.__init__" 3 [("__class__", 162)] (.ref 167) .none .none (.str "cpy313.email.header" 527) none (.ref 174) (.ref 168) 0
noncomputable abbrev qb7 : List Str := [("self" : Str), ("initial_size" : Str)]
noncomputable abbrev qbz : List Str := [("super" : Str)]
theorem qdb {c : CX} (h : c.K = KF c.w.params) : FnRec c 175 qbq (qu (qy 16 0)) qb7 qbz :=
 ⟨(y_ea _ (by rw [h]; rfl) rfl), (qz 174 _ _ _ rfl (by rw [h]; rfl) rfl rfl), rfl, rfl, rfl, rfl, by decide, rfl, rfl, by decide +kernel, by decide, by decide⟩
noncomputable abbrev qnq : FuncData := fdOf (qy 16 1) "_Accumulator.push" 3 [] .none .none .none (.str "cpy313.email.header" 527) none (.ref 181) .none 0
noncomputable abbrev qoq : List Str := [("self" : Str), ("fws" : Str), ("string" : Str)]
noncomputable abbrev qn8 : List Str := []
theorem qqi {c : CX} (h : c.K = KF c.w.params) : FnRec c 182 qnq (qu (qy 16 1)) qoq qn8 :=
 ⟨(y_ea _ (by rw [h]; rfl) rfl), (qz 181 _ _ _ rfl (by rw [h]; rfl) rfl rfl), rfl, rfl, rfl, rfl, by decide, rfl, rfl, by decide +kernel, by decide, by decide⟩
noncomputable abbrev qei : FuncData := fdOf (qy 16 2) "_Accumulator.pop_from" 3 [] (.ref 183) .none .none (.str "cpy313.email.header" 527) none (.ref 189) .none 0
noncomputable abbrev qeu : List Str := [("self" : Str), ("i" : Str), ("popped" : Str)]
noncomputable abbrev qep : List Str := []
theorem qfu {c : CX} (h : c.K = KF c.w.params) : FnRec c 190 qei (qu (qy 16 2)) qeu qep :=
 ⟨(y_ea _ (by rw [h]; rfl) rfl), (qz 189 _ _ _ rfl (by rw [h]; rfl) rfl rfl), rfl, rfl, rfl, rfl, by decide, rfl, rfl, by decide +kernel, by decide, by decide⟩
noncomputable abbrev qj1 : FuncData := fdOf (qy 16 3) "_Accumulator.pop" 3 [("__class__", 162)] .none .none .none (.str "cpy313.email.header" 527) none (.ref 197) (.ref 191) 0
noncomputable abbrev qj8 : List Str := [("self" : Str)]
noncomputable abbrev qj5 : List Str := [("super" : Str)]
theorem qmx {c : CX} (h : c.K = KF c.w.params) : FnRec c 198 qj1 (qu (qy 16 3)) qj8 qj5 :=
 ⟨(y_ea _ (by rw [h]; rfl) rfl), (qz 197 _ _ _ rfl (by rw [h]; rfl) rfl rfl), rfl, rfl, rfl, rfl, by decide, rfl, rfl, by decide +kernel, by decide, by decide⟩
noncomputable abbrev qk7 : FuncData := fdOf (qy 16 4) "_Accumulator.__len__" 3 [] .none .none .none (.str "cpy313.email.header" 527) none (.ref 204) .none 0
noncomputable abbrev qdj : List Str := [("self" : Str)]
noncomputable abbrev qld : List Str := [("sum" : Str)]
theorem qmv {c : CX} (h : c.K = KF c.w.params) : FnRec c 205 qk7 (qu (qy 16 4)) qdj qld :=
 ⟨(y_ea _ (by rw [h]; rfl) rfl), (qz 204 _ _ _ rfl (by rw [h]; rfl) rfl rfl), rfl, rfl, rfl, rfl, by decide, rfl, rfl, by decide +kernel, by decide, by decide⟩
noncomputable abbrev qk8 : FuncData := fdOf (qy 16 5) "_Accumulator.__str__" 3 [] .none .none .none (.str "cpy313.email.header" 527) none (.ref 211) .none 0
noncomputable abbrev qln : List Str := [("self" : Str)]
noncomputable abbrev qle : List Str := [("EMPTYSTRING" : Str)]
theorem qmw {c : CX} (h : c.K = KF c.w.params) : FnRec c 212 qk8 (qu (qy 16 5)) qln qle :=
 ⟨(y_ea _ (by rw [h]; rfl) rfl), (qz 211 _ _ _ rfl (by rw [h]; rfl) rfl rfl), rfl, rfl, rfl, rfl, by decide, rfl, rfl, by decide +kernel, by decide, by decide⟩
noncomputable abbrev qk9 : FuncData := fdOf (qy 16 6) "_Accumulator.reset" 3 [] (.ref 213) .none .none (.str "cpy313.email.header" 527) none (.ref 219) .none 0
noncomputable abbrev qlo : List Str := [("self" : Str), ("startval" : Str)]
noncomputable abbrev qlf : List Str := []
theorem qfv {c : CX} (h : c.K = KF c.w.params) : FnRec c 220 qk9 (qu (qy 16 6)) qlo qlf :=
 ⟨(y_ea _ (by rw [h]; rfl) rfl), (qz 219 _ _ _ rfl (by rw [h]; rfl) rfl rfl), rfl, rfl, rfl, rfl, by decide, rfl, rfl, by decide +kernel, by decide, by decide⟩
noncomputable abbrev qcv : FuncData := fdOf (qy 16 7) "_Accumulator.is_onlyws" 3 [] .none .none .none (.str "cpy313.email.header" 527) none (.ref 226) .none 0
noncomputable abbrev qc2 : List Str := [("self" : Str)]
noncomputable abbrev qcy : List Str := [("str" : Str)]
theorem qd0 {c : CX} (h : c.K = KF c.w.params) : FnRec c 227 qcv (qu (qy 16 7)) qc2 qcy :=
 ⟨(y_ea _ (by rw [h]; rfl) rfl), (qz 226 _ _ _ rfl (by rw [h]; rfl) rfl rfl), rfl, rfl, rfl, rfl, by decide, rfl, rfl, by decide +kernel, by decide, by decide⟩
noncomputable abbrev qbr : FuncData := fdOf (qy 16 8) "_Accumulator.part_count" 3 [("__class__", 162)] .none .none .none (.str "cpy313.email.header" 527) none (.ref 234) (.ref 228) 0
noncomputable abbrev qb8 : List Str := [("self" : Str)]
noncomputable abbrev qb0 : List Str := [("super" : Str)]
theorem vm {c : CX} (h : c.K = KF c.w.params) : FnRec c 235 qbr (qu (qy 16 8)) qb8 qb0 :=
 ⟨(y_ea _ (by rw [h]; rfl) rfl), (qz 234 _ _ _ rfl (by rw [h]; rfl) rfl rfl), rfl, rfl, rfl, rfl, by decide, rfl, rfl, by decide +kernel, by decide, by decide⟩
noncomputable abbrev qb : FuncData := fdOf (jj 18) "unorderable_list_difference" 3 [] .none .none .none (.str "cpy313.unittest.util" 771) none (.ref 248) .none 0
noncomputable abbrev qm : List Str := [("expected" : Str), ("actual" : Str), ("missing" : Str), ("item" : Str)]
noncomputable abbrev ql : List Str := [("ValueError" : Str)]
theorem ya {c : CX} (h : c.K = KF c.w.params) : FnRec c 249 qb (qu (jj 18)) qm ql :=
 ⟨(y_ea _ (by rw [h]; rfl) rfl), (qz 248 _ _ _ rfl (by rw [h]; rfl) rfl rfl), rfl, rfl, rfl, rfl, by decide, rfl, rfl, by decide +kernel, by decide, by decide⟩
noncomputable abbrev qv : FuncData := fdOf (jj 20) "_law_pattern" 3 [] .none .none .none (.str "law_ik0126_01" 783) none (.ref 253) .none 0
noncomputable abbrev yj : List Str := [("numbers" : Str), ("white" : Str), ("drawn" : Str)]
noncomputable abbrev qn9 : List Str := []
noncomputable abbrev qcw : FuncData := fdOf (jj 21) "_law_folded" 3 [] .none .none .none (.str "law_ik0126_01" 783) none (.ref 260) .none 0
noncomputable abbrev qc3 : List Str := [("text" : Str), ("width" : Str), ("plain" : Str), ("maker" : Str)]
noncomputable abbrev qcz : List Str := [("_ValueFormatter" : Str)]
theorem qd1 {c : CX} (h : c.K = KF c.w.params) : FnRec c 261 qcw (qu (jj 21)) qc3 qcz :=
 ⟨(y_ea _ (by rw [h]; rfl) rfl), (qz 260 _ _ _ rfl (by rw [h]; rfl) rfl rfl), rfl, rfl, rfl, rfl, by decide, rfl, rfl, by decide +kernel, by decide, by decide⟩
noncomputable abbrev qgc : FuncData := fdOf (jj 22) "_law_rows" 3 [] .none .none .none (.str "law_ik0126_01" 783) none (.ref 267) .none 0
noncomputable abbrev qgy : List Str := [("text" : Str), ("white" : Str), ("width" : Str), ("rows" : Str), ("piece" : Str)]
noncomputable abbrev qgn : List Str := [("len" : Str)]
theorem qh8 {c : CX} (h : c.K = KF c.w.params) : FnRec c 268 qgc (qu (jj 22)) qgy qgn :=
 ⟨(y_ea _ (by rw [h]; rfl) rfl), (qz 267 _ _ _ rfl (by rw [h]; rfl) rfl rfl), rfl, rfl, rfl, rfl, by decide, rfl, rfl, by decide +kernel, by decide, by decide⟩
noncomputable abbrev qcx : FuncData := fdOf (jj 23) "_law_marked" 3 [] .none .none .none (.str "law_ik0126_01" 783) none (.ref 274) .none 0
noncomputable abbrev qc4 : List Str := [("pattern" : Str), ("white" : Str), ("rows" : Str), ("begins" : Str), ("seen" : Str), ("row" : Str), ("parts" : Str), ("marked" : Str), ("n" : Str)]
noncomputable abbrev qc0 : List Str := [("range" : Str), ("len" : Str)]
theorem qd2 {c : CX} (h : c.K = KF c.w.params) : FnRec c 275 qcx (qu (jj 23)) qc4 qc0 :=
 ⟨(y_ea _ (by rw [h]; rfl) rfl), (qz 274 _ _ _ rfl (by rw [h]; rfl) rfl rfl), rfl, rfl, rfl, rfl, by decide, rfl, rfl, by decide +kernel, by decide, by decide⟩
noncomputable abbrev qsk : FuncData := fdOf (jj 24) "law" 3 [] .none .none .none (.str "law_ik0126_01" 783) none (.ref 279) .none 0
noncomputable abbrev qsr : List Str := [("script" : Str), ("numbers" : Str), ("total" : Str), ("white" : Str), ("width" : Str), ("pattern" : Str), ("text" : Str), ("folded" : Str), ("rows" : Str), ("due" : Str), ("ends" : Str)]
noncomputable abbrev qsm : List Str := [("sum" : Str), ("_law_pattern" : Str), ("translate" : Str), ("_law_folded" : Str), ("_law_rows" : Str), ("_law_marked" : Str), ("unorderable_list_difference" : Str), ("list" : Str), ("len" : Str)]
theorem qwf {c : CX} (h : c.K = KF c.w.params) : FnRec c 280 qsk (qu (jj 24)) qsr qsm :=
 ⟨(y_ea _ (by rw [h]; rfl) rfl), (qz 279 _ _ _ rfl (by rw [h]; rfl) rfl rfl), rfl, rfl, rfl, rfl, by decide, rfl, rfl, by decide +kernel, by decide, by decide⟩
end Mine
end
section
open PySem PySem.W PyProof.Rows PySem.Calls PySem.Spec
namespace Mine
section
variable {c : CX} {n : Nat} {os : List AO} {K : AV → List AO → Prop} {e : EF} {loc : Loc}
theorem qwa {a b : Str} {k1 k3 : Nat} {x : Expr} {p1 p2 p3 p : Pos} (ha : a.length ≤ sizeLine) (h : EV c n e loc os x fun v os1 => ∃ y, v = .str y ∧ a.length + y.length + b.length ≤ sizeLine ∧ K (.str (a ++ y ++ b)) os1) :
  EV c n e loc os (.JoinedStr [.Constant (.str a) k1 p1, .FormattedValue x (-1) none p2, .Constant (.str b) k3 p3] p) K := fun A hA ρ s F => by
 refine wpAny_JoinedStr ?_
 have ea : Str.empty ++ a = a := Str.empty_append a
 have F1 : FR c e loc os ρ { s with toks := s.toks + 1 } := F.keeps (tk := s.toks + 1) (fun ω ω q => q) (Nat.le_refl _) (Nat.le_succ _)
 have E0 : Ext c.tabs [] ρ s ρ { s with toks := s.toks + 1 } := Ext.toks ..
 have h1 := h A hA ρ _ F1
 have mid : wpAny (MM c.w) A (eval (.FormattedValue x (-1) none p2) e.env) (fun v s₁ => ∃ y t os1 ρ1, v = .str y t ∧ a.length + y.length + b.length ≤ sizeLine ∧ K (.str (a ++ y ++ b)) os1 ∧ c.HR ρ1 os1 s₁ ∧ Ext c.tabs [] ρ s ρ1 s₁) NoE { s with toks := s.toks + 1 } := by
  refine wpAny_FormattedValue_plain (wpAny_mono h1 (fun v s1 z => ?_) fun ω ω z => z)
  obtain ⟨ω, os1, ρ1, ⟨y, rfl, hl, k⟩, H1, E1, t, rfl⟩ := z
  exact wpAny_formatField_str (qz y t os1 ρ1 rfl hl k ⟨H1, E0.trans E1⟩) (qz y s1.toks os1 ρ1 rfl hl k ⟨H1.toks _ (Nat.le_succ _), (E0.trans E1).trans (Ext.toks ..)⟩) (by lia)
 refine Constant_str (jk a s.toks rfl ?_ ?_)
 ·rw [ea]; exact ha
 ·refine wpAny_mono mid (fun v s1 z => ?_) fun ω ω z => z
  refine v6 z fun y t os1 ρ1 z7y hl k z8y => ?_; clear z; subst z7y; obtain ⟨H1, E1⟩ := z8y
  refine (jk y t rfl (by rw [ea, strLen_append]; exact Nat.le_of_add_right_le hl) (Constant_str ⟨b, s1.toks, rfl, by rw [ea, strLen_append, strLen_append]; assumption, by rw [ea, strLen_append, strLen_append]; assumption, ?_⟩))
  rw [ea]
  exact ⟨_, os1, ρ1, k, (H1.toks (s1.toks + 1) (Nat.le_succ _)).toks _ (Nat.le_succ _), (E1.trans (Ext.toks ..)).trans (Ext.toks ..), _, rfl⟩
end
end Mine
end
section
open PySem PySem.W PyProof.Rows PySem.Calls PySem.Spec
namespace Mine
noncomputable def S (l : List Nat) : Str := ⟨l.toArray⟩
theorem jb (l : List Nat) : (S l).length = l.length := by rfl
theorem v7 (a b : List Nat) : S a ++ S b = S (a ++ b) := Str.ext' (by simp [S, Str.cps_append])
theorem quw {a b : List Nat} : S a = S b ↔ a = b := ⟨fun h => by injection h with h; exact List.toArray_inj h, fun h => by rw [h]⟩
theorem S_of (x : Str) : x = S x.cps.toList := Str.ext' (by simp [S])
theorem qfz (a b : List Nat) : (S a == S b) = (a == b) := by
 by_cases h : a = b
 ·subst h; simp
 ·rw [beq_eq_false_iff_ne.mpr h, beq_eq_false_iff_ne.mpr fun q => h (quw.mp q)]
noncomputable def cat (xs : List (List Nat)) : List Nat := xs.flatten
theorem qal (xs : List (List Nat)) : Str.join (S []) (xs.map S) = S (cat xs) := by
 induction xs with
 | nil => rfl
 | cons x xs ih =>
  cases xs with
  | nil => simp [Str.join, cat]
  | cons y ys =>
   show S x ++ S [] ++ Str.join (S []) ((y :: ys).map S) = _
   rw [ih, v7, v7]; simp [cat]
end Mine
end
section
open PySem PySem.W PyProof.Rows PySem.Calls PySem.Spec
namespace Mine
noncomputable abbrev GT : List (Str × Value) := [("len", .builtin "len"), ("range", .type "range"), ("list", .type "list"), ("str", .type "str"), ("object", .type "object"), ("sum", .builtin "sum"), ("isinstance", .builtin "isinstance"), ("zip", .type "zip"), ("iter", .builtin "iter"), ("super", .type "super"), ("ValueError", .type "ValueError"),
 ("_translate", .ref 69), ("_join_translated_parts", .ref 76), ("escape", .ref 62), ("_special_chars_map", .ref 52), ("twin_re_1_fnmatch", .ref 43), ("twin_re_1_header", .ref 81), ("NL", .str "\n" 557), ("EMPTYSTRING", .str "" 559),
 ("_ValueFormatter", .ref 154), ("_Accumulator", .ref 238), ("unorderable_list_difference", .ref 249), ("_law_pattern", .ref 254), ("_law_folded", .ref 261), ("_law_rows", .ref 268), ("_law_marked", .ref 275), ("translate", .ref 50)]
noncomputable abbrev TABS : List Tab := [⟨204, 200, []⟩, ⟨211, 207, []⟩, ⟨68, 64, []⟩]
structure CX.Std (c : CX) : Prop where
 ok : c.Ok
 hK : c.K = KF c.w.params
 hG : c.gt = GT
 hT : c.tabs = TABS
section
variable {c : CX} {n : Nat} {os : List AO} {K : AV → List AO → Prop} {e : EF} {loc : Loc}
theorem EV_g (C : c.Std) {x : Str} {p : Pos} {v : Value} (hg : x ∈ e.gs) (hx : (x, v) ∈ GT) (h : K (.glob v) os) : EV c n e loc os (.Name x p) K := qs5 C.ok hg (by rw [C.hG]; exact hx) h
theorem Kp_g (C : c.Std) {a : Addr} (h : keepIn (KF c.w.params) (.ref a) = true) : Kp c (.glob (.ref a)) := Kp.glob C.ok (by rw [C.hK]; exact h)
theorem qvb {c : CX} {n : Nat} {e : EF} {loc : Loc} {os : List AO} {K : AV → List AO → Prop} {x : Str} {p : Pos} (h : EV c n e loc os (.Name x p) K) : EV c n e loc os (.Name x p) K := h
theorem qv2 {ls : List Str} {loc : Loc} {x : Str} {a : AV} {P : Loc → Prop} (p : ∃ loc', StAt ls loc x a loc' ∧ P loc') : ∃ loc', StAt ls loc x a loc' ∧ P loc' := p
theorem qrz {ls : List Str} {loc loc' : Loc} {x : Str} {a : AV} {P : Loc → Prop} (h : StAt ls loc x a loc') (p : P loc') : ∃ loc', StAt ls loc x a loc' ∧ P loc' := (y_ea _ h p)
theorem xf {os l : List AO} {k : Nat} {x : AO} (h : os[k]? = some x) : (os ++ l)[k]? = some x := (List.getElem?_append_left (List.getElem?_eq_some_iff.mp h).1).trans h
theorem CS_g {f : Value} {args : List AV} (h : CG c n f args os K) : CS c n (.glob f) args os K := CS.of_glob h
theorem AOs.Un_app {k : Nat} : ∀ {a b : List AO}, AOs.Un k (a ++ b) ↔ AOs.Un k a ∧ AOs.Un k b
 | [], b => by simp [qi8, qi9]
 | o :: a, b => by simp [qi8, qi9, AOs.Un_app (a := a), and_assoc]
mutual
theorem AV.Un.le {k k' : Nat} (h : k ≤ k') : ∀ (a : AV), a.Un k → a.Un k'
 | .ref n, u => Nat.lt_of_lt_of_le u h
 | .tup xs, u => AVs.Un.le h xs u
 | .bm _ x, u => AV.Un.le h x u
 | .none, _ => trivial
 | .bool _, _ => trivial
 | .int _, _ => trivial
 | .str _, _ => trivial
 | .strT _ _, _ => trivial
 | .lam, _ => trivial
 | .rng _ _ _, _ => trivial
 | .sl _ _, _ => trivial
 | .glob _, _ => trivial
theorem AVs.Un.le {k k' : Nat} (h : k ≤ k') : ∀ (a : List AV), AVs.Un k a → AVs.Un k' a
 | [], _ => trivial
 | x :: xs, u => ⟨AV.Un.le h x u.1, AVs.Un.le h xs u.2⟩
end
theorem AE.Un.le {k k' : Nat} (h : k ≤ k') : ∀ (a : List (Str × AV)), AE.Un k a → AE.Un k' a
 | [], _ => trivial
 | (_, x) :: xs, u => ⟨AV.Un.le h x u.1, AE.Un.le h xs u.2⟩
theorem AO.Un.le {k k' : Nat} (h : k ≤ k') : ∀ (a : AO), a.Un k → a.Un k'
 | .list xs, u => AVs.Un.le h xs u
 | .nlist xs, u => AVs.Un.le h xs u
 | .dict es, u => AE.Un.le h es u
 | .inst _ dn, u => Nat.lt_of_lt_of_le u h
 | .acc _ dn xs, u => ⟨Nat.lt_of_lt_of_le u.1 h, AVs.Un.le h xs u.2⟩
 | .opq, _ => trivial
 | .hid, _ => trivial
theorem AOs.Un.le {k k' : Nat} (h : k ≤ k') : ∀ (a : List AO), AOs.Un k a → AOs.Un k' a
 | [], _ => trivial
 | x :: xs, u => ⟨AO.Un.le h x u.1, AOs.Un.le h xs u.2⟩
noncomputable abbrev sls (xs : List (List Nat)) : List AV := xs.map fun s => .str (S s)
theorem qhi (xs : List (List Nat)) : sls xs = (xs.map S).map .str := by simp [sls]
theorem jf {k : Nat} : ∀ (xs : List (List Nat)), AVs.Un k (sls xs)
 | [] => trivial
 | x :: xs => ⟨trivial, jf xs⟩
theorem qbm {os more : List AO} {k : Nat} (h : AOs.Un os.length os) (hm : AOs.Un k more) (hk : os.length ≤ k) : AOs.Un k (os ++ more) := AOs.Un_app.mpr ⟨AOs.Un.le hk _ h, hm⟩
end
end Mine
end
section
open PySem PySem.W PyProof.Rows PySem.Calls PySem.Spec
namespace Mine
section
variable {c : CX} {n : Nat} {os : List AO} {K : AV → List AO → Prop} {e : EF} {loc : Loc}
theorem qxs {h : Heap} {l : Addr} {items : Array Value} (x : IsL h l items) (f : Array Value → Array Value) : IsL (h.update l (Obj.mapSeq f)) l (f items) := x.map f
theorem VRs.last {ρ : List Addr} {h : Heap} {xs : List AV} {x : AV} {vs : List Value} (r : VRs ρ h (xs ++ [x]) vs) : ∃ ws v, vs = ws ++ [v] ∧ VRs ρ h xs ws ∧ VR ρ h x v := by
 refine qc (VRs.of_append r) fun v1 v2 z22y r1 r2 => ?_; subst z22y
 refine qc r2 fun v t z21y rv rt => ?_; clear r2; subst z21y
 obtain rfl : t = [] := rt
 exact (jk v1 v rfl r1 rv)
theorem qwb {k : Nat} {xs : List AV} {x : AV} (hk : os[k]? = some (.list (xs ++ [x]))) (hl : xs.length < sizeLine) (h : K x (os.set k (.list xs))) : CG c n (.builtin "list.pop") [.ref k] os K := fun A hA ρ s vs H V => by
 refine qc (wq V) fun b r' hb z20y V1 => ?_; subst z20y
 obtain rfl := q0 V1
 refine x_ea (qq H hk hb) fun ws e r => ?_
 refine qc r.last fun ws v z19y r1 rv => ?_; subst z19y
 have hlen := r1.length
 obtain ⟨m, e'⟩ := id e
 refine call_meets F.slot_list_pop e.list.typeIs F.entry_list_pop (F.args_list_pop_1 _) (MeetsSeq.list_pop_last b (ws ++ [v]).toArray m v (by simp) (by simp; lia)) ⟨e', ?_⟩
 exact Post.put (tk := s.toks) H hb (Heap.SameBut.update ..) (Nat.le_refl _) (ws := ws) (ys := xs) (by simpa [List.eraseIdx_append_of_length_le] using e.map (fun xs => xs.eraseIdxIfInBounds ((ws ++ [v]).toArray.size - 1))) r1 rv h
theorem qsb {k : Nat} {name : Str} {id : String} (slot : Slot "list" name id) (hty : typeOf (.builtin id) = pure (.type "method_descriptor")) (hk : qmq os k) : je c os (.ref k) name (.builtin id) := by
 rintro A pl ρ s v Q E H q1x; refine x_ea q1x fun a ha hv => ?_; clear q1x; rintro q
 subst hv
 obtain ⟨xs, hk⟩ := hk
 refine x_ea (qq H hk ha) fun ws e r => ?_
 refine zh e.ex fun o ho hc hdi z15y => ?_; obtain ⟨n, hd⟩ := z15y
 exact getMethod_list_of slot hty e.list ⟨o, ho, hdi⟩ (q s.toks (Nat.le_refl _))
theorem qwe {k : Nat} (hk : qmq os k) : je c os (.ref k) "pop" (.builtin "list.pop") := qsb F.slot_list_pop F.type_list_pop hk
theorem qjm {k : Nat} (hk : qmq os k) : je c os (.ref k) "remove" (.builtin "list.remove") := qsb F.slot_list_remove F.type_list_remove hk
theorem qru {w : World} {A : Around} {E : Value → Shared → Prop} {s : Shared} {l : Addr} {ws : List Value} {v u : Value} {t : Tok} {Q : Unit → Shared → Prop} (hl : IsL s.heap l (ws ++ [u]).toArray)
  (h : Q () { s with heap := s.heap.update l (Obj.mapSeq (·.setIfInBounds ws.length v)) }) : wpAny (MM w) A (setItem (.ref l) (.int (-1) t) v) Q E s := by
 refine zh hl.ex fun o ho hc hdi z14y => ?_; obtain ⟨n, hd⟩ := z14y
 unfold setItem
 try with_reducible refine wpAny_holding ?_
 first | refine wpAny_bind (wpAny_pure ?_) | skip
 refine wpAny_bind (wpAny_sequenceKey hl.list.typeIs (by rfl) ?_)
 refine wpAny_bind (wpAny_callSpecial?_slot (name := Str.ofString "__setitem__") hl.list.typeIs slot_list_setitem
  (wpAny_call_entry slot_list_setitem hl.list.typeIs entry_list_setitem ?_ (args_list_setitem _ _ _)))
 show wpAny _ _ (Builtin.List.listSubscript? (.int (-1) t) >>= _) _ _ s
 refine wpAny_bind (wpAny_listSubscript_int (by rfl) ?_)
 show wpAny _ _ ((Builtin.List.listItems (.ref l) >>= fun xs => pure ((seqIndex? (Int.negSucc 0) xs.size).bind fun i => xs[i]?.map (i, ·))) >>= _) _ _ s
 refine wpAny_bind (wpAny_bind ?_)
 show wpAny _ _ (seqItems? (.ref l) >>= _) _ _ s
 refine wpAny_bind (wpAny_seqItems ho hd (wpAny_pure (wpAny_pure ?_)))
 have hidx : seqIndex? (Int.negSucc 0) (ws ++ [u]).toArray.size = some ws.length := by
  rw [seqIndex_neg (by exact Int.negSucc_lt_zero 0) (by simp; exact (fun a b => (Z.leB_iff a b).mp) 1 (↑ws.length + 1) rfl)]; simp; lia
 rw [hidx]
 have hx : (ws ++ [u]).toArray[ws.length]? = some u := by simp
 simp only [Option.bind_some, hx, Option.map_some]
 show wpAny _ _ (setSeqItemAt l ws.length v >>= _) _ _ s
 refine wpAny_bind (wpAny_setSeqItemAt ho hd ?_)
 first
  | exact wpAny_bind (wpAny_pure (wpAny_pure ⟨.none, rfl, wpAny_pure h⟩))
  | exact wpAny_pure ⟨.none, rfl, wpAny_pure h⟩
theorem qcs {K : AF → Loc → List AO → Prop} {o i value : Expr} {tp p : Pos} {op : Operator} (h : EV c n e loc os o fun a os1 => EV c n e loc os1 i fun b os2 => ∃ k xs old, a = .ref k ∧ b = .int (-1) ∧ os2[k]? = some (.list (xs ++ [old])) ∧
   EV c n e loc os2 value fun v os3 => TV2 c n (inplaceOp op) old v os3 fun r os4 => ∃ old', os4[k]? = some (.list (xs ++ [old'])) ∧ K .next loc (os4.set k (.list (xs ++ [r]))))
  (hi : ∀ ov iv new, augStore i ov iv new = (do holding [new, ov, iv] (setItem ov iv new); release [new, ov, iv] []; pure .next) := by intros; rfl) :
  EX c n e loc os (.AugAssign (.Subscript o i tp) op value p) K := fun A hA ρ s F => by
 refine wpAny_AugAssign_SubscriptAny (qi (h A hA ρ s F) fun va s1 a os1 ρ1 k1 H1 E1 r1 => ?_) hi
 have F1 := F.ext E1 H1
 refine qi (k1 A hA ρ1 s1 F1) fun vb s2 b os2 ρ2 z3q H2 E2 z6q => ?_
 refine ym z3q fun k xs old z12y z13y hk k2 => ?_; clear z3q; subst z12y; subst z13y
 obtain ⟨t, rfl⟩ := z6q
 have F2 := F1.ext E2 H2
 refine x_ea (H1.vr E2 r1) fun l hl z11y => ?_; subst z11y
 refine x_ea (qq H2 hk hl) fun ws el rl => ?_
 refine qc rl.last fun ws u z10y rw ru => ?_; subst z10y
 have hlen := rw.length
 refine wpAny_getItem_list_neg el.list (by decide) (by simp; exact (fun a b => (Z.leB_iff a b).mp) 1 (↑ws.length + 1) rfl) (by decide) (x := u) (by simp; rw [show (-1 + ((ws.length : Int) + 1)).toNat = ws.length by lia]; exact List.getElem?_concat_length) ?_
 refine qi (k2 A hA ρ2 s2 F2) fun vv s3 v os3 ρ3 k3 H3 E3 r3 => ?_
 have F3 := F2.ext E3 H3
 refine qi (k3 A hA ρ3 s3 u vv H3 (H2.vr E3 ru) r3) fun vr s4 r os4 ρ4 z3q H4 E4 r4 => ?_
 refine x_ea z3q fun old' hk4 k4 => ?_; clear z3q
 have F4 := F3.ext E4 H4
 have hl4 := yb (E3.pre.trans E4.pre) hl
 refine x_ea (qq H4 hk4 hl4) fun ws4 e4 rl4 => ?_
 refine qc rl4.last fun ws4 u4 z9y rw4 ru4 => ?_; subst z9y
 refine qru e4 ?_
 have Pp : Post c ρ4 s4 (fun a o => a = .none ∧ o = os4.set k (.list (xs ++ [r]))) .none { s4 with heap := s4.heap.update l (Obj.mapSeq (·.setIfInBounds ws4.length vr)), toks := s4.toks } :=
  Post.put (a := .none) H4 hl4 (Heap.SameBut.update ..) (Nat.le_refl _) (ws := ws4 ++ [vr]) (ys := xs ++ [r]) (by simpa using e4.map (·.setIfInBounds ws4.length vr)) (rw4.append ⟨vr, [], rfl, r4, rfl⟩) rfl ⟨rfl, rfl⟩
 obtain ⟨ω, ω, ρ5, ⟨rfl, rfl⟩, H5, E5, ω⟩ := Pp
 exact ⟨.next, loc, _, ρ5, k4, F4.ext E5 H5, ((((E1.trans E2).trans E3).trans E4).trans E5).up, rfl⟩
end
end Mine
end
section
open PySem PySem.W PyProof.Rows PySem.Calls PySem.Spec
namespace Mine
theorem StAt.a0 {x : Str} {xs : List Str} {a : AV} {o : Option AV} {r : Loc} : StAt (x :: xs) (o :: r) x a (some a :: r) := .here
theorem LkAt.a0 {x : Str} {xs : List Str} {a : AV} {r : Loc} : LkAt (x :: xs) (some a :: r) x a := .here
theorem StAt.a1 {x0 : Str} {o0 : Option AV} {x : Str} {xs : List Str} {a : AV} {o : Option AV} {r : Loc} : StAt (x0 :: x :: xs) (o0 :: o :: r) x a (o0 :: some a :: r) := .there (.here)
theorem LkAt.a1 {x0 : Str} {o0 : Option AV} {x : Str} {xs : List Str} {a : AV} {r : Loc} : LkAt (x0 :: x :: xs) (o0 :: some a :: r) x a := .there (.here)
theorem StAt.a2 {x0 x1 : Str} {o0 o1 : Option AV} {x : Str} {xs : List Str} {a : AV} {o : Option AV} {r : Loc} : StAt (x0 :: x1 :: x :: xs) (o0 :: o1 :: o :: r) x a (o0 :: o1 :: some a :: r) := .there (.there (.here))
theorem LkAt.a2 {x0 x1 : Str} {o0 o1 : Option AV} {x : Str} {xs : List Str} {a : AV} {r : Loc} : LkAt (x0 :: x1 :: x :: xs) (o0 :: o1 :: some a :: r) x a := .there (.there (.here))
theorem StAt.a3 {x0 x1 x2 : Str} {o0 o1 o2 : Option AV} {x : Str} {xs : List Str} {a : AV} {o : Option AV} {r : Loc} : StAt (x0 :: x1 :: x2 :: x :: xs) (o0 :: o1 :: o2 :: o :: r) x a (o0 :: o1 :: o2 :: some a :: r) := .there (.there (.there (.here)))
theorem LkAt.a3 {x0 x1 x2 : Str} {o0 o1 o2 : Option AV} {x : Str} {xs : List Str} {a : AV} {r : Loc} : LkAt (x0 :: x1 :: x2 :: x :: xs) (o0 :: o1 :: o2 :: some a :: r) x a := .there (.there (.there (.here)))
theorem StAt.a4 {x0 x1 x2 x3 : Str} {o0 o1 o2 o3 : Option AV} {x : Str} {xs : List Str} {a : AV} {o : Option AV} {r : Loc} : StAt (x0 :: x1 :: x2 :: x3 :: x :: xs) (o0 :: o1 :: o2 :: o3 :: o :: r) x a (o0 :: o1 :: o2 :: o3 :: some a :: r) := .there (.there (.there (.there (.here))))
theorem LkAt.a4 {x0 x1 x2 x3 : Str} {o0 o1 o2 o3 : Option AV} {x : Str} {xs : List Str} {a : AV} {r : Loc} : LkAt (x0 :: x1 :: x2 :: x3 :: x :: xs) (o0 :: o1 :: o2 :: o3 :: some a :: r) x a := .there (.there (.there (.there (.here))))
theorem StAt.a5 {x0 x1 x2 x3 x4 : Str} {o0 o1 o2 o3 o4 : Option AV} {x : Str} {xs : List Str} {a : AV} {o : Option AV} {r : Loc} : StAt (x0 :: x1 :: x2 :: x3 :: x4 :: x :: xs) (o0 :: o1 :: o2 :: o3 :: o4 :: o :: r) x a (o0 :: o1 :: o2 :: o3 :: o4 :: some a :: r) := .there (.there (.there (.there (.there (.here)))))
theorem LkAt.a5 {x0 x1 x2 x3 x4 : Str} {o0 o1 o2 o3 o4 : Option AV} {x : Str} {xs : List Str} {a : AV} {r : Loc} : LkAt (x0 :: x1 :: x2 :: x3 :: x4 :: x :: xs) (o0 :: o1 :: o2 :: o3 :: o4 :: some a :: r) x a := .there (.there (.there (.there (.there (.here)))))
theorem StAt.a6 {x0 x1 x2 x3 x4 x5 : Str} {o0 o1 o2 o3 o4 o5 : Option AV} {x : Str} {xs : List Str} {a : AV} {o : Option AV} {r : Loc} : StAt (x0 :: x1 :: x2 :: x3 :: x4 :: x5 :: x :: xs) (o0 :: o1 :: o2 :: o3 :: o4 :: o5 :: o :: r) x a (o0 :: o1 :: o2 :: o3 :: o4 :: o5 :: some a :: r) := .there (.there (.there (.there (.there (.there (.here))))))
theorem LkAt.a6 {x0 x1 x2 x3 x4 x5 : Str} {o0 o1 o2 o3 o4 o5 : Option AV} {x : Str} {xs : List Str} {a : AV} {r : Loc} : LkAt (x0 :: x1 :: x2 :: x3 :: x4 :: x5 :: x :: xs) (o0 :: o1 :: o2 :: o3 :: o4 :: o5 :: some a :: r) x a := .there (.there (.there (.there (.there (.there (.here))))))
theorem StAt.a7 {x0 x1 x2 x3 x4 x5 x6 : Str} {o0 o1 o2 o3 o4 o5 o6 : Option AV} {x : Str} {xs : List Str} {a : AV} {o : Option AV} {r : Loc} : StAt (x0 :: x1 :: x2 :: x3 :: x4 :: x5 :: x6 :: x :: xs) (o0 :: o1 :: o2 :: o3 :: o4 :: o5 :: o6 :: o :: r) x a (o0 :: o1 :: o2 :: o3 :: o4 :: o5 :: o6 :: some a :: r) := .there (.there (.there (.there (.there (.there (.there (.here)))))))
theorem LkAt.a7 {x0 x1 x2 x3 x4 x5 x6 : Str} {o0 o1 o2 o3 o4 o5 o6 : Option AV} {x : Str} {xs : List Str} {a : AV} {r : Loc} : LkAt (x0 :: x1 :: x2 :: x3 :: x4 :: x5 :: x6 :: x :: xs) (o0 :: o1 :: o2 :: o3 :: o4 :: o5 :: o6 :: some a :: r) x a := .there (.there (.there (.there (.there (.there (.there (.here)))))))
theorem StAt.a8 {x0 x1 x2 x3 x4 x5 x6 x7 : Str} {o0 o1 o2 o3 o4 o5 o6 o7 : Option AV} {x : Str} {xs : List Str} {a : AV} {o : Option AV} {r : Loc} : StAt (x0 :: x1 :: x2 :: x3 :: x4 :: x5 :: x6 :: x7 :: x :: xs) (o0 :: o1 :: o2 :: o3 :: o4 :: o5 :: o6 :: o7 :: o :: r) x a (o0 :: o1 :: o2 :: o3 :: o4 :: o5 :: o6 :: o7 :: some a :: r) := .there (.there (.there (.there (.there (.there (.there (.there (.here))))))))
theorem LkAt.a8 {x0 x1 x2 x3 x4 x5 x6 x7 : Str} {o0 o1 o2 o3 o4 o5 o6 o7 : Option AV} {x : Str} {xs : List Str} {a : AV} {r : Loc} : LkAt (x0 :: x1 :: x2 :: x3 :: x4 :: x5 :: x6 :: x7 :: x :: xs) (o0 :: o1 :: o2 :: o3 :: o4 :: o5 :: o6 :: o7 :: some a :: r) x a := .there (.there (.there (.there (.there (.there (.there (.there (.here))))))))
theorem StAt.a9 {x0 x1 x2 x3 x4 x5 x6 x7 x8 : Str} {o0 o1 o2 o3 o4 o5 o6 o7 o8 : Option AV} {x : Str} {xs : List Str} {a : AV} {o : Option AV} {r : Loc} : StAt (x0 :: x1 :: x2 :: x3 :: x4 :: x5 :: x6 :: x7 :: x8 :: x :: xs) (o0 :: o1 :: o2 :: o3 :: o4 :: o5 :: o6 :: o7 :: o8 :: o :: r) x a (o0 :: o1 :: o2 :: o3 :: o4 :: o5 :: o6 :: o7 :: o8 :: some a :: r) := .there (.there (.there (.there (.there (.there (.there (.there (.there (.here)))))))))
theorem LkAt.a9 {x0 x1 x2 x3 x4 x5 x6 x7 x8 : Str} {o0 o1 o2 o3 o4 o5 o6 o7 o8 : Option AV} {x : Str} {xs : List Str} {a : AV} {r : Loc} : LkAt (x0 :: x1 :: x2 :: x3 :: x4 :: x5 :: x6 :: x7 :: x8 :: x :: xs) (o0 :: o1 :: o2 :: o3 :: o4 :: o5 :: o6 :: o7 :: o8 :: some a :: r) x a := .there (.there (.there (.there (.there (.there (.there (.there (.there (.here)))))))))
theorem StAt.a10 {x0 x1 x2 x3 x4 x5 x6 x7 x8 x9 : Str} {o0 o1 o2 o3 o4 o5 o6 o7 o8 o9 : Option AV} {x : Str} {xs : List Str} {a : AV} {o : Option AV} {r : Loc} : StAt (x0 :: x1 :: x2 :: x3 :: x4 :: x5 :: x6 :: x7 :: x8 :: x9 :: x :: xs) (o0 :: o1 :: o2 :: o3 :: o4 :: o5 :: o6 :: o7 :: o8 :: o9 :: o :: r) x a (o0 :: o1 :: o2 :: o3 :: o4 :: o5 :: o6 :: o7 :: o8 :: o9 :: some a :: r) := .there (.there (.there (.there (.there (.there (.there (.there (.there (.there (.here))))))))))
theorem LkAt.a10 {x0 x1 x2 x3 x4 x5 x6 x7 x8 x9 : Str} {o0 o1 o2 o3 o4 o5 o6 o7 o8 o9 : Option AV} {x : Str} {xs : List Str} {a : AV} {r : Loc} : LkAt (x0 :: x1 :: x2 :: x3 :: x4 :: x5 :: x6 :: x7 :: x8 :: x9 :: x :: xs) (o0 :: o1 :: o2 :: o3 :: o4 :: o5 :: o6 :: o7 :: o8 :: o9 :: some a :: r) x a := .there (.there (.there (.there (.there (.there (.there (.there (.there (.there (.here))))))))))
theorem StAt.a11 {x0 x1 x2 x3 x4 x5 x6 x7 x8 x9 x10 : Str} {o0 o1 o2 o3 o4 o5 o6 o7 o8 o9 o10 : Option AV} {x : Str} {xs : List Str} {a : AV} {o : Option AV} {r : Loc} : StAt (x0 :: x1 :: x2 :: x3 :: x4 :: x5 :: x6 :: x7 :: x8 :: x9 :: x10 :: x :: xs) (o0 :: o1 :: o2 :: o3 :: o4 :: o5 :: o6 :: o7 :: o8 :: o9 :: o10 :: o :: r) x a (o0 :: o1 :: o2 :: o3 :: o4 :: o5 :: o6 :: o7 :: o8 :: o9 :: o10 :: some a :: r) := .there (.there (.there (.there (.there (.there (.there (.there (.there (.there (.there (.here)))))))))))
theorem LkAt.a11 {x0 x1 x2 x3 x4 x5 x6 x7 x8 x9 x10 : Str} {o0 o1 o2 o3 o4 o5 o6 o7 o8 o9 o10 : Option AV} {x : Str} {xs : List Str} {a : AV} {r : Loc} : LkAt (x0 :: x1 :: x2 :: x3 :: x4 :: x5 :: x6 :: x7 :: x8 :: x9 :: x10 :: x :: xs) (o0 :: o1 :: o2 :: o3 :: o4 :: o5 :: o6 :: o7 :: o8 :: o9 :: o10 :: some a :: r) x a := .there (.there (.there (.there (.there (.there (.there (.there (.there (.there (.there (.here)))))))))))
theorem StAt.a12 {x0 x1 x2 x3 x4 x5 x6 x7 x8 x9 x10 x11 : Str} {o0 o1 o2 o3 o4 o5 o6 o7 o8 o9 o10 o11 : Option AV} {x : Str} {xs : List Str} {a : AV} {o : Option AV} {r : Loc} : StAt (x0 :: x1 :: x2 :: x3 :: x4 :: x5 :: x6 :: x7 :: x8 :: x9 :: x10 :: x11 :: x :: xs) (o0 :: o1 :: o2 :: o3 :: o4 :: o5 :: o6 :: o7 :: o8 :: o9 :: o10 :: o11 :: o :: r) x a (o0 :: o1 :: o2 :: o3 :: o4 :: o5 :: o6 :: o7 :: o8 :: o9 :: o10 :: o11 :: some a :: r) := .there (.there (.there (.there (.there (.there (.there (.there (.there (.there (.there (.there (.here))))))))))))
theorem LkAt.a12 {x0 x1 x2 x3 x4 x5 x6 x7 x8 x9 x10 x11 : Str} {o0 o1 o2 o3 o4 o5 o6 o7 o8 o9 o10 o11 : Option AV} {x : Str} {xs : List Str} {a : AV} {r : Loc} : LkAt (x0 :: x1 :: x2 :: x3 :: x4 :: x5 :: x6 :: x7 :: x8 :: x9 :: x10 :: x11 :: x :: xs) (o0 :: o1 :: o2 :: o3 :: o4 :: o5 :: o6 :: o7 :: o8 :: o9 :: o10 :: o11 :: some a :: r) x a := .there (.there (.there (.there (.there (.there (.there (.there (.there (.there (.there (.there (.here))))))))))))
theorem mem0 {α : Type} {x : α} {xs : List α} : x ∈ (x :: xs) := .head _
theorem mem1 {α : Type} {x0 : α} {x : α} {xs : List α} : x ∈ (x0 :: x :: xs) := .tail _ (.head _)
theorem mem2 {α : Type} {x0 x1 : α} {x : α} {xs : List α} : x ∈ (x0 :: x1 :: x :: xs) := .tail _ (.tail _ (.head _))
theorem mem3 {α : Type} {x0 x1 x2 : α} {x : α} {xs : List α} : x ∈ (x0 :: x1 :: x2 :: x :: xs) := .tail _ (.tail _ (.tail _ (.head _)))
theorem mem4 {α : Type} {x0 x1 x2 x3 : α} {x : α} {xs : List α} : x ∈ (x0 :: x1 :: x2 :: x3 :: x :: xs) := .tail _ (.tail _ (.tail _ (.tail _ (.head _))))
theorem mem5 {α : Type} {x0 x1 x2 x3 x4 : α} {x : α} {xs : List α} : x ∈ (x0 :: x1 :: x2 :: x3 :: x4 :: x :: xs) := .tail _ (.tail _ (.tail _ (.tail _ (.tail _ (.head _)))))
theorem mem6 {α : Type} {x0 x1 x2 x3 x4 x5 : α} {x : α} {xs : List α} : x ∈ (x0 :: x1 :: x2 :: x3 :: x4 :: x5 :: x :: xs) := .tail _ (.tail _ (.tail _ (.tail _ (.tail _ (.tail _ (.head _))))))
theorem mem7 {α : Type} {x0 x1 x2 x3 x4 x5 x6 : α} {x : α} {xs : List α} : x ∈ (x0 :: x1 :: x2 :: x3 :: x4 :: x5 :: x6 :: x :: xs) := .tail _ (.tail _ (.tail _ (.tail _ (.tail _ (.tail _ (.tail _ (.head _)))))))
theorem mem8 {α : Type} {x0 x1 x2 x3 x4 x5 x6 x7 : α} {x : α} {xs : List α} : x ∈ (x0 :: x1 :: x2 :: x3 :: x4 :: x5 :: x6 :: x7 :: x :: xs) := .tail _ (.tail _ (.tail _ (.tail _ (.tail _ (.tail _ (.tail _ (.tail _ (.head _))))))))
theorem qw3 {α : Type} {x0 x1 x2 x3 x4 x5 x6 x7 x8 x9 x10 : α} {x : α} {xs : List α} : x ∈ (x0 :: x1 :: x2 :: x3 :: x4 :: x5 :: x6 :: x7 :: x8 :: x9 :: x10 :: x :: xs) := .tail _ (.tail _ (.tail _ (.tail _ (.tail _ (.tail _ (.tail _ (.tail _ (.tail _ (.tail _ (.tail _ (.head _)))))))))))
theorem qw4 {α : Type} {x0 x1 x2 x3 x4 x5 x6 x7 x8 x9 x10 x11 : α} {x : α} {xs : List α} : x ∈ (x0 :: x1 :: x2 :: x3 :: x4 :: x5 :: x6 :: x7 :: x8 :: x9 :: x10 :: x11 :: x :: xs) := .tail _ (.tail _ (.tail _ (.tail _ (.tail _ (.tail _ (.tail _ (.tail _ (.tail _ (.tail _ (.tail _ (.tail _ (.head _))))))))))))
theorem qw5 {α : Type} {x0 x1 x2 x3 x4 x5 x6 x7 x8 x9 x10 x11 x12 : α} {x : α} {xs : List α} : x ∈ (x0 :: x1 :: x2 :: x3 :: x4 :: x5 :: x6 :: x7 :: x8 :: x9 :: x10 :: x11 :: x12 :: x :: xs) := .tail _ (.tail _ (.tail _ (.tail _ (.tail _ (.tail _ (.tail _ (.tail _ (.tail _ (.tail _ (.tail _ (.tail _ (.tail _ (.head _)))))))))))))
theorem qw6 {α : Type} {x0 x1 x2 x3 x4 x5 x6 x7 x8 x9 x10 x11 x12 x13 : α} {x : α} {xs : List α} : x ∈ (x0 :: x1 :: x2 :: x3 :: x4 :: x5 :: x6 :: x7 :: x8 :: x9 :: x10 :: x11 :: x12 :: x13 :: x :: xs) := .tail _ (.tail _ (.tail _ (.tail _ (.tail _ (.tail _ (.tail _ (.tail _ (.tail _ (.tail _ (.tail _ (.tail _ (.tail _ (.tail _ (.head _))))))))))))))
theorem qw7 {α : Type} {x0 x1 x2 x3 x4 x5 x6 x7 x8 x9 x10 x11 x12 x13 x14 : α} {x : α} {xs : List α} : x ∈ (x0 :: x1 :: x2 :: x3 :: x4 :: x5 :: x6 :: x7 :: x8 :: x9 :: x10 :: x11 :: x12 :: x13 :: x14 :: x :: xs) := .tail _ (.tail _ (.tail _ (.tail _ (.tail _ (.tail _ (.tail _ (.tail _ (.tail _ (.tail _ (.tail _ (.tail _ (.tail _ (.tail _ (.tail _ (.head _)))))))))))))))
theorem qw8 {α : Type} {x0 x1 x2 x3 x4 x5 x6 x7 x8 x9 x10 x11 x12 x13 x14 x15 : α} {x : α} {xs : List α} : x ∈ (x0 :: x1 :: x2 :: x3 :: x4 :: x5 :: x6 :: x7 :: x8 :: x9 :: x10 :: x11 :: x12 :: x13 :: x14 :: x15 :: x :: xs) := .tail _ (.tail _ (.tail _ (.tail _ (.tail _ (.tail _ (.tail _ (.tail _ (.tail _ (.tail _ (.tail _ (.tail _ (.tail _ (.tail _ (.tail _ (.tail _ (.head _))))))))))))))))
theorem qw9 {α : Type} {x0 x1 x2 x3 x4 x5 x6 x7 x8 x9 x10 x11 x12 x13 x14 x15 x16 x17 x18 : α} {x : α} {xs : List α} : x ∈ (x0 :: x1 :: x2 :: x3 :: x4 :: x5 :: x6 :: x7 :: x8 :: x9 :: x10 :: x11 :: x12 :: x13 :: x14 :: x15 :: x16 :: x17 :: x18 :: x :: xs) := .tail _ (.tail _ (.tail _ (.tail _ (.tail _ (.tail _ (.tail _ (.tail _ (.tail _ (.tail _ (.tail _ (.tail _ (.tail _ (.tail _ (.tail _ (.tail _ (.tail _ (.tail _ (.tail _ (.head _)))))))))))))))))))
theorem qxa {α : Type} {x0 x1 x2 x3 x4 x5 x6 x7 x8 x9 x10 x11 x12 x13 x14 x15 x16 x17 x18 x19 : α} {x : α} {xs : List α} : x ∈ (x0 :: x1 :: x2 :: x3 :: x4 :: x5 :: x6 :: x7 :: x8 :: x9 :: x10 :: x11 :: x12 :: x13 :: x14 :: x15 :: x16 :: x17 :: x18 :: x19 :: x :: xs) := .tail _ (.tail _ (.tail _ (.tail _ (.tail _ (.tail _ (.tail _ (.tail _ (.tail _ (.tail _ (.tail _ (.tail _ (.tail _ (.tail _ (.tail _ (.tail _ (.tail _ (.tail _ (.tail _ (.tail _ (.head _))))))))))))))))))))
theorem qxb {α : Type} {x0 x1 x2 x3 x4 x5 x6 x7 x8 x9 x10 x11 x12 x13 x14 x15 x16 x17 x18 x19 x20 : α} {x : α} {xs : List α} : x ∈ (x0 :: x1 :: x2 :: x3 :: x4 :: x5 :: x6 :: x7 :: x8 :: x9 :: x10 :: x11 :: x12 :: x13 :: x14 :: x15 :: x16 :: x17 :: x18 :: x19 :: x20 :: x :: xs) := .tail _ (.tail _ (.tail _ (.tail _ (.tail _ (.tail _ (.tail _ (.tail _ (.tail _ (.tail _ (.tail _ (.tail _ (.tail _ (.tail _ (.tail _ (.tail _ (.tail _ (.tail _ (.tail _ (.tail _ (.tail _ (.head _)))))))))))))))))))))
theorem qxc {α : Type} {x0 x1 x2 x3 x4 x5 x6 x7 x8 x9 x10 x11 x12 x13 x14 x15 x16 x17 x18 x19 x20 x21 : α} {x : α} {xs : List α} : x ∈ (x0 :: x1 :: x2 :: x3 :: x4 :: x5 :: x6 :: x7 :: x8 :: x9 :: x10 :: x11 :: x12 :: x13 :: x14 :: x15 :: x16 :: x17 :: x18 :: x19 :: x20 :: x21 :: x :: xs) := .tail _ (.tail _ (.tail _ (.tail _ (.tail _ (.tail _ (.tail _ (.tail _ (.tail _ (.tail _ (.tail _ (.tail _ (.tail _ (.tail _ (.tail _ (.tail _ (.tail _ (.tail _ (.tail _ (.tail _ (.tail _ (.tail _ (.head _))))))))))))))))))))))
theorem qxd {α : Type} {x0 x1 x2 x3 x4 x5 x6 x7 x8 x9 x10 x11 x12 x13 x14 x15 x16 x17 x18 x19 x20 x21 x22 : α} {x : α} {xs : List α} : x ∈ (x0 :: x1 :: x2 :: x3 :: x4 :: x5 :: x6 :: x7 :: x8 :: x9 :: x10 :: x11 :: x12 :: x13 :: x14 :: x15 :: x16 :: x17 :: x18 :: x19 :: x20 :: x21 :: x22 :: x :: xs) := .tail _ (.tail _ (.tail _ (.tail _ (.tail _ (.tail _ (.tail _ (.tail _ (.tail _ (.tail _ (.tail _ (.tail _ (.tail _ (.tail _ (.tail _ (.tail _ (.tail _ (.tail _ (.tail _ (.tail _ (.tail _ (.tail _ (.tail _ (.head _)))))))))))))))))))))))
theorem qxe {α : Type} {x0 x1 x2 x3 x4 x5 x6 x7 x8 x9 x10 x11 x12 x13 x14 x15 x16 x17 x18 x19 x20 x21 x22 x23 : α} {x : α} {xs : List α} : x ∈ (x0 :: x1 :: x2 :: x3 :: x4 :: x5 :: x6 :: x7 :: x8 :: x9 :: x10 :: x11 :: x12 :: x13 :: x14 :: x15 :: x16 :: x17 :: x18 :: x19 :: x20 :: x21 :: x22 :: x23 :: x :: xs) := .tail _ (.tail _ (.tail _ (.tail _ (.tail _ (.tail _ (.tail _ (.tail _ (.tail _ (.tail _ (.tail _ (.tail _ (.tail _ (.tail _ (.tail _ (.tail _ (.tail _ (.tail _ (.tail _ (.tail _ (.tail _ (.tail _ (.tail _ (.tail _ (.head _))))))))))))))))))))))))
theorem qxf {α : Type} {x0 x1 x2 x3 x4 x5 x6 x7 x8 x9 x10 x11 x12 x13 x14 x15 x16 x17 x18 x19 x20 x21 x22 x23 x24 : α} {x : α} {xs : List α} : x ∈ (x0 :: x1 :: x2 :: x3 :: x4 :: x5 :: x6 :: x7 :: x8 :: x9 :: x10 :: x11 :: x12 :: x13 :: x14 :: x15 :: x16 :: x17 :: x18 :: x19 :: x20 :: x21 :: x22 :: x23 :: x24 :: x :: xs) := .tail _ (.tail _ (.tail _ (.tail _ (.tail _ (.tail _ (.tail _ (.tail _ (.tail _ (.tail _ (.tail _ (.tail _ (.tail _ (.tail _ (.tail _ (.tail _ (.tail _ (.tail _ (.tail _ (.tail _ (.tail _ (.tail _ (.tail _ (.tail _ (.tail _ (.head _)))))))))))))))))))))))))
theorem qxg {α : Type} {x0 x1 x2 x3 x4 x5 x6 x7 x8 x9 x10 x11 x12 x13 x14 x15 x16 x17 x18 x19 x20 x21 x22 x23 x24 x25 : α} {x : α} {xs : List α} : x ∈ (x0 :: x1 :: x2 :: x3 :: x4 :: x5 :: x6 :: x7 :: x8 :: x9 :: x10 :: x11 :: x12 :: x13 :: x14 :: x15 :: x16 :: x17 :: x18 :: x19 :: x20 :: x21 :: x22 :: x23 :: x24 :: x25 :: x :: xs) := .tail _ (.tail _ (.tail _ (.tail _ (.tail _ (.tail _ (.tail _ (.tail _ (.tail _ (.tail _ (.tail _ (.tail _ (.tail _ (.tail _ (.tail _ (.tail _ (.tail _ (.tail _ (.tail _ (.tail _ (.tail _ (.tail _ (.tail _ (.tail _ (.tail _ (.tail _ (.head _))))))))))))))))))))))))))
end Mine
end
section
open PySem PySem.W PyProof.Rows PySem.Calls PySem.Spec Builtin Builtin.ObjectAttr
namespace Mine
noncomputable def putE (x : Str) (a : AV) : List (Str × AV) → List (Str × AV)
 | [] => [(x, a)]
 | (k, b) :: r => if k == x then (k, a) :: r else (k, b) :: putE x a r
theorem qxj : ∀ (x : Str) (a : AV), putE x a [] = [(x, a)] := by intros; rfl
theorem qxk : ∀ (x : Str) (a : AV) (k : Str) (b : AV) (r : List (Str × AV)), putE x a ((k, b) :: r) = if (k == x) = true then (k, a) :: r else (k, b) :: putE x a r := by intros; rfl
theorem DR.norefs {w : World} {ρ : List Addr} {h : Heap} : ∀ {es : List (Str × AV)} {ds : List DictEntry}, DR w ρ h es ds → ds.any (·.refKey) = false
 | [], _, e => by rw [show _ = [] from e]; rfl
 | (k, x) :: r, _, ⟨t, v, rs, e, q, z⟩ => by subst e; rw [List.any_cons, DR.norefs z]; rfl
theorem qvk {name : Str} {d : DictEntry} {rs : List DictEntry} {n : Nat} (h : d.key.isStr name = true) : lookIn name (xk (d :: rs) n) = some (some d.val) := by
 show (match List.find? (fun e : DictEntry => e.key.isStr name) (d :: rs) with | some e => some (some e.val) | none => if (d :: rs).any (·.refKey) then none else some none) = _
 rw [List.find?_cons_of_pos (p := fun e : DictEntry => e.key.isStr name) h]
theorem qvj {name : Str} {d : DictEntry} {rs : List DictEntry} {n : Nat} (h : d.key.isStr name = false) (hr : d.refKey = false) : lookIn name (xk (d :: rs) n) = lookIn name (xk rs n) := by
 show (match List.find? (fun e : DictEntry => e.key.isStr name) (d :: rs) with | some e => some (some e.val) | none => if (d :: rs).any (·.refKey) then none else some none) = (match List.find? (fun e : DictEntry => e.key.isStr name) rs with | some e => some (some e.val) | none => if rs.any (·.refKey) then none else some none)
 rw [List.find?_cons_of_neg (p := fun e : DictEntry => e.key.isStr name) (show ¬ d.key.isStr name = true by rw [h]; exact Bool.false_ne_true), List.any_cons, hr, Bool.false_or]
theorem DR.look {w : World} {ρ : List Addr} {h : Heap} {name : Str} {n : Nat} : ∀ {es : List (Str × AV)} {ds : List DictEntry}, DR w ρ h es ds →
  (∀ x, es.lookup name = some x → ∃ v, lookIn name (xk ds n) = some (some v) ∧ VR ρ h x v) ∧ (es.lookup name = none → lookIn name (xk ds n) = some none)
 | [], _, e => by rw [show _ = [] from e]; exact ⟨fun x q => (by cases q), fun ω => rfl⟩
 | (k, x) :: r, _, ⟨t, v, rs, e, q, z⟩ => by
  subst e
  have nr := z.norefs
  have ih := DR.look (name := name) (n := n) z
  by_cases hk : name = k
  ·subst hk
   refine ⟨fun y hy => ?_, fun hy => ?_⟩
   ·rw [List.lookup_cons_self] at hy; cases hy
    exact (y_ea v (qvk (show (name == name) = true from beq_self_eq_true _)) q)
   ·rw [List.lookup_cons_self] at hy; cases hy
  ·have hk' : (name == k) = false := beq_eq_false_iff_ne.mpr hk
   have hk2 : (k == name) = false := beq_eq_false_iff_ne.mpr fun z => hk z.symm
   have el : lookIn name (xk (⟨PyData.keyHash w.params k, .str k t, v⟩ :: rs) n) = lookIn name (xk rs n) := by
    exact qvj hk2 rfl
   rw [el]
   rw [show ((k, x) :: _).lookup name = (match name == k with | true => some x | false => List.lookup name _) from rfl, hk']
   exact ih
theorem DR.put {w : World} {ρ : List Addr} {h : Heap} {name : Str} {a : AV} {v : Value} {tk : Tok} (hv : VR ρ h a v) : ∀ {es : List (Str × AV)} {ds : List DictEntry}, DR w ρ h es ds → DR w ρ h (putE name a es) (putL name (PyData.keyHash w.params name) (.str name tk) v ds)
 | [], _, e => by rw [show _ = [] from e]; exact ⟨tk, v, [], rfl, hv, rfl⟩
 | (k, x) :: r, _, ⟨t, u, rs, e, q, z⟩ => by
  subst e
  show DR w ρ h (if k == name then (k, a) :: r else (k, x) :: putE name a r) (if k == name then ⟨_, .str k t, v⟩ :: rs else _ :: putL name _ _ v rs)
  cases hk : (k == name) with
  | true => exact ⟨t, v, rs, rfl, hv, z⟩
  | false => exact ⟨t, u, _, rfl, q, DR.put hv z⟩
theorem DR.length {w : World} {ρ : List Addr} {h : Heap} : ∀ {es : List (Str × AV)} {ds : List DictEntry}, DR w ρ h es ds → ds.length = es.length
 | [], _, e => by rw [show _ = [] from e]; rfl
 | (k, x) :: r, _, ⟨t, v, rs, e, q, z⟩ => by subst e; simp [DR.length z]
theorem qkg {name : Str} {hs : Int} {k v : Value} : ∀ (ds : List DictEntry), (putL name hs k v ds).length ≤ ds.length + 1
 | [] => by exact Nat.le_add_left (putL name hs k v []).length [].length
 | d :: r => by
  show (if d.key.isStr name then (⟨d.hash, d.key, v⟩ :: r : List DictEntry) else d :: putL name hs k v r).length ≤ r.length + 1 + 1
  cases d.key.isStr name with
  | true => exact Nat.le_succ _
  | false => exact Nat.succ_le_succ (qkg (name := name) (hs := hs) (k := k) (v := v) r)
noncomputable def Own (os : List AO) (k : Nat) (C : Addr) (dn : Nat) : Prop := os[k]? = some (.inst C dn) ∨ ∃ xs, os[k]? = some (.acc C dn xs)
noncomputable abbrev clsC : List Addr := [154, 238]
structure qwd (c : CX) (ρ : List Addr) (s : Shared) (a C d : Addr) (es : List (Str × AV)) (dn : Nat) : Prop where
 ex : ∃ ox ds n, ox.dict = some d ∧ ρ[dn]? = some d ∧ s.heap.get? d = some (xk ds n) ∧ DR c.w ρ s.heap es ds ∧ InstAt s.heap a ox C (some (xk ds n))
section
variable {c : CX} {n : Nat} {os : List AO} {K : AV → List AO → Prop} {e : EF} {loc : Loc} {ρ : List Addr} {s : Shared}
theorem qo7 (H : c.HR ρ os s) {k dn : Nat} {C a : Addr} {es : List (Str × AV)} (ho : Own os k C dn) (hd : os[dn]? = some (.dict es)) (ha : ρ[k]? = some a) : ∃ d, qwd c ρ s a C d es dn := by
 refine x_ea (H.objs dn _ hd) fun d' e2 z97y => ?_; refine q9 z97y fun ds m g2 r2 => ?_; clear z97y
 rcases ho with hk | ⟨xs, hk⟩
 ·refine x_ea (H.objs k _ hk) fun a' e1 z96y => ?_; refine x_ea z96y fun d e3 g1 => ?_; clear z96y
  rw [ha] at e1; cases e1
  rw [e2] at e3; cases e3
  exact ⟨_, _, ds, m, rfl, e2, g2, r2, g1, rfl, rfl, g2⟩
 ·refine x_ea (H.objs k _ hk) fun a' e1 z95y => ?_; refine qw z95y fun d vs m' e3 g1 ω => ?_; clear z95y
  rw [ha] at e1; cases e1
  rw [e2] at e3; cases e3
  exact ⟨_, _, ds, m, rfl, e2, g2, r2, g1, rfl, rfl, g2⟩
theorem CX.Std.kin (C : c.Std) (H : c.HR ρ os s) : (KF c.w.params).In s.heap := C.hK ▸ gi_k H.gi C.ok
structure w6 (P : Params) (C : Addr) : Prop where
 ga : ∃ id, findIn (KF P) (.ref C) "__getattribute__" = some (some (.builtin id)) ∧ (Manifest.canonical id != "object.__getattribute__") = false
 gh : findIn (KF P) (.ref C) "__getattr__" = some none
 sa : findIn (KF P) (.ref C) "__setattr__" = some (some (.builtin "object.__setattr__"))
 cd : ∃ cd, clsIn (KF P) C = some cd ∧ cd.hasDict = true ∧ cd.mro.isEmpty = false ∧ cd.mro.contains (.type "object") = true ∧ ∀ self, refuseLoop self "__setattr__" cd.mro = pure ()
theorem uk {P : Params} : w6 P 154 := by
 refine ⟨(y_ea "object.__getattribute__" (by kernel_rfl) PySem.F.canon_object_ga), by kernel_rfl, by kernel_rfl, _, rfl, rfl, rfl, by rfl, fun self => ?_⟩
 rw [refuseLoop_ref]; exact PySem.F.store_object.passes self
theorem zd {P : Params} : w6 P 238 := by
 refine ⟨(y_ea "list.__getattribute__" (by kernel_rfl) (by exact canon_list_getattribute)), by kernel_rfl, by kernel_rfl, _, rfl, rfl, rfl, by rfl, fun self => ?_⟩
 rw [refuseLoop_ref]; kernel_rfl
noncomputable def AV.plain : AV → Bool
 | .glob _ => false
 | _ => true
theorem qhn {a : AV} {v : Value} (ha : a.plain = true) (r : VR ρ s.heap a v) : handedIn v = true := by
 cases a with
 | none => rw [show v = .none from r]; rfl
 | bool b => rw [show v = .bool b from r]; rfl
 | int i => obtain ⟨t, rfl⟩ := r; rfl
 | str x => obtain ⟨t, rfl⟩ := r; rfl
 | strT x t => rw [show v = .str x t from r]; rfl
 | ref k => refine x_ea r fun a ω z94y => ?_; clear r; subst z94y; rfl
 | tup xs => refine q9 r fun a ω z93y ω => ?_; clear r; subst z93y; rfl
 | bm id x => refine q9 r fun a ω z92y ω => ?_; clear r; subst z92y; rfl
 | lam => refine q9 r fun a ω z91y ω => ?_; clear r; subst z91y; rfl
 | rng _ _ _ => refine x_e4 r fun a ω ω ω z90y => ?_; clear r; obtain ⟨rfl, ω⟩ := z90y; rfl
 | sl _ _ => refine wf r fun a ω ω z89y ω => ?_; clear r; subst z89y; rfl
 | glob g => cases ha
theorem qej (C : c.Std) {m : Nat} {Cl : Addr} {es : List (Str × AV)} {ds : List DictEntry} {name : Str} {x : AV} {ρ : List Addr} {h : Heap} (F : w6 c.w.params Cl) (hn : findIn (KF c.w.params) (.ref Cl) name = some none)
  (D : DR c.w ρ h es ds) (hx : es.lookup name = some x) : ∃ u, findObj (KF c.w.params) Cl (some (xk ds m)) name = some (.value u) ∧ VR ρ h x u := by
 refine x_ea ((D.look (name := name) (n := m)).1 x hx) fun u hl ru => ?_
 refine zh F.cd fun cd hcd hhd hem z88y => ?_; obtain ⟨ω, ω⟩ := z88y
 refine (y_ea u ?_ ru)
 delta findObj
 rw [hcd, Option.bind_some, hn, Option.bind_some]
 show (some none).bind _ = _
 rw [Option.bind_some]
 show (some false).bind _ = _
 rw [Option.bind_some]
 show (W.ownOf cd _ name).bind _ = _
 delta W.ownOf
 rw [if_pos hhd]
 show (lookIn name _).bind _ = _
 rw [hl]; rfl
theorem qum (C : c.Std) {k dn : Nat} {es : List (Str × AV)} {name : Str} {x : AV} (ho : Own os k 154 dn) (hd : os[dn]? = some (.dict es)) (hn : findIn (KF c.w.params) (.ref 154) name = some none)
  (hx : es.lookup name = some x) (hp : x.plain = true) (h : K x os) : TV1 c n (fun v => getAttr v name true) (.ref k) os K := by
 rintro A hA ρ s v H q59x; refine x_ea q59x fun a ha hv => ?_; clear q59x
 subst hv
 obtain ⟨d, ox, ds, m, hdi, hρ, hg, D, I⟩ := qo7 H ho hd ha
 refine x_ea (qej (m := m) C uk hn D hx) fun u hf ru => ?_
 exact get_value (C.kin H) I (by kernel_rfl) hf (qhn hp ru) (Post.ret _ (Nat.le_succ _) H h ru)
theorem M_fn (C : c.Std) {k dn : Nat} {Cl f : Addr} {es : List (Str × AV)} {name : Str} (F : w6 c.w.params Cl) (ho : Own os k Cl dn) (hd : os[dn]? = some (.dict es)) (hn : findIn (KF c.w.params) (.ref Cl) name = some (some (.ref f)))
  (ht : typeIn (KF c.w.params) (.ref f) = some (.type "function")) (hx : es.lookup name = none) : je c os (.ref k) name (.ref f) := by
 rintro A pl ρ s v Q E H q60x; refine x_ea q60x fun a ha hv => ?_; clear q60x; rintro q
 subst hv
 obtain ⟨d, ox, ds, m, hdi, hρ, hg, D, I⟩ := qo7 H ho hd ha
 have hl := (D.look (name := name) (n := m)).2 hx
 refine x_ea F.ga fun id hga hcan => ?_
 have X := C.kin H
 delta getMethod specialOf
 refine wpAny_bind (wpAny_bind (I.type.here ((looks_findIn X hga).here ?_)))
 dsimp only
 rw [hcan, if_neg (by exact Bool.false_ne_true)]
 refine wpAny_bind (wpAny_bind (I.type.here ((looks_findIn X F.gh).here ?_)))
 refine wpAny_bind (wpAny_bind (I.type.here ((looks_findIn X hn).here (wpAny_bind ((looks_typeIn X ht).here ?_)))))
 rw [if_neg (by exact ne_true_of_eq_false rfl)]
 refine wpAny_bind (wpAny_loadPart I.at_ ?_)
 rw [hdi]
 refine wpAny_bind (wpAny_bind (wpAny_loadPart hg ?_))
 rw [nsLook_of hl]
 refine wpAny_pure ?_
 exact wpAny_bind (wpAny_rule (wpAny_pure (q s.toks (Nat.le_refl _))))
theorem Post.putD {ρ : List Addr} {s : Shared} {dn : Nat} {d : Addr} {h' : Heap} {es : List (Str × AV)} {ds : List DictEntry} {m : Nat} {tk : Nat} (H : c.HR ρ os s) (hb : ρ[dn]? = some d) (sb : Heap.SameBut d s.heap h') (ht : s.toks ≤ tk)
  (e : h'.get? d = some (xk ds m)) (hw : DR c.w ρ s.heap es ds) (h : K .none (os.set dn (.dict es))) : Post c ρ s K .none { s with heap := h', toks := tk } := by
 have tp : ImmK ρ s.heap h' := fun x o hi hc ho => (sb.2 x fun z => by
  subst z; exact H.not_imm ho hi hc (List.mem_of_getElem? hb)).trans ho
 exact ⟨.none, _, ρ, h, H.set (d := s.drawn) (tk := tk) H.gi.bare ht hb sb ⟨ds, m, e, DR.imp (List.prefix_refl _) tp _ _ hw⟩, Ext.set (List.mem_of_getElem? hb) sb, rfl⟩
theorem qrt (C : c.Std) {A : Around} {k dn : Nat} {Cl a : Addr} {es : List (Str × AV)} {name : Str} {x : AV} {v : Value} (F : w6 c.w.params Cl) (H : c.HR ρ os s) (ho : Own os k Cl dn) (hd : os[dn]? = some (.dict es)) (ha : ρ[k]? = some a)
  (ht : takerIn (KF c.w.params) Cl name = some none) (hv : VR ρ s.heap x v) (hl : es.length ≤ 1000) {Q : Unit → Shared → Prop} (h : ∀ ρ' s', c.HR ρ' (os.set dn (.dict (putE name x es))) s' → Ext c.tabs [] ρ s ρ' s' → Q () s') :
  wpAny (MM c.w) A (setAttr (.ref a) name v) Q NoE s := by
 obtain ⟨d, ox, ds, m, hdi, hρ, hg, D, I⟩ := qo7 H ho hd ha
 refine zh F.cd fun cd hc hhd hem z87y => ?_; obtain ⟨hto, hpass⟩ := z87y
 have X := C.kin H
 have H0 := H.toks (s.toks + 1) (Nat.le_succ _)
 refine set_plain X I F.sa ?_
 have X' : (KF c.w.params).In ({ s with toks := s.toks + 1 } : Shared).heap := X
 have sub : Looks (MM c.w) s.heap (isInstance (.ref a) (.type "object")) true := I.type.andThen (looks_mroIn X (by delta mroIn; rw [hc, Option.bind_some, if_neg (by exact ne_true_of_eq_false hem), hto]))
 have SF := PySem.F.store_object
 refine codeAny_call_builtin SF.slot.plain SF.entry (@check_slot (MM c.w) _ _ _ "object.__setattr__" "object" "__setattr__" (.ref a) [.str name s.toks, v] [] _ SF.kind SF.split sub (SF.args (.ref a) (.str name s.toks) v) ?_)
 refine x_ea (Option.bind_eq_some_iff.mp ht) fun attr hat hr => ?_
 have hm : Looks (MM c.w) s.heap (mroOf (.ref Cl)) cd.mro := (looks_clsIn X hc).andThen .now
 have L3 : Looks (MM c.w) s.heap (storeTaker? attr) none := by
  cases attr with
  | none => exact .now
  | some b =>
   refine x_ea (Option.map_eq_some_iff.mp hr) fun b' hb hb' => ?_
   refine (looks_takesIn X hb).andThen ?_
   cases b' <;> first | exact .now | cases hb'
 rw [osa_eq, refuse_eq]
 have here : ∀ {α : Type} {t : Sem α} {r : α} {Q : α → Shared → Prop} {E : Value → Shared → Prop} {A : Around}, Looks (MM c.w) s.heap t r → Q r { s with toks := s.toks + 1 } → wpAny (MM c.w) A t Q E { s with toks := s.toks + 1 } := fun L q => L _ _ _ _ (fun ω ω e => e) q
 refine wpAny_bind (wpAny_bind (here I.type (wpAny_bind (here hm ?_))))
 rw [hpass]
 refine wpAny_pure (wpAny_bind (here I.type (wpAny_bind (here (looks_findIn X hat) (wpAny_bind (here L3 ?_))))))
 obtain ⟨hx, hcl, hn, -⟩ := I
 obtain ⟨oc, odi, oda, osl⟩ := ox
 dsimp only at hcl hdi
 subst hcl hdi
 have sp := sub
 refine wpAny_bind (wpAny_pure (wpAny_bind (wpAny_bind (wpAny_loadPart hx (wpAny_bind (here (looks_clsIn X hc) ?_))))))
 rw [hhd]
 refine wpAny_pure (a := some d) (wpAny_bind (wpAny_pure (wpAny_bind ?_)))
 delta nsSet
 refine wpAny_bind (wpAny_bind (wpAny_askSetting (wpAny_pure (wpAny_bind (wpAny_mkText (wpAny_bind (wpAny_loadPart hg ?_)))))))
 have nr : (ds.toArray.any (·.refKey)) = false := by rw [← Array.any_toList]; exact DR.norefs D
 dsimp only
 rw [aRefKeyMayBeTheName_at, nr, Bool.and_false]
 have eo : Obj.putName name (PyData.keyHash c.w.params name) (.str name (s.toks + 1)) v (xk ds m) = xk (putL name (PyData.keyHash c.w.params name) (.str name (s.toks + 1)) v ds) (putN name ds m) := putName_dict ..
 refine wpAny_updatePart hg ?_
 have sb : Heap.SameBut d s.heap (s.heap.update d (Obj.putName name (PyData.keyHash c.w.params name) (.str name (s.toks + 1)) v)) := Heap.SameBut.update ..
 have gd : (s.heap.update d (Obj.putName name (PyData.keyHash c.w.params name) (.str name (s.toks + 1)) v)).get? d = some (xk (putL name (PyData.keyHash c.w.params name) (.str name (s.toks + 1)) v ds) (putN name ds m)) := by
  rw [Heap.get?_update_self _ hg (by rw [eo]; rfl), eo]
 have hlen := D.length
 have hpl := qkg (name := name) (hs := PyData.keyHash c.w.params name) (k := .str name (s.toks + 1)) (v := v) ds
 refine wpAny_bind (wpAny_lookBehind gd (pastItsLine_dict (by rw [List.size_toArray, sizeLine_eq]; lia)) ?_)
 refine wpAny_pure ?_
 have P := Post.putD (K := fun a o => a = .none ∧ o = os.set dn (.dict (putE name x es))) (tk := s.toks + 1 + 1) H hρ sb (by lia) gd (D.put (tk := s.toks + 1) hv) ⟨rfl, rfl⟩
 obtain ⟨ω, ω, ρ', ⟨rfl, rfl⟩, H', E', ω⟩ := P
 exact h _ _ H' E'
end
end Mine
end
section
open PySem PySem.W PyProof.Rows PySem.Calls PySem.Spec Builtin Builtin.ObjectAttr
namespace Mine
structure LSlot (id n : String) : Prop where
 kind : builtinKind id = some .slot ∨ builtinKind id = some .method
 split : splitId id = some ("list", n)
 bind : ∀ self, bindSpecial (.builtin id) self = pure (.builtin id, [self])
 plain : plainId id = true
theorem qu7 {M : Model} {A : Around} {E : Value → Shared → Prop} {s : Shared} {i n : String} {self : Value} {rest : List Value} {Q : Unit → Shared → Prop}
  (S : LSlot i n) (hi : Looks M s.heap (isInstance self (.type "list")) true) (ha : argsOk i ⟨self :: rest, []⟩) (q : Q () s) : wpAny M A (checkBuiltinCall i ⟨self :: rest, []⟩) Q E s := by
 rcases S.kind with hk | hk <;>
 ·simp only [checkBuiltinCall, hk, S.split]
  refine wpAny_bind (hi.here ?_)
  simp only [Bool.not_true, Bool.false_eq_true, if_false]
  cases hsig : Manifest.signature? i with
  | none => exact wpAny_pure q
  | some sig =>
   simp only [argsOk, hsig] at ha
   have h2 : Bind.checkArgs i sig ⟨self :: rest, []⟩ = pure () := ha
   show wpAny M A (Bind.checkArgs i sig ⟨self :: rest, []⟩) Q E s
   rw [h2]; exact wpAny_pure q
theorem qnd {w : World} {A : Around} {E : Value → Shared → Prop} {s : Shared} {i n : String} {b : Builtin} {self : Value} {rest : List Value} {Q : Value → Shared → Prop}
  (S : LSlot i n) (hb : entryFor table i = some b) (hi : Looks (MM w) s.heap (isInstance self (.type "list")) true) (ha : argsOk i ⟨self :: rest, []⟩)
  (hc : wpAny (MM w) A.in1 (b ⟨self :: rest, []⟩) (fun fin s' => ∃ v, fin = .done (.ret v) ∧ Q v s') E s) : wpAny (MM w) A (call (.builtin i) (self :: rest)) Q E s := by
 refine wpAny_call (codeAny_call_builtin S.plain hb (qu7 S hi ha (wpAny_mono hc (fun fin s' h' => ?_) fun ω ω h' => h')))
 refine x_ea h' fun v z113y hv => ?_; clear h'; subst z113y; exact hv
theorem LSlot.of {T : String} {name : Str} {id n : String} (S : Slot T name id) (hk : builtinKind id = some .slot ∨ builtinKind id = some .method) (hs : splitId id = some ("list", n)) : LSlot id n := ⟨hk, hs, S.bind, S.plain⟩
theorem qlp : LSlot "list.__getitem__" "__getitem__" := .of slot_list_getitem (.inr (by decide +kernel)) (by rfl)
theorem qlq : LSlot "list.__setitem__" "__setitem__" := .of slot_list_setitem (.inl (by decide +kernel)) (by rfl)
theorem qot : LSlot "list.append" "append" := .of slot_list_append (.inr (by decide +kernel)) (by rfl)
theorem qvl : LSlot "list.__getattribute__" "__getattribute__" := .of F.slot_list_getattribute (.inl (by decide +kernel)) (by rfl)
theorem qxp : LSlot "list.pop" "pop" := .of F.slot_list_pop (.inr (by decide +kernel)) (by rfl)
theorem qw2 : LSlot "list.__init__" "__init__" := .of F.slot_list_init (.inl (by decide +kernel)) (by rfl)
noncomputable abbrev qrh : List (Str × String) := [("__getitem__", "list.__getitem__"), ("__setitem__", "list.__setitem__"), ("__iter__", "list.__iter__")]
structure LL (w : World) (h : Heap) (a : Addr) (items : Array Value) : Prop where
 at_ : ∃ o n, h.get? a = some o ∧ o.data = .seq items n
 inst : Looks (MM w) h (isInstance (.ref a) (.type "list")) true
 sp : ∀ {name id}, (name, id) ∈ qrh → Looks (MM w) h (specialOf (.ref a) name) (some (.builtin id))
 key : ∀ k nm, Looks (MM w) h (sequenceKey (.ref a) k nm) k
theorem IsL.ll {w : World} {h : Heap} {a : Addr} {items : Array Value} (x : IsL h a items) : LL w h a items := by
 refine zh x.ex fun o ho hc hdi z112y => ?_; obtain ⟨n, hd⟩ := z112y
 have T : ∀ s : Shared, (∀ b o, h.get? b = some o → s.heap.get? b = some o) → s.TypeIs (.ref a) "list" := fun s k => ⟨o, k _ _ ho, hc⟩
 refine ⟨(qho o n ho hd), fun A Q E s k q => wpAny_isInstance (T s k) (by exact AutoSeq1.sub_list_list) q, fun {name id} hm => ?_, fun k nm A Q E s kk q => wpAny_sequenceKey (T s kk) (by rfl) q⟩
 intro A Q E s k q
 refine wpAny_specialOf (T s k) ?_ q
 simp only [qrh, List.mem_cons, List.mem_nil_iff, or_false, Prod.mk.injEq] at hm
 rcases hm with ⟨rfl, rfl⟩ | ⟨rfl, rfl⟩ | ⟨rfl, rfl⟩ <;> (rw [typeLookup_type, builtinLookup_eq_fast]; kernel_rfl)
theorem qu0 {w : World} {h : Heap} {a : Addr} {ox : Obj} {od : Option Obj} {items : Array Value} {n : Nat} (X : (KF w.params).In h) (I : InstAt h a ox 238 od) (hd : ox.data = .seq items n) : LL w h a items := by
 refine ⟨(qho ox n I.at_ hd), I.type.andThen (looks_mroIn X (by kernel_rfl)), fun {name id} hm => ?_, fun k nm => ?_⟩
 ·refine I.type.andThen (looks_findIn X ?_)
  simp only [qrh, List.mem_cons, List.mem_nil_iff, or_false, Prod.mk.injEq] at hm
  rcases hm with ⟨rfl, rfl⟩ | ⟨rfl, rfl⟩ | ⟨rfl, rfl⟩ <;> kernel_rfl
 ·refine I.type.andThen ?_
  intro A Q E s kk q
  show wpAny _ _ (List.anyM _ seqItemTypes >>= _) _ _ s
  refine wpAny_bind ((anyM_none (C := 238) (l := seqItemTypes) (X.keeps kk) (by kernel_rfl)).here ?_)
  exact wpAny_pure q
section
variable {w : World} {A : Around} {E : Value → Shared → Prop} {s : Shared} {a : Addr} {items : Array Value}
theorem LL.special (L : LL w s.heap a items) {name : Str} {id n : String} {b : Builtin} {args : List Value} {Q : Option Value → Shared → Prop} (hm : (name, id) ∈ qrh) (S : LSlot id n) (hb : entryFor table id = some b) (ha : argsOk id ⟨.ref a :: args, []⟩)
  (h : wpAny (MM w) A.in1 (b ⟨.ref a :: args, []⟩) (fun fin s' => ∃ v, fin = .done (.ret v) ∧ Q (some v) s') E s) : wpAny (MM w) A (callSpecial? (.ref a) name args) Q E s := by
 unfold callSpecial?
 refine wpAny_bind ((L.sp hm).here ?_)
 refine wpAny_holding ?_
 rw [S.bind]
 refine wpAny_bind (wpAny_pure (wpAny_bind ?_))
 exact qnd S hb L.inst ha (wpAny_mono h (fun fin s' h' => let ⟨v, e, q⟩ := h'; (y_ea v e (wpAny_pure q))) fun ω ω z => z)
theorem LL.subtail (L : LL w s.heap a items) {value slice : Expr} {i : Value} {Q : Value → Shared → Prop} (h : wpAny (MM w) A (getItem (.ref a) i) Q E s) : wpAny (MM w) A (subscriptTail value slice (.ref a) i) Q E s := by
 unfold subscriptTail getitemInPython
 refine wpAny_bind (wpAny_bind ((L.sp (name := "__getitem__") (.head _)).here ?_))
 refine wpAny_pure ?_
 have go : ∀ l, wpAny (MM w) A (operate l (getItem (.ref a) i)) (fun r s₃ => wpAny (MM w) A (letTemporaryGo value (.ref a) r >>= fun ω => pure r) Q E s₃) E s := fun l =>
  wpAny_operating (wpAny_mono h (fun r s₃ h₃ => wpAny_bind (wpAny_letTemporaryGo (wpAny_pure h₃))) fun ω ω x => x)
 refine wpAny_bind ?_
 exact qsz (fun l => go l)
theorem LL.getItem (L : LL w s.heap a items) {i : Value} {Q : Value → Shared → Prop} (h : wpAny (MM w) A.in1 (Builtin.«list.__getitem__» ⟨[.ref a, i], []⟩) (fun fin s' => ∃ v, fin = .done (.ret v) ∧ Q v s') E s) : wpAny (MM w) A (PySem.getItem (.ref a) i) Q E s := by
 unfold PySem.getItem
 refine wpAny_holding (wpAny_bind ((L.key _ _).here (wpAny_bind ?_)))
 exact L.special (.head _) qlp entry_list_getitem (args_list_getitem _ _) (wpAny_mono h (fun fin s' h' => let ⟨v, e, q⟩ := h'; (y_ea v e (wpAny_pure q))) fun ω ω z => z)
theorem LL.item (L : LL w s.heap a items) {k : Int} {t : Tok} {x : Value} {Q : Value → Shared → Prop} (h0 : 0 ≤ k) (hfit : k < 2 ^ 63) (hx : items[k.toNat]? = some x) (h : Q x s) : wpAny (MM w) A (PySem.getItem (.ref a) (.int k t)) Q E s := by
 refine q9 L.at_ fun o n ho hd => ?_
 refine L.getItem ?_
 show wpAny _ _ (Builtin.List.listSubscript? (.int k t) >>= _) _ _ s
 refine wpAny_bind (wpAny_listSubscript_int (fitsIndex_of h0 hfit) ?_)
 clear hfit
 obtain ⟨j, rfl⟩ := Int.eq_ofNat_of_zero_le h0
 have hx' : items[j]? = some x := hx
 show wpAny _ _ ((seqItemAt a j >>= fun r => pure (r.map (j, ·))) >>= _) _ _ s
 refine wpAny_bind (wpAny_bind (wpAny_seqItemAt ho hd (wpAny_pure ?_)))
 rw [hx']
 first
  | exact wpAny_bind (wpAny_pure (wpAny_pure ⟨x, rfl, h⟩))
  | exact wpAny_pure ⟨x, rfl, h⟩
theorem qhh {sl : Addr} {vl vu : Value} {Q : Option Int → Shared → Prop} (hs : s.heap.IsSliceOf sl vl vu .none) (h : Q none s) : wpAny (MM w) A (Builtin.List.listSubscript? (.ref sl)) Q E s := by
 refine xy (id hs) fun os hos hcs hds => ?_
 have hTs : s.TypeIs (.ref sl) "slice" := ⟨os, hos, hcs⟩
 unfold Builtin.List.listSubscript?
 refine wpAny_bind (wpAny_specialOf hTs slice_no_index ?_)
 simp only [Option.isNone_none, if_true]
 exact wpAny_pure h
theorem qck {sl : Addr} {vl vu : Value} {lo hi : Option Int} {Q : Value × Value × Value → Shared → Prop} (hs : s.heap.IsSliceOf sl vl vu .none) (pl : IsPart vl lo) (pu : IsPart vu hi) (h : Q (rawPart lo, rawPart hi, rawPart none) s) : wpAny (MM w) A (Builtin.List.listSliceParts (.ref sl)) Q E s := by
 refine xy (id hs) fun os hos hcs hds => ?_
 rw [listSliceParts_eq]
 refine wpAny_bind (wpAny_field hos hds (x := .none) rfl (wpAny_bind (wpAny_listPart .none ?_)))
 rw [if_neg (by exact Bool.false_ne_true)]
 refine wpAny_bind (wpAny_field hos hds (x := vl) rfl (wpAny_bind (wpAny_listPart pl ?_)))
 exact wpAny_bind (wpAny_field hos hds (x := vu) rfl (wpAny_bind (wpAny_listPart pu (wpAny_pure h))))
theorem LL.slice (L : LL w s.heap a items) {sl : Addr} {vl vu : Value} {lo hi : Option Int} {Q : Value → Shared → Prop} (hs : s.heap.IsSliceOf sl vl vu .none) (pl : IsPart vl lo) (pu : IsPart vu hi) (hz : items.size ≤ sizeLine)
  (h : Q (.ref s.heap.objs.size) { s with heap := s.heap.push { cls := .type "list", data := .seq (slicePick items lo hi none) } }) : wpAny (MM w) A (PySem.getItem (.ref a) (.ref sl)) Q E s := by
 refine q9 L.at_ fun o n ho hd => ?_
 refine xy (id hs) fun os hos hcs hds => ?_
 have hTs : s.TypeIs (.ref sl) "slice" := ⟨os, hos, hcs⟩
 refine L.getItem ?_
 show wpAny _ _ (Builtin.List.listSubscript? (.ref sl) >>= _) _ _ s
 refine wpAny_bind (qhh hs ?_)
 show wpAny _ _ (typeOf (.ref sl) >>= _) _ _ s
 refine wpAny_bind (wpAny_typeOf hTs ?_)
 rw [if_neg (by exact ne_true_of_eq_false rfl)]
 refine wpAny_bind (qck hs pl pu ?_)
 refine wpAny_bind (m := Builtin.List.listItems (.ref a)) ?_
 unfold Builtin.List.listItems
 refine wpAny_bind (wpAny_seqItems ho hd (wpAny_pure ?_))
 refine wpAny_bind (wpAny_of_eq (sliceIndices_raw lo hi none items.size (by exact Ne.symm (Option.some_ne_none 0))) ?_)
 exact wpAny_bind (wpAny_newObj_type (wpAny_pure (y_ea _ rfl h)) (Nat.le_trans (slicePick_size_le items lo hi none) hz))
noncomputable def ji (n : Nat) (new : Array Value) (lo hi : Option Int) (xs : Array Value) : Array Value :=
 xs.extract 0 (sliceBounds lo hi none n).1.toNat ++ new ++ xs.extract (max (sliceBounds lo hi none n).1 (sliceBounds lo hi none n).2.1).toNat xs.size
theorem LL.setSlice (L : LL w s.heap a items) {sl b : Addr} {vl vu : Value} {lo hi : Option Int} {new : Array Value} {Q : Unit → Shared → Prop} (hs : s.heap.IsSliceOf sl vl vu .none) (pl : IsPart vl lo) (pu : IsPart vu hi) (hb : IsL s.heap b new)
  (hz : items.size ≤ sizeLine) (hz1 : items.size + new.size ≤ 100000) (hz2 : (ji items.size new lo hi items).size ≤ sizeLine + 1) (h : Q () { s with heap := s.heap.update a (Obj.mapSeq (ji items.size new lo hi)) }) : wpAny (MM w) A (setItem (.ref a) (.ref sl) (.ref b)) Q E s := by
 refine q9 L.at_ fun o n ho hd => ?_
 refine xy (id hs) fun os hos hcs hds => ?_
 refine zh hb.ex fun ob hob hcb hdib z111y => ?_; obtain ⟨nb, hdb⟩ := z111y
 have hTs : s.TypeIs (.ref sl) "slice" := ⟨os, hos, hcs⟩
 have hTb : s.TypeIs (.ref b) "list" := ⟨ob, hob, hcb⟩
 unfold setItem
 refine wpAny_holding (wpAny_bind ((L.key _ _).here (wpAny_bind ?_)))
 refine L.special (.tail _ (.head _)) qlq entry_list_setitem (args_list_setitem _ _ _) ?_
 show wpAny _ _ (Builtin.List.listSubscript? (.ref sl) >>= _) _ _ s
 refine wpAny_bind (qhh hs ?_)
 show wpAny _ _ (typeOf (.ref sl) >>= _) _ _ s
 refine wpAny_bind (wpAny_typeOf hTs ?_)
 rw [if_neg (by exact ne_true_of_eq_false rfl)]
 refine wpAny_bind (qck hs pl pu ?_)
 have h1 : ∀ {Q : Array Value → Shared → Prop}, Q new s → wpAny (MM w) A.in1 (Builtin.List.listItems (.ref b)) Q E s := fun q => by
  unfold Builtin.List.listItems; exact wpAny_bind (wpAny_seqItems hob hdb (wpAny_pure q))
 have h2 : ∀ {Q : Array Value → Shared → Prop}, Q new s → wpAny (MM w) A.in1 (Builtin.List.listAllItems (.ref b) "must assign iterable to extended slice") Q E s := fun q => by
  unfold Builtin.List.listAllItems
  refine wpAny_bind (wpAny_typeOf hTb ?_)
  rw [if_pos (by rfl)]
  exact h1 q
 have hsl : sizeLine = 16777216 := rfl
 have hlong : Builtin.List.listTooLong (items.size + new.size) = false := by
  unfold Builtin.List.listTooLong; simp; lia
 dsimp only
 split
 case' isTrue => refine wpAny_bind (h1 ?_)
 case' isFalse => refine wpAny_bind (h2 ?_)
 all_goals
  refine wpAny_bind (m := Builtin.List.listItems (.ref a)) ?_
  unfold Builtin.List.listItems
  refine wpAny_bind (wpAny_seqItems ho hd (wpAny_pure ?_))
  refine wpAny_bind (wpAny_of_eq (sliceIndices_raw lo hi none items.size (by exact Ne.symm (Option.some_ne_none 0))) ?_)
  rw [if_pos (show ((sliceBounds lo hi none items.size).2.2 == 1) = true from rfl)]
  refine wpAny_bind (wpAny_rule ?_)
  rw [if_neg (by exact ne_true_of_eq_false hlong)]
  refine wpAny_bind (m := updateSeq a _) (wpAny_updateSeq ho hd ?_ hz hz2)
  exact wpAny_bind (wpAny_letGo (wpAny_pure (y_ea _ rfl (wpAny_pure h))))
end
end Mine
end
section
open PySem PySem.W PyProof.Rows PySem.Calls PySem.Spec Builtin Builtin.ObjectAttr
namespace Mine
section
variable {c : CX} {n : Nat} {os : List AO} {K : AV → List AO → Prop} {e : EF} {loc : Loc} {ρ : List Addr} {s : Shared}
theorem qo {K : AF → Loc → List AO → Prop} (C : c.Std) {o v : Expr} {attr : Str} {p' p : Pos} (h : EV c n e loc os v fun x os1 => EV c n e loc os1 o fun a os2 => ∃ k Cl dn es, a = .ref k ∧ w6 c.w.params Cl ∧ Own os2 k Cl dn ∧ os2[dn]? = some (.dict es) ∧
   takerIn (KF c.w.params) Cl attr = some none ∧ es.length ≤ 1000 ∧ K .next loc (os2.set dn (.dict (putE attr x es))))
  (hs : ∀ env, swapsWith v (some (.Attribute o attr p')) p.line env = pure false := by intro ω; rfl) : EX c n e loc os (.Assign [.Attribute o attr p'] v p) K := fun A hA ρ s F => by
 refine plainObj_wpAny_Assign_Attribute (wpAny_mono (h A hA ρ s F) (fun va s1 y => ?_) fun ω ω z => z) (hs _)
 obtain ⟨x, os1, ρ1, k1, H1, E1, r1⟩ := y
 have F1 := F.ext E1 H1
 refine wpAny_mono (k1 A hA ρ1 s1 F1) (fun vo s2 y => ?_) fun ω ω z => z
 obtain ⟨a, os2, ρ2, ⟨k, Cl, dn, es, rfl, cf, ho, hd, ht, hl, k2⟩, H2, E2, ad, ha, rfl⟩ := y
 have F2 := F1.ext E2 H2
 refine qrt C cf H2 ho hd ha ht (H1.vr E2 r1) hl fun ρ3 s3 H3 E3 => ?_
 exact ⟨.next, loc, _, ρ3, k2, F2.ext E3 H3, ((E1.trans E2).trans E3).up, rfl⟩
noncomputable def AccAt (os : List AO) (k dn : Nat) (es : List (Str × AV)) (xs : List AV) : Prop := os[k]? = some (.acc 238 dn xs) ∧ os[dn]? = some (.dict es)
theorem AccAt.own {k dn : Nat} {es : List (Str × AV)} {xs : List AV} (x : AccAt os k dn es xs) : Own os k 238 dn := .inr ⟨xs, x.1⟩
theorem xm (C : c.Std) (H : c.HR ρ os s) {k dn : Nat} {es : List (Str × AV)} {xs : List AV} {a : Addr} (x : AccAt os k dn es xs) (ha : ρ[k]? = some a) :
  ∃ d vs n ds m, ρ[dn]? = some d ∧ s.heap.get? a = some (xl 238 d vs n) ∧ VRs ρ s.heap xs vs ∧ s.heap.get? d = some (xk ds m) ∧ DR c.w ρ s.heap es ds ∧ InstAt s.heap a (xl 238 d vs n) 238 (some (xk ds m)) ∧ LL c.w s.heap a vs.toArray := by
 refine x_ea (H.objs dn _ x.2) fun d' e2 z123y => ?_; refine q9 z123y fun ds m g2 r2 => ?_; clear z123y
 refine x_ea (H.objs k _ x.1) fun a' e1 z122y => ?_; refine qw z122y fun d vs n e3 g1 rv => ?_; clear z122y
 rw [ha] at e1; cases e1
 rw [e2] at e3; cases e3
 have I : InstAt s.heap a (xl 238 d' vs n) 238 (some (xk ds m)) := ⟨g1, rfl, rfl, g2⟩
 exact (y_e4 d' vs n ds (qar m e2 g1 rv (y_a3 g2 r2 I (qu0 (C.kin H) I rfl))))
theorem Post.putA {k dn : Nat} {a d : Addr} {h' : Heap} {r : AV} {v : Value} {ys : List AV} {ws : List Value} {nn tk : Nat} (H : c.HR ρ os s) (ha : ρ[k]? = some a) (hd : ρ[dn]? = some d) (sb : Heap.SameBut a s.heap h') (ht : s.toks ≤ tk)
  (e : h'.get? a = some (xl 238 d ws nn)) (hw : VRs ρ s.heap ys ws) (hr : VR ρ s.heap r v) (h : K r (os.set k (.acc 238 dn ys))) : Post c ρ s K v { s with heap := h', toks := tk } := by
 have tp : ImmK ρ s.heap h' := fun x o hi hc ho => (sb.2 x fun z => by
  subst z; exact H.not_imm ho hi hc (List.mem_of_getElem? ha)).trans ho
 exact ⟨r, _, ρ, h, H.set (d := s.drawn) (tk := tk) H.gi.bare ht ha sb ⟨d, ws, nn, hd, e, VRs.imp (List.prefix_refl _) tp _ _ hw⟩, Ext.set (List.mem_of_getElem? ha) sb, VR.imp (List.prefix_refl _) tp _ _ hr⟩
theorem qev {h : Heap} {a d : Addr} {vs : List Value} {n : Nat} (e : h.get? a = some (xl 238 d vs n)) (f : Array Value → Array Value) : ∃ m, (h.update a (Obj.mapSeq f)).get? a = some (xl 238 d (f vs.toArray).toList m) := by
 exact ⟨_, (Heap.get?_update_self _ e (by rfl)).trans rfl⟩
theorem qh5 (C : c.Std) {k dn : Nat} {es : List (Str × AV)} {xs : List AV} (x : AccAt os k dn es xs) (hx : es.lookup ("append" : Str) = none) : je c os (.ref k) "append" (.builtin "list.append") := by
 rintro A pl ρ s v Q E H q61x; refine x_ea q61x fun a ha hv => ?_; clear q61x; rintro q
 subst hv
 refine xg (xm C H x ha) fun d vs m ds m' hdn hg rv hgd D I L => ?_
 have hl := (D.look (name := "append") (n := m')).2 hx
 have X := C.kin H
 have F := zd (P := c.w.params)
 refine x_ea F.ga fun id hga hcan => ?_
 delta getMethod specialOf
 refine wpAny_bind (wpAny_bind (I.type.here ((looks_findIn X hga).here ?_)))
 dsimp only
 rw [hcan, if_neg (by exact Bool.false_ne_true)]
 refine wpAny_bind (wpAny_bind (I.type.here ((looks_findIn X F.gh).here ?_)))
 refine wpAny_bind (wpAny_bind (I.type.here ((looks_findIn (r := some (.builtin "list.append")) X (by kernel_rfl)).here (wpAny_bind ((looks_typeIn (t := .type "method_descriptor") X (by kernel_rfl)).here ?_)))))
 rw [if_neg (by exact ne_true_of_eq_false rfl)]
 refine wpAny_bind (wpAny_loadPart I.at_ ?_)
 refine wpAny_bind (wpAny_bind (wpAny_loadPart hgd ?_))
 rw [nsLook_of hl]
 refine wpAny_pure ?_
 exact wpAny_bind (wpAny_rule (wpAny_pure (q s.toks (Nat.le_refl _))))
theorem qh1 (C : c.Std) {k dn : Nat} {es : List (Str × AV)} {xs : List AV} {a : AV} (x : AccAt os k dn es xs) (hl : xs.length ≤ 100000) (h : K .none (os.set k (.acc 238 dn (xs ++ [a])))) : CG c n (.builtin "list.append") [.ref k, a] os K := fun A hA ρ s vs H V => by
 refine qc (wq V) fun b r' hb z121y V1 => ?_; subst z121y
 refine qc V1 fun v r z120y hv V2 => ?_; clear V1; subst z120y
 obtain rfl := q0 V2
 refine xg (xm C H x hb) fun d ws m ds m' hdn hg rv hgd D I L => ?_
 have hlen := rv.length
 have hsl : sizeLine = 16777216 := rfl
 refine qnd qot entry_list_append L.inst (args_list_append _ _) ?_
 show wpAny _ _ (updateSeq b (·.push v) >>= fun ω => ret .none) _ _ s
 refine wpAny_bind (wpAny_updateSeq hg rfl (wpAny_pure (y_ea .none rfl ?_)) (by simp; lia) (by simp; lia))
 obtain ⟨m2, hm2⟩ := qev hg (·.push v)
 exact Post.putA (r := .none) (tk := s.toks) H hb hdn (Heap.SameBut.update ..) (Nat.le_refl _) (ws := ws ++ [v]) (ys := xs ++ [a]) (by simpa using hm2) (rv.append ⟨v, [], rfl, hv, rfl⟩) rfl h
theorem qfy (C : c.Std) {value slice : Expr} {k dn : Nat} {es : List (Str × AV)} {xs : List AV} {i : Int} {x : AV} (y : AccAt os k dn es xs) (hr : 0 ≤ i ∧ i < 2 ^ 63) (hx : xs[i.toNat]? = some x) (h : K x os) :
  TV2 c n (subscriptTail value slice) (.ref k) (.int i) os K := by
 rintro A hA ρ s v u H q62x; refine x_ea q62x fun a ha hv => ?_; clear q62x; rintro q63x; obtain ⟨t', hu⟩ := q63x
 subst hv hu
 refine xg (xm C H y ha) fun d ws m ds m' hdn hg rv hgd D I L => ?_
 refine x_ea (rv.get hx) fun z hz rz => ?_
 exact L.subtail (L.item hr.1 hr.2 (by simpa using hz) (Post.now H h rz))
theorem qmz (C : c.Std) {value slice : Expr} {k dn : Nat} {es : List (Str × AV)} {xs : List AV} {b : Nat} (y : AccAt os k dn es xs) (hl : xs.length ≤ sizeLine) (h : K (.ref os.length) (os ++ [.list (xs.drop b)])) :
  TV2 c n (subscriptTail value slice) (.ref k) (.sl (some (b : Int)) none) os K := by
 rintro A hA ρ s v u H q64x; refine x_ea q64x fun a ha hv => ?_; clear q64x; rintro q65x; refine ym q65x fun a' vl vu hw e p1 p2 => ?_; clear q65x
 subst hv hw
 refine xg (xm C H y ha) fun d ws m ds m' hdn hg rv hgd D I L => ?_
 have hlen := rv.length
 refine L.subtail (L.slice ⟨_, e, rfl, rfl⟩ p1 p2 (by simp; simp only [*]) ?_)
 have kp := qf (h := s.heap) (ob := { cls := .type "list", data := .seq (slicePick ws.toArray (some (b : Int)) none none) })
 refine ⟨_, _, ρ ++ [s.heap.objs.size], h, H.alloc (d := s.drawn) (tk := s.toks) H.gi.bare (Nat.le_refl _) kp qe (Nat.le_refl _) ⟨(slicePick ws.toArray (some (b : Int)) none none).toList, ⟨0, by simpa using Heap.get?_push_size _ rfl⟩, y0 (List.prefix_append _ _) kp (by rw [slicePick_from']; exact rv.drop b)⟩,
  Ext.alloc kp qe (Nat.le_refl _), s.heap.objs.size, by rw [← H.len]; exact List.getElem?_concat_length, rfl⟩
theorem ye {K : AF → Loc → List AO → Prop} {o i v : Expr} {p' p : Pos} (h : EV c n e loc os v fun x os1 => EV c n e loc os1 o fun a os2 => EV c n e loc os2 i fun b os3 =>
   (∀ A ρ s vx va vi, AR A n → c.HR ρ os3 s → VR ρ s.heap x vx → VR ρ s.heap a va → VR ρ s.heap b vi → wpAny (MM c.w) A (setItem va vi vx) (fun ω s' => ∃ os4 ρ', K .next loc os4 ∧ c.HR ρ' os4 s' ∧ Ext c.tabs [] ρ s ρ' s') NoE s))
  (hs : ∀ env, swapsWith v (some (.Subscript o i p')) p.line env = pure false := by intro ω; rfl) : EX c n e loc os (.Assign [.Subscript o i p'] v p) K := fun A hA ρ s F => by
 refine wpAny_Assign_Subscript (wpAny_mono (h A hA ρ s F) (fun va s1 y => ?_) fun ω ω z => z) (hs _)
 obtain ⟨x, os1, ρ1, k1, H1, E1, r1⟩ := y
 have F1 := F.ext E1 H1
 refine wpAny_mono (k1 A hA ρ1 s1 F1) (fun vo s2 y => ?_) fun ω ω z => z
 obtain ⟨a, os2, ρ2, k2, H2, E2, r2⟩ := y
 have F2 := F1.ext E2 H2
 refine wpAny_mono (k2 A hA ρ2 s2 F2) (fun vi s3 y => ?_) fun ω ω z => z
 obtain ⟨b, os3, ρ3, k3, H3, E3, r3⟩ := y
 have F3 := F2.ext E3 H3
 refine wpAny_mono (k3 A ρ3 s3 va vo vi hA H3 (H1.vr (E2.trans E3) r1) (H2.vr E3 r2) r3) (fun ω s4 y => ?_) fun ω ω z => z
 refine qc y fun os4 ρ4 k4 H4 E4 => ?_; clear y
 exact ⟨.next, loc, os4, ρ4, k4, F3.ext E4 H4, (((E1.trans E2).trans E3).trans E4).up, rfl⟩
theorem qdp (new items : Array Value) (lo hi : Option Int) : (ji items.size new lo hi items).size ≤ items.size + new.size + items.size := by
 have x1 : ∀ a b : Nat, (items.extract a b).size ≤ items.size := fun a b => by rw [Array.size_extract]; exact Nat.le_trans (Nat.sub_le ..) (Nat.min_le_right ..)
 delta ji
 rw [Array.size_append, Array.size_append]
 exact Nat.add_le_add (Nat.add_le_add_right (x1 ..) _) (x1 ..)
theorem ql6 {k j : Nat} {xs ns zs : List AV} {l u : Option Int} {K : List AO → Prop} (hk : os[k]? = some (.list xs)) (hj : os[j]? = some (.list ns)) (hl : xs.length + ns.length ≤ 100000)
  (hz : ∀ (vs ws : List Value), vs.length = xs.length → ∀ ρ h, VRs ρ h xs vs → VRs ρ h ns ws → VRs ρ h zs (ji vs.length ws.toArray l u vs.toArray).toList) (h : K (os.set k (.list zs))) :
  ∀ A ρ s vx va vi, AR A n → c.HR ρ os s → VR ρ s.heap (.ref j) vx → VR ρ s.heap (.ref k) va → VR ρ s.heap (.sl l u) vi → wpAny (MM c.w) A (setItem va vi vx) (fun ω s' => ∃ os4 ρ', K os4 ∧ c.HR ρ' os4 s' ∧ Ext c.tabs [] ρ s ρ' s') NoE s := by
 rintro A ρ s vx va vi hA H q66x; refine x_ea q66x fun x hx z119y => ?_; clear q66x; subst z119y; rintro q67x; refine x_ea q67x fun a ha z118y => ?_; clear q67x; subst z118y; rintro q68x; refine ym q68x fun b vl vu z117y e p1 p2 => ?_; clear q68x; subst z117y
 refine x_ea (qq H hk ha) fun vs e1 r1 => ?_
 refine x_ea (qq H hj hx) fun ws e2 r2 => ?_
 have l1 := r1.length
 have l2 := r2.length
 have hsl : sizeLine = 16777216 := rfl
 have hle := qdp ws.toArray vs.toArray l u
 simp at hle
 refine (IsL.ll e1).setSlice ⟨_, e, rfl, rfl⟩ p1 p2 e2 (by simp; lia) (by simp; simp only [*]) (by simp; lia) ?_
 obtain ⟨ω, ω, ρ', ⟨rfl, rfl⟩, H', E', ω⟩ := Post.put (K := fun a o => a = .none ∧ o = os.set k (.list zs)) (a := .none) (v := .none) (tk := s.toks) H ha (Heap.SameBut.update ..) (Nat.le_refl _) (ws := (ji vs.length ws.toArray l u vs.toArray).toList) (ys := zs) (by simpa using e1.map (ji vs.length ws.toArray l u)) (hz vs ws l1 ρ s.heap r1 r2) rfl ⟨rfl, rfl⟩
 exact jk (os.set k (AO.list zs)) ρ' h H' E'
theorem qcj (C : c.Std) {k j dn : Nat} {es : List (Str × AV)} {xs ns zs : List AV} {l u : Option Int} {K : List AO → Prop} (y : AccAt os k dn es xs) (hj : os[j]? = some (.list ns)) (hl : xs.length + ns.length ≤ 100000)
  (hz : ∀ (vs ws : List Value), vs.length = xs.length → ∀ ρ h, VRs ρ h xs vs → VRs ρ h ns ws → VRs ρ h zs (ji vs.length ws.toArray l u vs.toArray).toList) (h : K (os.set k (.acc 238 dn zs))) :
  ∀ A ρ s vx va vi, AR A n → c.HR ρ os s → VR ρ s.heap (.ref j) vx → VR ρ s.heap (.ref k) va → VR ρ s.heap (.sl l u) vi → wpAny (MM c.w) A (setItem va vi vx) (fun ω s' => ∃ os4 ρ', K os4 ∧ c.HR ρ' os4 s' ∧ Ext c.tabs [] ρ s ρ' s') NoE s := by
 rintro A ρ s vx va vi hA H q69x; refine x_ea q69x fun x hx z116y => ?_; clear q69x; subst z116y; rintro q70x; refine x_ea q70x fun a ha z115y => ?_; clear q70x; subst z115y; rintro q71x; refine ym q71x fun b vl vu z114y e p1 p2 => ?_; clear q71x; subst z114y
 refine xg (xm C H y ha) fun d vs m ds m' hdn hg r1 hgd D I L => ?_
 refine x_ea (qq H hj hx) fun ws e2 r2 => ?_
 have l1 := r1.length
 have l2 := r2.length
 have hsl : sizeLine = 16777216 := rfl
 have hle := qdp ws.toArray vs.toArray l u
 simp at hle
 refine L.setSlice ⟨_, e, rfl, rfl⟩ p1 p2 e2 (by simp; lia) (by simp; simp only [*]) (by simp; lia) ?_
 obtain ⟨m2, hm2⟩ := qev hg (ji vs.length ws.toArray l u)
 obtain ⟨ω, ω, ρ', ⟨rfl, rfl⟩, H', E', ω⟩ := Post.putA (K := fun a o => a = .none ∧ o = os.set k (.acc 238 dn zs)) (r := .none) (v := .none) (tk := s.toks) H ha hdn (Heap.SameBut.update ..) (Nat.le_refl _) (ws := (ji vs.length ws.toArray l u vs.toArray).toList) (ys := zs) hm2 (hz vs ws l1 ρ s.heap r1 r2) rfl ⟨rfl, rfl⟩
 exact jk (os.set k (AO.acc 238 dn zs)) ρ' h H' E'
theorem qsy {xs ns : List AV} : ∀ (vs ws : List Value), vs.length = xs.length → ∀ ρ h, VRs ρ h xs vs → VRs ρ h ns ws → VRs ρ h ns (ji vs.length ws.toArray none none vs.toArray).toList := fun vs ws hl ρ h r1 r2 => by
 have : (ji vs.length ws.toArray none none vs.toArray).toList = ws := by simp [ji, sliceBounds]
 rw [this]; exact r2
theorem qt9 {xs ns : List AV} {i : Nat} : ∀ (vs ws : List Value), vs.length = xs.length → ∀ ρ h, VRs ρ h xs vs → VRs ρ h ns ws → VRs ρ h (xs.take i ++ ns) (ji vs.length ws.toArray (some (i : Int)) none vs.toArray).toList := fun vs ws hl ρ h r1 r2 => by
 have : (ji vs.length ws.toArray (some (i : Int)) none vs.toArray).toList = vs.take i ++ ws := by
  have e1 : (max (0 : Int) (min (i : Int) vs.length)).toNat = min i vs.length := by
   rcases Nat.le_total i vs.length with q | q
   ·rw [Int.min_eq_left (Int.ofNat_le.mpr q), Nat.min_eq_left q, Int.max_eq_right (Int.natCast_nonneg _)]; rfl
   ·rw [Int.min_eq_right (Int.ofNat_le.mpr q), Nat.min_eq_right q, Int.max_eq_right (Int.natCast_nonneg _)]; rfl
  have e2 : (max (0 : Int) (max (min (i : Int) vs.length) vs.length)).toNat = vs.length := by rw [Int.max_eq_right (Int.min_le_right ..), Int.max_eq_right (Int.natCast_nonneg _)]; rfl
  simp [ji, sliceBounds, e1, e2, show ¬ ((i : Int) < 0) by exact Int.not_ofNat_neg i]
 rw [this]; exact (r1.take i).append r2
theorem qrv {xs ns : List AV} : ∀ (vs ws : List Value), vs.length = xs.length → ∀ ρ h, VRs ρ h xs vs → VRs ρ h ns ws → VRs ρ h (ns ++ xs) (ji vs.length ws.toArray none (some 0) vs.toArray).toList := fun vs ws hl ρ h r1 r2 => by
 have : (ji vs.length ws.toArray none (some 0) vs.toArray).toList = ws ++ vs := by
  have e1 : (max (0 : Int) (min (0 : Int) vs.length)).toNat = 0 := by rfl
  simp [ji, sliceBounds, e1]
 rw [this]; exact r2.append r1
end
end Mine
end
section
open PySem PySem.W PyProof.Rows PySem.Calls PySem.Spec Builtin Builtin.ObjectAttr
namespace Mine
section
variable {c : CX} {n : Nat} {os : List AO} {K : AV → List AO → Prop} {e : EF} {loc : Loc} {ρ : List Addr} {s : Shared}
theorem qj4 {w : World} {A : Around} {E : Value → Shared → Prop} {s : Shared} {x : Addr} {ox : Obj} {od : Option Obj} {name : Str} {v : Value} {Q : Value → Shared → Prop} (X : (KF w.params).In s.heap) (I : InstAt s.heap x ox 238 od)
  (hf : findObj (KF w.params) 238 od name = some (.value v)) (hh : handedIn v = true) (h : Q v { s with toks := s.toks + 1 }) : wpAny (MM w) A (getAttr (.ref x) name true) Q E s := by
 obtain ⟨hp, g, d, t, os⟩ := s
 have L0 := I.type (M := MM w)
 have L1 := looks_findIn (M := MM w) (r := some (.builtin "list.__getattribute__")) (t := .ref 238) (name := "__getattribute__") X (by kernel_rfl)
 have L2 := looks_findIn (M := MM w) (r := none) (t := .ref 238) (name := "__getattr__") X (by kernel_rfl)
 unfold getAttr getAttrBy
 refine wpAny_bind (wpAny_mkText (wpAny_holding (wpAny_bind (L0.at (wpAny_bind (L1.at ?_))))))
 show wpAny _ _ (getAttrByItsOwn _ _ _ _ _ _) _ _ _
 unfold getAttrByItsOwn hookBefore
 refine wpAny_bind (L2.at ?_)
 refine wpAny_bind (wpAny_attempt (wpAny_holding ?_))
 show wpAny _ _ (boundAndCalled _ _ _) _ _ _
 unfold boundAndCalled
 rw [F.slot_list_getattribute.bind]
 refine wpAny_bind (wpAny_pure ?_)
 refine wpAny_mono (qnd (Q := fun r s' => r = v ∧ s' = ⟨hp, g, d, t + 1, os⟩) (E := fun ω ω => False) qvl am_entry_list_getattribute (I.type.andThen (looks_mroIn X (by kernel_rfl))) (F.args_list_getattribute_2 _ _) ?_) (fun r s' z => ?_) fun ω ω z => z.elim
 ·refine wpAny_bind (wpAny_pure (wpAny_bind (wpAny_pure (wpAny_bind (L0.at (wpAny_bind ((looks_find X I hf).at ?_)))))))
  exact wpAny_pure (wg _ rfl rfl rfl)
 ·obtain ⟨rfl, rfl⟩ := z
  show wpAny _ _ (handedOut _) _ _ _
  rw [handedOut_of hh]; exact wpAny_pure h
theorem qjd (C : c.Std) {k dn : Nat} {es : List (Str × AV)} {xs : List AV} {name : Str} {x : AV} (y : AccAt os k dn es xs) (hn : findIn (KF c.w.params) (.ref 238) name = some none)
  (hx : es.lookup name = some x) (hp : x.plain = true) (h : K x os) : TV1 c n (fun v => getAttr v name true) (.ref k) os K := by
 rintro A hA ρ s v H q72x; refine x_ea q72x fun a ha hv => ?_; clear q72x
 subst hv
 refine xg (xm C H y ha) fun d vs m ds m' hdn hg rv hgd D I L => ?_
 refine x_ea (qej (m := m') C zd hn D hx) fun u hf ru => ?_
 exact qj4 (C.kin H) I hf (qhn hp ru) (Post.ret _ (Nat.le_succ _) H h ru)
end
end Mine
end
section
open PySem PySem.W PyProof.Rows PySem.Calls PySem.Spec Builtin Builtin.ObjectAttr
namespace Mine
section
variable {c : CX} {n : Nat} {os : List AO} {K : AV → List AO → Prop} {e : EF} {loc : Loc} {ρ : List Addr} {s : Shared}
theorem qop {w : World} {A : Around} {E : Value → Shared → Prop} {s : Shared} {x : Addr} {ox : Obj} {od : Option Obj} {Q : Value → Shared → Prop} (X : (KF w.params).In s.heap) (I : InstAt s.heap x ox 238 od)
  (h : wpAny (MM w) A (call (.ref 205) [.ref x]) (fun r s' => ∃ i t, r = .int i t ∧ 0 ≤ i ∧ i < 2 ^ 62 ∧ Q (.int i s'.toks) { s' with toks := s'.toks + 1 }) E s) :
  wpAny (MM w) A (Builtin.«len» ⟨[.ref x], []⟩) (fun fin s' => ∃ v, fin = .done (.ret v) ∧ Q v s') E s := by
 unfold Builtin.«len»
 refine wpAny_bind (m := oneArg "len" _) (wpAny_pure ?_)
 refine wpAny_bind (m := callSpecial? (.ref x) (Str.ofString "__len__")) (special_fn X I (by kernel_rfl) (by kernel_rfl) (wpAny_mono h (fun r s' hr => ?_) fun ω ω y => y))
 refine xx hr fun i t z128y h0 h1 hq => ?_; clear hr; subst z128y
 refine wpAny_bind (wpAny_holding (wpAny_pure ?_))
 refine wpAny_bind (wpAny_letGo ?_)
 show wpAny _ _ (if i < 0 then _ else _) _ _ _
 rw [if_neg (by exact Int.not_lt_of_ge h0)]
 show wpAny _ _ (if i ≥ 2 ^ 63 then _ else _) _ _ _
 rw [if_neg (by lia)]
 exact wpAny_bind (wpAny_mkInt (wpAny_pure (y_ea _ rfl hq)))
theorem qr9 (C : c.Std) {k dn : Nat} {es : List (Str × AV)} {xs : List AV} (x : AccAt os k dn es xs) (h : CG c n (.ref 205) [.ref k] os fun a o => ∃ i, a = .int i ∧ 0 ≤ i ∧ i < 2 ^ 62 ∧ K (.int i) o) : CG c (n + 1) (.builtin "len") [.ref k] os K := fun A hA ρ s vs H V => by
 have hh := h A.in1 hA.in1 ρ s vs H V
 refine qc (wq V) fun b r' hb z127y V1 => ?_; subst z127y
 obtain rfl := q0 V1
 refine xg (xm C H x hb) fun d ws m ds m' hdn hg rv hgd D I L => ?_
 refine Calls.call_function_entry kind_len plain_len entry_len (args_len1 _) (qop (C.kin H) I (wpAny_mono hh (fun r s' z => ?_) fun ω ω z => z))
 obtain ⟨ω, os1, ρ1, ⟨i, rfl, h0, h1, k1⟩, H1, E1, t, rfl⟩ := z
 exact ⟨i, t, rfl, h0, h1, _, os1, ρ1, k1, H1.toks _ (Nat.le_succ _), E1.trans (Ext.toks ..), _, rfl⟩
theorem qv8 (C : c.Std) {k dn : Nat} {es : List (Str × AV)} {xs : List AV} {K : Bool → List AO → Prop} (x : AccAt os k dn es xs) (h : CG c n (.ref 205) [.ref k] os fun a o => ∃ i, a = .int i ∧ 0 ≤ i ∧ i < 2 ^ 62 ∧ K (i != 0) o) : TB1 c (n + 1) truthy (.ref k) os K := by
 rintro A hA ρ s v H q73x; refine x_ea q73x fun b hb hv => ?_; clear q73x
 subst hv
 have hh := h A.in1 hA.in1 ρ s [.ref b] H ⟨_, _, rfl, ⟨b, hb, rfl⟩, rfl⟩
 refine xg (xm C H x hb) fun d ws m ds m' hdn hg rv hgd D I L => ?_
 have X := C.kin H
 unfold truthy
 refine wpAny_bind (m := callSpecial? (.ref b) (Str.ofString "__bool__")) (wpAny_bind (wpAny_bind (I.type.here ((looks_findIn (r := none) X (by kernel_rfl)).here (wpAny_pure ?_)))))
 refine wpAny_bind (wpAny_bind (I.type.here ((looks_findIn (r := some (.ref 205)) X (by kernel_rfl)).here ?_)))
 rw [if_neg (by exact ne_true_of_eq_false rfl)]
 refine wpAny_bind (wpAny_runValue (codeAny_builtin entry_len ?_))
 refine wpAny_mono (qop (Q := fun v s' => ∃ i, v = .int i (s'.toks - 1) ∧ PostB c ρ s K (i != 0) s') X I (wpAny_mono hh (fun r s' z => ?_) fun ω ω z => z)) (fun fin s' z => ?_) fun ω ω z => z
 ·obtain ⟨ω, os1, ρ1, ⟨i, rfl, h0, h1, k1⟩, H1, E1, t, rfl⟩ := z
  exact ⟨i, t, rfl, h0, h1, i, rfl, os1, ρ1, k1, H1.toks _ (Nat.le_succ _), E1.trans (Ext.toks ..)⟩
 ·refine x_ea z fun v z125y z126y => ?_; clear z; subst z125y; refine x_ea z126y fun i z129y z => ?_; clear z126y; subst z129y
  exact wpAny_pure z
theorem qmo (C : c.Std) {k dn : Nat} {es : List (Str × AV)} {xs : List AV} (x : AccAt os k dn es xs) (h : CG c n (.ref 212) [.ref k] os fun a o => ∃ y, a = .str y ∧ K (.str y) o) : CG c (n + 2) (.type "str") [.ref k] os K := fun A hA ρ s vs H V => by
 have hh := h A.in1.in1 hA.in1.in1 ρ s vs H V
 refine qc (wq V) fun b r' hb z124y V1 => ?_; subst z124y
 obtain rfl := q0 V1
 refine xg (xm C H x hb) fun d ws m ds m' hdn hg rv hgd D I L => ?_
 refine kso_call (K := KF c.w.params) (by have := hA.units; show A.units + 1 + 1 < _; have : cLine = 9900 := rfl; lia) (C.kin H) I (by kernel_rfl) (by kernel_rfl) (wpAny_mono hh (fun r s' z => ?_) fun ω ω z => z)
 obtain ⟨ω, os1, ρ1, ⟨y, rfl, k1⟩, H1, E1, t, rfl⟩ := z
 exact ⟨_, os1, ρ1, k1, H1, E1, t, rfl⟩
end
end Mine
end
section
open PySem PySem.W PyProof.Rows PySem.Calls PySem.Spec Builtin Builtin.ObjectAttr
namespace Mine
noncomputable abbrev xj (T id : String) (x : Addr) : Obj := { cls := .type T, data := .fields #[.builtin id, .ref x] }
theorem qi2 : Slot "wrapper_descriptor" "__get__" "wrapper_descriptor.__get__" :=
 .of (owner := "wrapper_descriptor") (n := "__get__") (by exact of_pureOf rfl) (by rfl) (by rfl) (by rfl)
  (by exact Or.symm (Or.inr rfl)) (by exact isSubtype_of_subB rfl)
theorem qq3 : entryFor table "wrapper_descriptor.__get__" = some Builtin.«wrapper_descriptor.__get__» := entryFor_of_tree (by kernel_rfl)
theorem qtd (a b c : Value) : argsOk "wrapper_descriptor.__get__" ⟨[a, b, c], []⟩ := by delta argsOk; kernel_rfl
structure qfq (name : Str) (id T : String) : Prop where
 along : ∀ P, alongIn (KF P) name [.type "list", .type "object"] = some (some (.builtin id))
 get : ∃ D gid, typeOf (.builtin id) = pure (.type D) ∧ typeLookup (.type D) "__get__" = pure (some (.builtin gid)) ∧ ∀ (w : World) (A : Around) (h : Heap) g d tk os (x C : Addr) ox od (R : Result → Shared → Prop), (KF w.params).In h → InstAt h x ox 238 od →
  R (.ok (.ret (.ref h.objs.size))) ⟨h.push (xj T id x), g, d, tk, os⟩ → codeAny (MM w) A (.call (.builtin gid) ⟨[.builtin id, .ref x, .ref C], []⟩) R ⟨h, g, d, tk, os⟩
 bound : ∀ (w : World) (A : Around) (E : Value → Shared → Prop) (s : Shared) (x : Addr) ox od (Q : Unit → Shared → Prop), (KF w.params).In s.heap → InstAt s.heap x ox 238 od → Q () s → wpAny (MM w) A (checkBoundCall id ⟨[.ref x], []⟩) Q E s
 quiet : plainId id = true
 T : T = "builtin_function_or_method" ∨ T = "method-wrapper"
theorem qgr {M : Model} {A : Around} {E : Value → Shared → Prop} {s : Shared} {x C : Addr} {ox : Obj} {od : Option Obj} {Q : Bool → Shared → Prop} (I : InstAt s.heap x ox C od) (q : Q false s) : wpAny M A (isType (.ref x)) Q E s := by
 delta isType loadHead
 refine wpAny_bind (wpAny_loadPart I.at_ ?_)
 have := I.no
 unfold notCls at this
 split <;> first | exact wpAny_pure q | (rename_i e; rw [e] at this; cases this)
theorem qq1 : qfq "pop" "list.pop" "builtin_function_or_method" := by
 refine ⟨fun P => by kernel_rfl, ?_, ?_, by rfl, .inl rfl⟩
 ·have hk : typeOf (.builtin "list.pop") = pure (.type "method_descriptor") := F.type_list_pop
  refine (jk _ _ hk qcl.lookup ?_)
  intro w A h g d tk os x C ox od Q X I q
  have hsub : Looks (MM w) h (isSubtype (.ref 238) (.type "list")) true := looks_mroIn X (by kernel_rfl)
  have hx := I.at_
  have hc := I.cls
  refine codeAny_call_builtin qcl.plain qj0 (qcl.check _ _ _ _ _ _ _ _ ?_ (qnb _ _ _) ?_)
  ·exact hk
  ·delta Builtin.«method_descriptor.__get__»
   repeat (any_goals (first | assumption | wp_step))
   rw [hc, show (".".intercalate ("list.pop".cutAt '.').dropLast) = "list" from by rfl]
   refine hsub.at ?_
   try dsimp only
   repeat (any_goals (first | assumption | wp_step))
 ·intro w A E s x ox od Q X I q
  delta checkBoundCall
  have hk : builtinKind "list.pop" = some Manifest.AttrKind.method := by decide +kernel
  obtain ⟨sig, hs1, hs2⟩ : ∃ sig, Manifest.signature? "list.pop" = some sig ∧ ∀ a : Value, Bind.checkArgs "list.pop" { sig with full := "_Accumulator.pop" } ⟨[a], []⟩ = pure () := by
   refine (y_ea _ (signature?_of (id := "list.pop") (n := ['p', 'o', 'p']) (o := ['t', 's', 'i', 'l']) (by kernel_rfl) F.owner_list) (fun a => ?_))
   kernel_rfl
  rw [hs1, hk]
  dsimp only
  rw [if_neg (by exact ne_true_of_eq_false rfl)]
  have hm : Looks (MM w) s.heap (isInstance (.ref x) (.type "module")) false := I.type.andThen (looks_mroIn X (by kernel_rfl))
  refine wpAny_bind (hm.here ?_)
  rw [if_neg (by exact ne_true_of_eq_false rfl)]
  refine wpAny_bind (qgr I ?_)
  rw [if_neg (by exact Bool.false_ne_true)]
  refine wpAny_bind (I.type.here ?_)
  dsimp only
  refine wpAny_bind ((looks_clsIn (C := 238) X (by rfl)).here ?_)
  refine wpAny_bind ((looks_typeIn (t := .type "type") (v := .ref 238) X (by kernel_rfl)).here ?_)
  rw [if_pos (by rfl)]
  rw [show (toString (Str.toString "_Accumulator") ++ toString "." ++ toString (Bind.lastOf "list.pop")) = "_Accumulator.pop" from by rfl, hs2]
  exact wpAny_pure q
theorem qf7 {name : Str} {id : String} (hal : ∀ P, alongIn (KF P) name [.type "list", .type "object"] = some (some (.builtin id))) (hk : typeOf (.builtin id) = pure (.type "wrapper_descriptor")) (hcut : (".".intercalate (id.cutAt '.').dropLast) = "list")
  (hbk : builtinKind id = some Manifest.AttrKind.slot) (hargs : ∀ a : Value, argsOk id ⟨[a], []⟩) (hq : plainId id = true) : qfq name id "method-wrapper" := by
 refine ⟨hal, (jk _ _ hk qi2.lookup ?_), ?_, hq, .inr rfl⟩
 ·intro w A h g d tk os x C ox od Q X I q
  have hsub : Looks (MM w) h (isSubtype (.ref 238) (.type "list")) true := looks_mroIn X (by kernel_rfl)
  have hx := I.at_
  have hc := I.cls
  refine codeAny_call_builtin qi2.plain qq3 (qi2.check _ _ _ _ _ _ _ _ ?_ (qtd _ _ _) ?_)
  ·exact hk
  ·delta Builtin.«wrapper_descriptor.__get__»
   repeat (any_goals (first | assumption | wp_step))
   rw [hc, hcut]
   refine hsub.at ?_
   try dsimp only
   repeat (any_goals (first | assumption | wp_step))
 ·intro w A E s x ox od Q X I q
  delta checkBoundCall
  cases hsig : Manifest.signature? id with
  | none => exact wpAny_pure q
  | some sig =>
   rw [hbk]
   try dsimp only
   rw [if_pos (by rfl)]
   have ha := hargs (.ref x)
   simp only [argsOk, hsig] at ha
   have h2 : Bind.checkArgs id sig ⟨[.ref x], []⟩ = pure () := ha
   rw [h2]; exact wpAny_pure q
theorem qnj : qfq "__init__" "list.__init__" "method-wrapper" :=
 qf7 (fun P => by kernel_rfl) (by kernel_rfl) (by rfl) (by decide +kernel) F.args_list_init_1 (by decide +kernel)
theorem qq0 : qfq "__len__" "list.__len__" "method-wrapper" :=
 qf7 (fun P => by kernel_rfl) (by kernel_rfl) (by rfl) (by decide +kernel) (fun a => by delta argsOk; kernel_rfl) (by decide +kernel)
end Mine
end
section
open PySem PySem.W PyProof.Rows PySem.Calls PySem.Spec Builtin Builtin.ObjectAttr
namespace Mine
noncomputable abbrev qff (x : Addr) : Obj := { cls := .type "super", dict := none, data := .fields #[.ref 238, .ref x, .ref 238], slots := #[] }
section
variable {w : World} {A : Around} {E : Value → Shared → Prop} {h : Heap} {g : Array GenState} {d : Drawn} {t : Nat} {os : OsState}
theorem qr2 {name : Str} {id T : String} (D : qfq name id T) {so x : Addr} {ox : Obj} {od : Option Obj} {tk : Tok} {Q : Fin → Shared → Prop} (hso : h.get? so = some (qff x)) (X : (KF w.params).In h) (I : InstAt h x ox 238 od) (hn : (name == ("__class__" : Str)) = false)
  (hx : x ≠ 238) (hq : Q (.done (.ret (.ref h.objs.size))) ⟨h.push (xj T id x), g, d, t, os⟩) : wpAny (MM w) A (Builtin.«super.__getattribute__» ⟨[.ref so, .str name tk], []⟩) Q E ⟨h, g, d, t, os⟩ := by
 refine qc D.get fun Dt gid g1 g2 g3 => ?_
 have hno : Looks (MM w) h (opaqueClassAbove (.ref 238)) none := looks_opaque X (by kernel_rfl)
 have hC : Looks (MM w) h (mroOf (.ref 238)) [.ref 238, .type "list", .type "object"] := (looks_clsIn (C := 238) X (by rfl)).andThen .now
 have hdt : (qff x).data = .fields #[.ref 238, .ref x, .ref 238] := rfl
 have f0 : (#[.ref 238, .ref x, .ref 238] : Array Value)[0]? = some (.ref 238) := rfl
 have f1 : (#[.ref 238, .ref x, .ref 238] : Array Value)[1]? = some (.ref x) := rfl
 have f2 : (#[.ref 238, .ref x, .ref 238] : Array Value)[2]? = some (.ref 238) := rfl
 have hne : (Value.ref x == Value.ref 238) = false := by simp [hx]
 have hal := D.along w.params
 have hl : (([.ref 238, .type "list", .type "object"] : List Value).dropWhile (· != .ref 238)).drop 1 = [.type "list", .type "object"] := by rfl
 delta Builtin.«super.__getattribute__»
 repeat (first
  | (with_reducible refine wpAny_field hso hdt f0 ?_) | (with_reducible refine wpAny_field hso hdt f1 ?_) | (with_reducible refine wpAny_field hso hdt f2 ?_)
  | (with_reducible refine ks_wpAny_notOpaque hno ?_)
  | (with_reducible refine Looks.at hC ?_; rw [hl])
  | (refine ks_forIn_along X (fun ω ω => rfl) rfl ?_ hal)
  | (rw [g1])
  | (with_reducible refine wpAny_of_eq g2 ?_)
  | (rw [hn]) | (rw [hne]) | (rw [if_neg (by exact Bool.false_ne_true)]) | (rw [Bool.or_false])
  | wp_step
  | dsimp only)
 refine g3 w _ h g d t os x 238 ox od _ X I ?_
 exact wpAny_bind (wpAny_pure (wpAny_pure (wpAny_pure hq)))
theorem qhj {name : Str} {id T : String} (D : qfq name id T) {so x : Addr} {ox : Obj} {od : Option Obj} {pl : Sem Bool} {Q : Value × List Value → Shared → Prop} (hso : h.get? so = some (qff x)) (X : (KF w.params).In h) (I : InstAt h x ox 238 od) (hn : (name == ("__class__" : Str)) = false)
  (hx : x ≠ 238) (hq : Q (.ref h.objs.size, []) ⟨h.push (xj T id x), g, d, t + 1, os⟩) : wpAny (MM w) A (getMethod (.ref so) name pl) Q E ⟨h, g, d, t, os⟩ := by
 have hlk := F.ks_slot_super_ga.lookup
 have hcan := F.ks_canon_super_ga
 have hT : ∀ t', (⟨h, g, d, t', os⟩ : Shared).TypeIs (.ref so) "super" := fun ω => ⟨_, hso, rfl⟩
 delta getMethod
 refine wpAny_bind (wpAny_specialOf (hT _) hlk ?_)
 show wpAny _ _ (if (Manifest.canonical "super.__getattribute__" != "object.__getattribute__") = true then _ else _) _ _ _
 rw [if_pos hcan]
 delta getAttr getAttrBy
 refine wpAny_bind (wpAny_bind (wpAny_mkText (wpAny_holding (wpAny_bind (wpAny_typeOf (hT _) (wpAny_bind (wpAny_of_eq hlk ?_)))))))
 show wpAny _ _ (getAttrByItsOwn (.ref so) (.str name t) (.type "super") (.builtin "super.__getattribute__") true false) _ _ _
 delta getAttrByItsOwn hookBefore callGetattribute boundAndCalled
 refine wpAny_bind (wpAny_of_eq (show (if onTheHeap (.type "super") then typeLookup (.type "super") "__getattr__" else pure none) = pure none from rfl) ?_)
 refine wpAny_bind (wpAny_attempt (wpAny_holding ?_))
 show wpAny _ _ (bindSpecial (.builtin "super.__getattribute__") (.ref so) >>= _) _ _ _
 refine wpAny_bind (wpAny_of_eq (F.ks_slot_super_ga.bind _) ?_)
 refine wpAny_mono (Q := fun v s' => v = .ref h.objs.size ∧ s' = ⟨h.push (xj T id x), g, d, t + 1, os⟩) (E := fun ω ω => False)
  (wpAny_call_entry F.ks_slot_super_ga (hT _) F.ks_entry_super_ga (qr2 D hso X I hn hx (wg _ rfl rfl rfl)) (F.ks_gaArgs_super _ _)) (fun v s' hv => ?_) fun ω ω z => z.elim
 obtain ⟨rfl, rfl⟩ := hv
 exact wpAny_pure (wpAny_pure hq)
theorem qk3 {name : Str} {id T : String} (D : qfq name id T) {b x : Addr} {ox : Obj} {od : Option Obj} {s : Shared} {Q : Value → Shared → Prop} (hb : s.heap.get? b = some (xj T id x)) (X : (KF w.params).In s.heap) (I : InstAt s.heap x ox 238 od)
  (hq : codeAny (MM w) A (.builtin id ⟨[.ref x], []⟩) (fun r s' => match r with | .ok (.ret v) => Q v s' | .ok _ => False | .error e => E e s') s) : wpAny (MM w) A (call (.ref b) []) Q E s := by
 refine wpAny_call (codeAny_of_tree ?_)
 show wpAny _ A.in1 (callAny (.ref b) ⟨[], []⟩) _ _ _
 delta callAny
 refine wpAny_bind (wpAny_load hb ?_)
 have hT : (Value.type T == .type "method" || Value.type T == .type "builtin_function_or_method" || Value.type T == .type "method-wrapper") = true ∧ (Value.type T != .type "method") = true := by
  rcases D.T with rfl | rfl <;> decide
 dsimp only
 rw [if_pos hT.1]
 show wpAny _ A.in1 (if _ then _ else _) _ _ _
 rw [if_pos hT.2]
 refine wpAny_bind (D.bound w _ _ _ x ox od _ X I ?_)
 exact wpAny_pure ⟨plainId_quiet D.quiet _, hq⟩
theorem qll {id T : String} {b x : Addr} {s : Shared} (hT : T = "builtin_function_or_method" ∨ T = "method-wrapper") (hb : s.heap.get? b = some (xj T id x)) : ∃ k, ∀ A Q E, Q k s → wpAny (MM w) A (keeperOf (.ref b)) Q E s := by
 refine ⟨.machine, fun A Q E h => ?_⟩
 delta keeperOf
 refine wpAny_bind (wpAny_load hb ?_)
 rcases hT with rfl | rfl <;> exact wpAny_pure h
end
section
variable {c : CX} {n : Nat} {os : List AO} {K : AV → List AO → Prop} {e : EF} {loc : Loc} {ρ : List Addr} {s : Shared} {f : Addr} {fd : FuncData} {body : List Stmt} {ls gs : List Str}
theorem qje (C : c.Ok) (R : FnRec c f fd body ls gs) {args dargs : List AV}
  (hb : ∀ s, c.GI s → ∀ vs : List Value, vs.length = args.length → ∃ ds : List Value, (∀ ρ h, VRs ρ h dargs ds) ∧ BindsTo s fd ⟨vs, []⟩ ((ls.take (args.length + dargs.length)).zip (vs ++ ds)))
  (h : ∀ L A ρ s, AR A n → FR c (efOf fd L f ls gs) ((args ++ dargs).map some ++ List.replicate (ls.length - (args ++ dargs).length) none) os ρ s →
   _root_.PySem.wpAt (MM c.w) A (.func body (callEnv fd L f)) (execs body (callEnv fd L f)) (PostF c (efOf fd L f ls gs) ρ s (Ret os.length K)) NoE s) :
  CGc c (n + 1) (.ref f) args os K := fun A hA ρ s vs H V => by
 refine x_ea R.look fun o ho hd => ?_
 have hin := gi_k H.gi C
 refine x_ea (hb s H.gi vs V.length) fun ds hds hbind => ?_
 have room : A.depth < recursionLimit := by have := hA.depth; show A.depth < 1000; lia
 refine ks_codeAny_call_defAt room (hin _ _ ho) hd H.gi.lim (R.codeRec hin) R.body hbind R.cells (fun x hx => ?_) (fun h₀ hns k₀ => ?_) R.co R.gen R.kind
 ·have hm : (x.1, x.2) ∈ (ls.take (args.length + dargs.length)).zip (vs ++ ds) := hx
  exact (R.ls _ (List.mem_of_mem_take (List.of_mem_zip hm).1)).1
 have hV : VRs ρ s.heap (args ++ dargs) (vs ++ ds) := V.append (hds _ _)
 have hsz : s.heap.objs.size ≤ h₀.objs.size := by
  refine wf hns fun o ω ω ho ω => ?_; clear hns
  exact Nat.le_of_lt (Heap.lt_size ho)
 have H0 : c.HR ρ os { s with heap := h₀, toks := s.toks + ((ls.take (args.length + dargs.length)).zip (vs ++ ds)).length } := H.keeps (d := s.drawn) H.gi.bare (Nat.le_add_right _ _) k₀ hsz
 have E0 : Ext c.tabs [] ρ s ρ { s with heap := h₀, toks := s.toks + ((ls.take (args.length + dargs.length)).zip (vs ++ ds)).length } := Ext.keeps (d := s.drawn) k₀ hsz
 have F0 : FR c (efOf fd s.heap.objs.size f ls gs) ((args ++ dargs).map some ++ List.replicate (ls.length - (args ++ dargs).length) none) os ρ { s with heap := h₀, toks := s.toks + ((ls.take (args.length + dargs.length)).zip (vs ++ ds)).length } := by
  refine ⟨H0, R.ef _, (y_ea _ hns (LocR.start (y0 (List.prefix_refl _) k₀ hV) fun i x v hx hv => ?_)), fun q => absurd (H.lt q) (Nat.lt_irrefl _), H.gi.size⟩
  have hl := hV.length
  have hi : i < args.length + dargs.length := by
   have := (List.getElem?_eq_some_iff.mp hv).1
   simp at hl this; exact Nat.lt_of_lt_of_eq this hl
  exact qaj (R.nodup.sublist (List.take_sublist _ _)) ((List.getElem?_take_of_lt hi).trans hx) hv
 refine _root_.PySem.wpAt_mono (h s.heap.objs.size _ ρ _ (hA.deeper _) F0) (fun fl s1 y => ?_) fun ω ω z => z.elim
 obtain ⟨af, loc1, os1, ρ1, ⟨os2, g, rfl, hm, hu, hv, k1⟩, F1, E1, r1⟩ := y
 have E : Ext c.tabs [] ρ s (ρ1.take os2.length) s1 := (((E0.weaken (fun a h => (nomatch h))).trans E1).news (Y := [s.heap.objs.size]) (X := []) (by simp)).forget (Nat.le_trans (Nat.le_of_eq H.len) hm)
 have H1 := HRel.forget F1.hr hu
 cases af with
 | ret a => refine x_ea r1 fun v z129y r' => ?_; clear r1; subst z129y; exact ⟨a, os2, _, k1, H1, E, VR.take _ _ hv r'⟩
 | next => cases (show fl = .next from r1); exact ⟨.none, os2, _, k1, H1, E, rfl⟩
 | brk => cases (show fl = .brk from r1); exact ⟨.none, os2, _, k1, H1, E, rfl⟩
 | cont => cases (show fl = .cont from r1); exact ⟨.none, os2, _, k1, H1, E, rfl⟩
theorem qmc (C : c.Ok) (R : FnRec c f fd body ls gs) {args dargs : List AV}
  (hb : ∀ s, c.GI s → ∀ vs : List Value, vs.length = args.length → ∃ ds : List Value, (∀ ρ h, VRs ρ h dargs ds) ∧ BindsTo s fd ⟨vs, []⟩ ((ls.take (args.length + dargs.length)).zip (vs ++ ds)))
  (h : ∀ L A ρ s, AR A n → FR c (efOf fd L f ls gs) ((args ++ dargs).map some ++ List.replicate (ls.length - (args ++ dargs).length) none) os ρ s →
   _root_.PySem.wpAt (MM c.w) A (.func body (callEnv fd L f)) (execs body (callEnv fd L f)) (PostF c (efOf fd L f ls gs) ρ s (Ret os.length K)) NoE s) :
  CG c (n + 1) (.ref f) args os K := (qje C R hb h).cg
theorem uv (C : c.Ok) {A : Around} {E : Value → Shared → Prop} {x : Str} {v : Value} {Q : Value → Shared → Prop} (F : FR c e loc os ρ s) (hg : x ∈ e.gs) (hx : (x, v) ∈ c.gt) (h : Q v s) : wpAny (MM c.w) A (loadName e.env x) Q E s := by
 obtain ⟨hk, hd⟩ := F.ok.gs x hg
 refine qc C.glob fun mg mb h1 h2 h3 => ?_
 have h1' := (qdi F.hr.gi h1).ns
 have h2' := (qdi F.hr.gi h2).ns
 rw [qiq F.ok.kind hk]
 delta loadGlobal
 rw [F.ok.glob, F.ok.blt]
 refine wpAny_bind (wpAny_nsGet h1' ?_)
 rcases h3 x v hx with q | ⟨q, q'⟩
 ·rw [q]; exact wpAny_pure h
 ·rw [q]
  refine wpAny_bind (wpAny_nsGet h2' ?_)
  rw [q']; exact wpAny_pure h
theorem qaq (C : c.Std) (R : FnRec c f fd body ls gs) {name : Str} {id T : String} (D : qfq name id T) {L : Addr} {A : Around} {k dn : Nat} {es : List (Str × AV)} {xs : List AV} {ar : Arg} {p0 p1 ap p : Pos}
  (hfree : fd.scope.names.lookup ("__class__" : Str) = some .free) (hclo : fd.closure = [(("__class__" : Str), (162 : Addr))]) (hpar : (fd.params.posonlyargs ++ fd.params.args).head? = some ar) (har : ar.arg = "self") (hg : ("super" : Str) ∈ gs)
  (hcode : ∃ cc oc vs tf, fd.code = .ref cc ∧ c.K.lookup cc = some oc ∧ oc.data = .fields vs ∧ vs[2]? = some (.str "/claim/cut.py" tf)) (hn : (name == ("__class__" : Str)) = false)
  (F : FR c (efOf fd L f ls gs) loc os ρ s) (hself : LkAt ls loc "self" (.ref k)) (y : AccAt os k dn es xs)
  (hrun : ∀ A' ρ' s' a, c.HR ρ' os s' → ρ'[k]? = some a → codeAny (MM c.w) A' (.builtin id ⟨[.ref a], []⟩) (fun r s'' => match r with | .ok (.ret v) => Post c ρ' s' K v s'' | _ => False) s')
  (he : ∀ env, eval (.Call (.Attribute (.Call (.Name "super" p0) [] [] p1) name ap) [] [] p) env = (do
   let ov ← attributeBase (.Call (.Name "super" p0) [] [] p1) name env (eval (.Call (.Name "super" p0) [] [] p1) env)
   standAt ap.atName
   let (f', first) ← holding [ov] (getMethod ov name (do return (← importBound (.Call (.Name "super" p0) [] [] p1) (callEnv fd L f)).getD true))
   callWith p f' first (backTo p (starEach [] env)) []) := by intro ω; rfl) :
  _root_.PySem.wpAt (MM c.w) A (.func body (callEnv fd L f)) (eval (.Call (.Attribute (.Call (.Name "super" p0) [] [] p1) name ap) [] [] p) (callEnv fd L f)) (Post c ρ s K) NoE s := by
 refine x_ea R.look fun o ho hd => ?_
 refine v6 hcode fun cc oc vs tf hcc hoc hocd hvs => ?_; clear hcode
 have X := C.kin F.hr
 have hin := gi_k F.hr.gi C.ok
 refine x_ea F.ns fun mm hns hloc => ?_
 obtain ⟨hl, u, hu, a, ha, rfl⟩ := hself.get hloc
 refine xg (xm C F.hr y ha) fun dd vsA m ds m' hdn hga rv hgd DD I LLx => ?_
 have hne : a ≠ 238 := by
  have h1 := F.hr.fresh a (List.mem_of_getElem? ha)
  have h2 : (238 : Addr) < c.B.heap.objs.size := Heap.lt_size (C.ok.kin 238 _ (by rw [C.hK]; rfl))
  exact Nat.ne_of_gt (Nat.lt_of_lt_of_le h2 h1)
 have hcell : s.heap.get? 162 = some { cls := .type "cell", data := .cell (some (.ref 238)) } := X 162 _ rfl
 have hcls : s.heap.get? 238 = _ := X 238 _ rfl
 refine ks_wpAt_MethodCall (pl := (do return (← importBound (.Call (.Name "super" p0) [] [] p1) (callEnv fd L f)).getD true)) (o := .Call (.Name "super" p0) [] [] p1) (name := name) (apos := ap) (pos := p) (args := []) (env := callEnv fd L f) ?_ (he _)
 refine ks_wpAt_super_base (fd := fd) (ar := ar) (file := "/claim/cut.py") (tf := tf) (F.ok.gs "super" hg).1 hfree hn rfl (hin _ _ ho) hd hpar hcc (hin _ _ hoc) hocd hvs (by kernel_rfl) (by kernel_rfl) ?_
 refine uv (v := .type "super") C.ok F hg (by rw [C.hG]; exact mem_of_lookup_some rfl) ⟨rfl, ?_⟩
 refine wpAny_loadName_free (c := 162) (v := .ref 238) R.kind hfree (by show fd.closure.lookup _ = _; rw [hclo]; rfl) ⟨_, hcell, rfl⟩ ?_
 rw [har]
 refine wpAny_loadName_local R.kind (F.ok.ls "self" hl).1 hns hu ?_
 refine ks_wpAny_isType_cls hcls rfl ⟨rfl, ?_⟩
 have H := F.hr
 obtain ⟨hh, g, d, t, oss⟩ := s
 refine ks_wpAny_call_super hcls rfl hga rfl (by intro c e; cases e) (looks_mroIn X (by kernel_rfl)) (fun h' e k' => ?_)
 have hz' : hh.objs.size ≤ h'.objs.size := Nat.le_of_lt (Heap.lt_size e)
 have H' : c.HR ρ os ⟨h', g, d, t, oss⟩ := H.keeps (d := d) (tk := t) H.gi.bare (Nat.le_refl _) k' hz'
 have E' : Ext c.tabs [] ρ ⟨hh, g, d, t, oss⟩ ρ ⟨h', g, d, t, oss⟩ := Ext.keeps (d := d) k' hz'
 refine xg (xm C H' y ha) fun dd' vsA' n' ds' n'' hdn' hga' rv' hgd' DD' I' LLx' => ?_
 refine qhj D e (C.kin H') I' hn hne ?_
 have kp := qf (h := h') (ob := xj T id a)
 have H2 : c.HR ρ os ⟨h'.push (xj T id a), g, d, t + 1, oss⟩ := H'.keeps (d := d) (tk := t + 1) H'.gi.bare (Nat.le_succ _) kp qe
 have E2 : Ext c.tabs [] ρ ⟨hh, g, d, t, oss⟩ ρ ⟨h'.push (xj T id a), g, d, t + 1, oss⟩ := E'.trans (Ext.keeps (d := d) kp qe)
 have hb : (h'.push (xj T id a)).get? h'.objs.size = some (xj T id a) := Heap.get?_push_size _ (by rfl)
 refine xg (xm C H2 y ha) fun dd2 vsA2 n2 ds2 n22 hdn2 hga2 rv2 hgd2 DD2 I2 LLx2 => ?_
 refine cw (by rfl) (wpAny_pure ⟨qll D.T hb, ?_⟩)
 refine qk3 D hb (C.kin H2) I2 (codeAny_mono (hrun _ ρ _ a H2 ha) fun r s' z => ?_)
 rcases r with er | (v | _ | _ | _) <;> first | exact z.elim | exact Post.from E2 z
end
end Mine
end
section
open PySem PySem.W PyProof.Rows PySem.Calls PySem.Spec Builtin Builtin.ObjectAttr
namespace Mine
structure Gro (c : CX) (t : Tab) (s s' : Shared) : Prop where
 keep : ∀ b o, b ≠ t.P → s.heap.get? b = some o → s'.heap.get? b = some o
 tab : ∃ ps more, s.heap.TableAt t.c t.P ps ∧ s'.heap.IsCode t.c t.P (ps ++ more) ∧ s'.heap.TableAt t.c t.P (ps ++ more)
 size : s.heap.objs.size ≤ s'.heap.objs.size
 os : s'.os = s.os
 bare : AllBare s'.gens
 tk : s.toks ≤ s'.toks
section
variable {c : CX} {n : Nat} {os : List AO} {K : AV → List AO → Prop} {e : EF} {loc : Loc} {ρ : List Addr} {s s' s'' : Shared} {t : Tab}
theorem qv5 (G : c.GI s) (ht : t ∈ c.tabs) {t' : Tab} (ht' : t' ∈ c.tabs) : t'.c ≠ t.P := fun q => by
 refine xy ((G.tab t ht).now) fun ps ω z133y ω => ?_; obtain ⟨ω, x⟩ := z133y
 refine xy ((G.tab t' ht').now) fun ps' ω z132y ω => ?_; obtain ⟨⟨o, vs, y, hc, ω⟩, ω⟩ := z132y
 rw [q, x] at y; cases y; cases hc
theorem Gro.gi (C : c.Std) (G : c.GI s) (ht : t ∈ c.tabs) (g : Gro c t s s') : c.GI s' := by
 refine qc g.tab fun ps more t0 t1 t2 => ?_
 have hP : t.P ≠ cStatics := G.lowS.2 t ht
 have hx : Heap.ExtBut t.P s.heap s'.heap := fun b o hb e => g.keep b o hb e
 refine x_ea G.lim fun mc hns hm => ?_
 refine ⟨G.old.step_table (G.tab t ht).at0 t0 t2 hx hP, fun t' ht' => ?_, g.os.trans G.os, g.bare, Nat.le_trans G.size g.size, ⟨mc, hns.at' fun o e => g.keep _ _ hP.symm e, hm⟩, G.lowS, Nat.le_trans G.tk g.tk, fun o e => g.keep _ _ hP.symm (G.stat o e)⟩
 have hmade : t'.made = [] := by
  rw [C.hT] at ht'
  simp only [TABS, List.mem_cons, List.mem_nil_iff, or_false] at ht'
  rcases ht' with rfl | rfl | rfl <;> rfl
 by_cases hq : t' = t
 ·subst hq
  exact ⟨(G.tab t' ht).at0, _, t1, t2, fun m hm => by rw [hmade] at hm; cases hm⟩
 ·have hPP : t'.P ≠ t.P := by
   rw [C.hT] at ht ht'
   simp only [TABS, List.mem_cons, List.mem_nil_iff, or_false] at ht ht'
   rcases ht' with rfl | rfl | rfl <;> rcases ht with rfl | rfl | rfl <;> first | exact absurd rfl hq | decide
  have hcP := qv5 G ht ht'
  refine (G.tab t' ht').step (fun b o e q => g.keep b o ?_ e) fun m hm => by rw [hmade] at hm; cases hm
  rcases q with rfl | rfl
  ·exact hcP
  ·exact hPP
theorem Gro.imm (G : c.GI s) (ht : t ∈ c.tabs) (g : Gro c t s s') : ∀ a o, Imm o → s.heap.get? a = some o → s'.heap.get? a = some o := fun a o hi e => g.keep a o (fun q => by
 subst q
 exact (G.not_tab e (by intro z; refine x_ea hi.cls fun T q ω => ?_; rw [z] at q; cases q)) (List.mem_map_of_mem ht)) e
theorem Gro.hr (C : c.Std) (H : c.HR ρ os s) (ht : t ∈ c.tabs) (g : Gro c t s s') : c.HR ρ os s' := by
 refine ⟨g.gi C H.gi ht, H.len, fun k ao e => ?_, H.nodup, H.fresh⟩
 refine x_ea (H.objs k ao e) fun b e1 z => ?_
 refine (y_ea b e1 (z.imp (List.prefix_refl _) (ImmK.of (g.imm H.gi ht)) fun o e => g.keep b o (fun q => ?_) e))
 exact absurd (H.gi.tab t ht).low.2 (Nat.not_lt.mpr (q ▸ H.fresh b (List.mem_of_getElem? e1)))
theorem Gro.ext (ht : t ∈ c.tabs) (g : Gro c t s s') : Ext c.tabs [] ρ s ρ s' :=
 ⟨List.prefix_refl _, fun b o e ω ω h3 => .inl (g.keep b o (fun q => h3 (q ▸ List.mem_map_of_mem ht)) e), fun ω h h' => absurd h h', g.size⟩
theorem Gro.moved (G : c.GI s) (ht : t ∈ c.tabs) (g : Gro c t s s') {wr : List Addr} {GG : Array GenState → Array GenState → Prop} (m : Moved wr GG s' s'') (hw : ∀ b ∈ wr, s.heap.objs.size ≤ b) (hb : AllBare s''.gens) (hz : s'.heap.objs.size ≤ s''.heap.objs.size) : Gro c t s s'' := by
 refine qc g.tab fun ps more t0 t1 t2 => ?_
 have hc : t.c < s.heap.objs.size := by obtain ⟨⟨o, vs, e, ω⟩, ω⟩ := t0; exact Heap.lt_size e
 have hP : t.P < s.heap.objs.size := Heap.lt_size t0.2
 have k : ∀ b o, b < s.heap.objs.size → s'.heap.get? b = some o → s''.heap.get? b = some o := fun b o hb e => m.heap b o (fun q => absurd hb (Nat.not_lt.mpr (hw b q))) e
 refine ⟨fun b o hb e => k b o (Heap.lt_size e) (g.keep b o hb e), (jk ps more t0 ?_ ?_), Nat.le_trans g.size hz, m.os.trans g.os, hb, Nat.le_trans g.tk m.toks⟩
 ·refine x_e5 t1 fun o vs file tf flags z131y => ?_; clear t1; refine xg z131y fun tg inF text tt op a r1 r2 r3 r4 r5 z134y => ?_; clear z131y; obtain ⟨r6, b, r⟩ := z134y
  exact ⟨o, vs, file, tf, flags, tg, inF, text, tt, op, k _ _ hc a, r1, r2, r3, r4, r5, r6, k _ _ hP b, r⟩
 ·obtain ⟨⟨oc, vs', e1, e2, e3, e4⟩, e5⟩ := t2
  exact ⟨(yn oc vs' (k _ _ hc e1) e2 e3 e4), k _ _ hP e5⟩
theorem qn2 (C : c.Std) (G : c.GI s) (ht : t ∈ c.tabs) {A : Around} {E : Value → Shared → Prop} {env : Env} {pos : Pos} {qn : Str} {sc : Scope} {Q : Value → Shared → Prop} (hc : env.code = .ref t.c)
  (h : ∀ code h' tk, Gro c t s { s with heap := h', toks := tk } → Q code { s with heap := h', toks := tk }) : wpAny (MM c.w) A (genexprCode env pos qn sc) Q E s := by
 refine xy ((G.tab t ht).now) fun ps i1 t1 ω => ?_
 cases hf : codeAmong pos ps.toList with
 | some v => exact wpAny_genexprCode_hit hc i1 hf (h v s.heap s.toks ⟨fun ω ω ω e => e, (jk ps (#[]) t1 (by simpa using i1) (by simpa using t1)), Nat.le_refl _, rfl, G.bare, Nat.le_refl _⟩)
 | none =>
  refine qr (wpAny_genexprCodeX hc i1 t1 hf fun c' h' tk hx hge hlt i2 ω t2 ω htk => h _ h' tk ⟨fun b o hb e => hx b o hb e, (jk ps _ t1 i2 t2), ?_, rfl, G.bare, htk⟩)
  show s.heap.objs.size ≤ h'.objs.size
  lia
theorem qet {w : World} {h : Heap} (X : (KF w.params).In h) {b : Addr} : Looks (MM w) h (builtinsFor mainGlobals b) builtinsNs := by
 unfold builtinsFor
 refine (looks_nsIn (ns := 3) (r := some (.ref 4)) X (by kernel_rfl)).andThen ?_
 show Looks _ _ (load 4 >>= _) _
 exact (Looks.ld (X 4 _ rfl)).andThen .now
noncomputable def IsSq (h : Heap) (l : Addr) (items : Array Value) : Prop := ∃ o n, h.get? l = some o ∧ o.data = .seq items n
theorem IsSq.at {h h' : Heap} {l : Addr} {items : Array Value} (x : IsSq h l items) (k : ∀ o, h.get? l = some o → h'.get? l = some o) : IsSq h' l items := let ⟨o, n, a, b⟩ := x; ⟨o, n, k _ a, b⟩
section
variable {w : World} {A : Around} {E : Value → Shared → Prop} {s : Shared} {it l : Addr} {i : Nat} {items : Array Value}
theorem qua {x : Value} {Q : Option Value → Shared → Prop} (hit : s.heap.IsListIter it l i) (hl : IsSq s.heap l items) (hx : items[i]? = some x)
  (hQ : ∀ h', h'.IsListIter it l (i + 1) → Heap.SameBut it s.heap h' → Q (some x) { s with heap := h' }) : wpAny (MM w) A (pyNext (.ref it)) Q E s := by
 refine xy (id hit) fun o ho hc hd => ?_
 refine q9 hl fun ol nl hol hdl => ?_; clear hl
 unfold pyNext
 refine wpAny_bind (wpAny_attempt (wpAny_callSpecial?_slot (name := Str.ofString "__next__") hit.typeIs slot_listiter_next
  (wpAny_call_entry slot_listiter_next hit.typeIs entry_listiter_next ?_ (args_listiter_next _))))
 show wpAny _ _ (field (.ref it) 0 >>= _) _ _ s
 refine wpAny_bind (wpAny_field ho hd (x := .ref l) rfl ?_)
 show wpAny _ _ (if (Value.ref l == Value.none) = true then _ else _) _ _ s
 rw [if_neg (show ¬ ((Value.ref l == Value.none) = true) from Bool.false_ne_true)]
 show wpAny _ _ (field (.ref it) 1 >>= _) _ _ s
 refine wpAny_bind (wpAny_field ho hd (x := .int i 0) rfl ?_)
 show wpAny _ _ (seqItems? (.ref l) >>= _) _ _ s
 refine wpAny_bind (wpAny_seqItems hol hdl ?_)
 simp only [Int.toNat_natCast, hx]
 refine wpAny_bind (wpAny_setField ho hd (by exact Nat.one_lt_succ_succ [].length) (wpAny_pure (y_ea x rfl (wpAny_pure (hQ _ ?_ (Heap.SameBut.update ..))))))
 exact ⟨_, Heap.get?_update_self _ ho (Obj.isFreed_of_fields (Obj.data_mapFields hd _)), (Obj.cls_mapFields ..).trans hc, by
  rw [Obj.data_mapFields hd]; rfl⟩
theorem qv1 {Q : Option Value → Shared → Prop} (hh : A.handled = none) (hit : s.heap.IsListIter it l i) (hl : IsSq s.heap l items) (hx : items[i]? = none)
  (hQ : ∀ h', Heap.ExtBut it s.heap h' → Q none { s with heap := h' }) : wpAny (MM w) A (pyNext (.ref it)) Q E s := by
 refine xy (id hit) fun o ho hc hd => ?_
 refine q9 hl fun ol nl hol hdl => ?_; clear hl
 unfold pyNext
 refine wpAny_bind (wpAny_attempt (wpAny_callSpecial?_slot (name := Str.ofString "__next__") hit.typeIs slot_listiter_next
  (wpAny_call_entry slot_listiter_next hit.typeIs entry_listiter_next ?_ (args_listiter_next _))))
 show wpAny _ _ (field (.ref it) 0 >>= _) _ _ s
 refine wpAny_bind (wpAny_field ho hd (x := .ref l) rfl ?_)
 show wpAny _ _ (if (Value.ref l == Value.none) = true then _ else _) _ _ s
 rw [if_neg (show ¬ ((Value.ref l == Value.none) = true) from Bool.false_ne_true)]
 show wpAny _ _ (field (.ref it) 1 >>= _) _ _ s
 refine wpAny_bind (wpAny_field ho hd (x := .int i 0) rfl ?_)
 show wpAny _ _ (seqItems? (.ref l) >>= _) _ _ s
 refine wpAny_bind (wpAny_seqItems hol hdl ?_)
 simp only [Int.toNat_natCast, hx]
 refine wpAny_bind (wpAny_rule (wpAny_bind (wpAny_setField ho hd (by exact size_pos_of_not_empty rfl) ?_)))
 show wpAny _ _ (newExc (.type "StopIteration") [] >>= _) _ _ _
 refine wpAny_bind ?_
 simp only [newExc, newTuple]
 refine wpAny_bind (wpAny_newObj_type ?_ (by size_fits))
 refine wpAny_bind (m := firstArgMember _ _) (wpAny_of_eq (a := Value.none) (by first | rfl | (simp only [firstArgMember]; rfl)) ?_)
 refine wpAny_newObj_type ?_ (by size_fits)
 delta raiseNew
 refine wpAny_bind (wpAny_handled ?_)
 rw [show A.in1.handled = none from hh]
 refine wpAny_bind (wpAny_pure (wpAny_throw ?_))
 refine wpAny_bind (wpAny_isInstance (T := "StopIteration") (b := true) ⟨_, Heap.get?_push_size _ rfl, rfl⟩ isSubtype_stop ?_)
 exact wpAny_pure (hQ _ (((Heap.SameBut.update ..).extBut.push _).push _))
theorem qub (L : LL w s.heap l items) {Q : Value → Shared → Prop} (hQ : Q (.ref s.heap.objs.size) { s with heap := s.heap.push { cls := .type "list_iterator", data := .fields #[.ref l, .int 0 0] } }) : wpAny (MM w) A (pyIter (.ref l)) Q E s := by
 have sl : LSlot "list.__iter__" "__iter__" := .of slot_list_iter (.inl (by decide +kernel)) (by rfl)
 unfold pyIter
 refine wpAny_bind ((L.sp (name := "__iter__") (.tail _ (.tail _ (.head _)))).here ?_)
 show wpAny _ A (callSpecialIfBoundUnlessNone? (.ref l) "__iter__" _ >>= _) Q E s
 have go : ∀ refuse, wpAny (MM w) A (callSpecialIfBoundUnlessNone? (.ref l) "__iter__" refuse) (fun r s' => ∃ it, r = some it ∧ s'.TypeIs it "list_iterator" ∧ Q it s') E s := by
  intro refuse
  delta callSpecialIfBoundUnlessNone? bindSpecialIfBound?
  refine wpAny_holding (wpAny_bind (wpAny_bind ((L.sp (name := "__iter__") (.tail _ (.tail _ (.head _)))).here ?_)))
  simp only [sl.bind]
  refine wpAny_bind (wpAny_askSetting (wpAny_ite ?_))
  have fin : wpAny (MM w) A (if (Value.builtin "list.__iter__" == Value.none) = true then (refuse >>= fun v => pure (some v)) else (call (.builtin "list.__iter__") [.ref l] >>= fun v => pure (some v))) (fun r s' => ∃ it, r = some it ∧ s'.TypeIs it "list_iterator" ∧ Q it s') E s := by
   simp only [builtin_beq_none, Bool.false_eq_true, if_false]
   refine wpAny_bind (qnd sl entry_list_iter L.inst (args_list_iter _) ?_)
   show wpAny _ _ (do ret (← newFields "list_iterator" [.ref l, rawInt 0])) _ _ s
   exact wpAny_bind (wpAny_newObj_type (wpAny_pure (y_ea _ rfl (wpAny_pure (wg _ rfl ⟨_, Heap.get?_push_size _ rfl, rfl⟩ hQ)))))
  split
  ·exact wpAny_bind (wpAny_pure (wpAny_pure fin))
  ·exact wpAny_tryCatch (wpAny_bind (wpAny_pure (wpAny_pure fin)))
 refine wpAny_bind (wpAny_mono (go _) (fun r s' z => ?_) fun ω ω z => z)
 refine xy z fun it z130y hT hq => ?_; clear z; subst z130y
 exact wpAny_bind (wpAny_specialOf hT slot_listiter_next.lookup (wpAny_pure hq))
theorem qry (hh : A.handled = none) (I ax : Addr) (hne : ax ≠ I) (items : Array Value) (Ts : Nat → Addr) (vals : Nat → Array Value)
  (hit : ∀ j, j < items.size → items[j]? = some (.ref (Ts j))) (hTI : ∀ j, j < items.size → Ts j ≠ I) :
  WalksU PG w A I (I :: ax :: (List.range items.size).map Ts) [I] items.size (fun j v => v = vals j)
   (fun j h => h.IsListIter I ax j ∧ IsSq h ax items ∧ ∀ k, k < items.size → h.IsTuple (Ts k) (vals k))
   (fun j T h => (j < items.size ∧ T = Ts j) ∧ h.IsListIter I ax (j + 1) ∧ IsSq h ax items ∧ ∀ k, k < items.size → h.IsTuple (Ts k) (vals k)) where
 sub := fun b hb => by simp at hb; simp [hb]
 frame := fun ω ω ω st hk => (y_a2 (st.1.at fun o e => hk I (by exact List.mem_cons_self) o e) (st.2.1.at fun o e => hk ax (by simp) o e) (fun k hk' => (st.2.2 k hk').at fun o e => hk (Ts k) (List.mem_cons_of_mem _ (List.mem_cons_of_mem _ (List.mem_map.mpr (y_ea k (List.mem_range.mpr hk') rfl)))) o e))
 item := fun i s Q E hi st hQ => by
  refine qua st.1 st.2.1 (x := .ref (Ts i)) (hit i hi) fun h' hit' hs' => ?_
  have tup : ∀ k, k < items.size → h'.IsTuple (Ts k) (vals k) := fun k hk' => (st.2.2 k hk').extBut hs'.extBut (hTI k hk')
  exact hQ (Ts i) (vals i) h' s.toks rfl (tup i hi) (y_a3 ⟨hi, rfl⟩ hit' (st.2.1.at fun o e => hs'.extBut _ _ hne e) tup) fun b o hb e => hs'.extBut b o (fun h => hb (by simp [h])) e
 go := fun ω ω ω ω ω s Q ω hm hQ => wpAny_letOwnedTupleGo_listiter hm.2.1 (hQ s.heap hm.2 fun ω ω ω e => e)
 apart := fun j T ω hm hmem => by
  rcases List.mem_cons.mp hmem with e | e
  ·exact hTI j hm.1.1 (hm.1.2 ▸ e)
  ·cases e
 done := fun s Q E st hQ => qv1 hh st.1 st.2.1 (by exact Array.getElem?_size) fun h' he' => hQ h' s.toks fun b o hb e => he' b o (fun h => hb (by simp [h])) e
 self := fun ω ω ω ω st hQ => wpAny_pyIter_listiter st.1 hQ
end
end
end Mine
end
section
open PySem PySem.W PyProof.Rows PySem.Calls PySem.Spec Builtin Builtin.ObjectAttr
namespace Mine
noncomputable abbrev accE : List (Str × AV) := [("_initial_size", .int 0)]
noncomputable abbrev prs (xs : List (List Nat × List Nat)) : List AV := xs.map fun p => .tup [.str (S p.1), .str (S p.2)]
section
variable {c : CX} {n : Nat} {os : List AO} {K : AV → List AO → Prop} {e : EF} {loc : Loc} {ρ : List Addr} {s s' s'' : Shared} {t : Tab}
theorem qt1 {h : Heap} {xs : List (List Nat × List Nat)} {vs : List Value} (r : VRs ρ h (prs xs) vs) (j : Nat) (hj : j < xs.length) : ∃ a u v, vs[j]? = some (.ref a) ∧ h.get? a = some (xn [.str (S xs[j].1) u, .str (S xs[j].2) v]) := by
 refine x_ea (r.get (n := j) (x := .tup [.str (S xs[j].1), .str (S xs[j].2)]) (by simp [hj])) fun v hv z135y => ?_; refine xx z135y fun a ws z136y ha ω z137y => ?_; clear z135y; subst z136y; obtain ⟨x, r1, rfl, ⟨u, rfl⟩, y, r2, rfl, ⟨u', rfl⟩, hr⟩ := z137y
 obtain rfl : r2 = [] := hr
 exact (qi7 a u u' hv ha)
theorem yg (n : Nat) : passing (fun ω => true) n 0 = List.range n := by unfold passing; exact filter_allG (List.drop 0 (List.range n))
theorem qn3 (C : c.Std) (ht : t ∈ c.tabs) {A : Around} (hA : AR A n) (F : FR c e loc os ρ s) (hcode : e.env.code = .ref t.c) {k dn : Nat} {es : List (Str × AV)} {xs : List (List Nat × List Nat)} (y : AccAt os k dn es (prs xs))
  {xa xb xi : Str} {pa pb pt pi pos : Pos} {kt : Nat} {elt : Expr} {scope : Scope} {cl : List (Str × Addr)} (hself : LkAt e.ls loc xi (.ref k))
  (hco : scope.isCoroutine = false) (hclos : closureFor scope e.env = pure cl) (hcell : ∀ y ∈ scope.names, y.2 ≠ .cell) (h0 : scope.names.lookup (".0" : Str) = some NameKind.local)
  (hxa : scope.names.lookup xa = some .local) (hxb : scope.names.lookup xb = some .local) (hab : xa ≠ xb) (hkind : scope.kind = .function) (Fv : Nat → Value → Prop)
  (hel : ∀ (CC : Addr) (code : Value) A' E' i va vb (s₂ : Shared) m₂, A'.handled = none → (∃ (hi : i < xs.length) (u v : Tok), va = .str (S xs[i].1) u ∧ vb = .str (S xs[i].2) v) → s₂.heap.Ns CC m₂ → m₂ xa = some va → m₂ xb = some vb →
   (∀ b o, b ≠ t.P → s.heap.get? b = some o → s₂.heap.get? b = some o) → wpAny (MM c.w) A' (eval elt (genEnv scope cl CC code builtinsNs e.env)) (fun y s₃ => Fv i y ∧ Keeps s₂ s₃) E' s₂)
  {Q : Value → Shared → Prop} (hQ : ∀ a fp wr g St s', Gro c t s s' → WalksS PG c.w A.in4 a fp wr (GenOnlyQ g) xs.length Fv St → St 0 s' → (∀ i s', St i s' → s'.TypeIs (.ref a) "generator") → a ∈ fp →
   (∀ b ∈ fp, b < s'.heap.objs.size) → (∀ b ∈ wr, s.heap.objs.size ≤ b) → Q (.ref a) s') :
  wpAny (MM c.w) A (eval (.GeneratorExp elt [⟨.Tuple [.Name xa pa, .Name xb pb] kt pt, .Name xi pi, [], 0⟩] scope pos) e.env) Q NoE s := by
 refine x_ea F.ns fun m hn hm => ?_
 obtain ⟨hl, v, hv, a, ha, rfl⟩ := hself.get hm
 refine xg (xm C F.hr y ha) fun d vs m1 ds m2 hdn hg rv hgd D I L => ?_
 have hlen := rv.length
 simp only [List.length_map] at hlen
 have room : A.depth < recursionLimit := by have := hA.depth; show A.depth < 1000; lia
 have lim := F.hr.gi.lim
 refine qr (wpAny_GeneratorExp_walksQT hA.hd hco hclos hcell h0 hxa hxb hab hkind room (wpAny_Name (wpAny_loadName_local F.ok.kind (F.ok.ls xi hl).1 hn hv ?_) (F.ok.ls xi hl).2) (fun x => by rfl))
 refine qub L ?_
 have kp := qf (h := s.heap) (ob := { cls := .type "list_iterator", data := .fields #[.ref a, .int 0 0] })
 refine ⟨lim.push _, ?_⟩
 have H1 : c.HR ρ os { s with heap := s.heap.push { cls := .type "list_iterator", data := .fields #[.ref a, .int 0 0] } } := F.hr.keeps (d := s.drawn) (tk := s.toks) F.hr.gi.bare (Nat.le_refl _) kp qe
 refine qn2 C H1.gi ht hcode fun code h' tk g1 => ?_
 have H2 := g1.hr C H1 ht
 rw [F.ok.glob]
 refine (qet (C.kin H2)).here ?_
 let sz := s.heap.objs.size
 have hal : a < sz := Heap.lt_size hg
 have hPlt : t.P < c.B.heap.objs.size := (H1.gi.tab t ht).low.2
 have hit0 : h'.IsListIter sz a 0 := by
  refine ⟨_, g1.keep sz _ ?_ (Heap.get?_push_size _ rfl), rfl, rfl⟩
  intro q; have : sz < c.B.heap.objs.size := q ▸ hPlt
  exact absurd this (Nat.not_lt.mpr F.hr.gi.size)
 have up : ∀ b o, b ≠ t.P → s.heap.get? b = some o → h'.get? b = some o := fun b o hb e => g1.keep b o hb (kp b o e)
 have haP : a ≠ t.P := fun q => absurd (q ▸ hPlt : a < c.B.heap.objs.size) (Nat.not_lt.mpr (F.hr.fresh a (List.mem_of_getElem? ha)))
 have tupNe : ∀ b vs', s.heap.get? b = some (xn vs') → b ≠ t.P := fun b vs' eb q => by
  subst q
  exact F.hr.gi.not_tab eb (by exact not_eq_of_beq_eq_false rfl) (List.mem_map_of_mem ht)
 have hT : ∀ j, j < xs.length → ∃ a u v, vs[j]? = some (.ref a) ∧ s.heap.get? a = some (xn [.str (S (xs[j]!).1) u, .str (S (xs[j]!).2) v]) := fun j hj => by
  refine wf (qt1 rv j hj) fun a u v e1 e2 => ?_
  exact (qi7 a u v e1 (by simpa [hj] using e2))
 let Ts : Nat → Addr := fun j => if hj : j < xs.length then (hT j hj).choose else 0
 let vals : Nat → Array Value := fun j => if hj : j < xs.length then #[.str (S (xs[j]!).1) (hT j hj).choose_spec.choose, .str (S (xs[j]!).2) (hT j hj).choose_spec.choose_spec.choose] else #[.none, .none]
 have hsz : vs.toArray.size = xs.length := by assumption
 have hTs : ∀ j (hj : j < xs.length), vs[j]? = some (.ref (Ts j)) ∧ s.heap.get? (Ts j) = some (xn (vals j).toList) := fun j hj => by
  have := (hT j hj).choose_spec.choose_spec.choose_spec
  simp only [Ts, vals, dif_pos hj]
  exact this
 refine (y_e4 sz _ [sz] vs.toArray.size (y_e4 _ _ _ (fun ω => true) (qar Fv rfl (fun A' hA' => (qry (w := c.w) hA' sz a (Nat.ne_of_lt hal) vs.toArray Ts vals (fun j hj => by simpa using (hTs j (by exact Nat.lt_of_lt_of_eq hj hlen)).1) (fun j hj => Nat.ne_of_lt (Heap.lt_size (hTs j (by exact Nat.lt_of_lt_of_eq hj hlen)).2))).bound) ?_ (y_a5 ?_ ?_ ?_ ?_ ?_ ?_))))
 ·rintro i v q74x; obtain ⟨hi, rfl⟩ := q74x
  have hi' : i < xs.length := by exact Nat.lt_of_lt_of_eq hi hlen
  simp only [vals, dif_pos hi']
  exact (y_e2 _ _ rfl)
 ·exact (y_a2 hit0 ⟨_, _, up _ _ haP hg, rfl⟩ (fun j hj => ⟨_, up _ _ (tupNe _ _ (hTs j (by exact Nat.lt_of_lt_of_eq hj hlen)).2) (hTs j (by exact Nat.lt_of_lt_of_eq hj hlen)).2, rfl, 0, by simp⟩))
 ·intro b hb
  have hs' : s.heap.objs.size + 1 ≤ h'.objs.size := by
   have := g1.size; simpa [Heap.size_push] using this
  rcases List.mem_cons.mp hb with rfl | hb
  ·exact hs'
  ·rcases List.mem_cons.mp hb with rfl | hb
   ·exact Nat.lt_of_lt_of_le hal (Nat.le_trans (Nat.le_succ _) hs')
   ·refine x_ea (List.mem_map.mp hb) fun j hj z134y => ?_; subst z134y
    exact Nat.lt_of_lt_of_le (Heap.lt_size (hTs j (by have := List.mem_range.mp hj; exact Nat.lt_of_lt_of_eq this hlen)).2) (Nat.le_trans (Nat.le_succ _) hs')
 ·exact H2.gi.lim
 ·intro q
  simp at q
  have : cStatics < c.B.heap.objs.size := H2.gi.lowS.1
  have h3 := F.hr.gi.size
  exact absurd (q ▸ this : sz < c.B.heap.objs.size) (Nat.not_lt.mpr h3)
 ·intro href hhref
  refine ⟨fun A' E' i va vb s₂ m₂ hA' hP hn₂ hma hmb hk => ?_, fun A' E' i va vb s₂ m₂ hA' hP hpz hn₂ hma hmb hk => ?_⟩
  ·rw [List.forIn_nil]
   exact wpAny_pure ⟨rfl, s₂.heap, s₂.toks, rfl, fun ω ω e => e⟩
  ·obtain ⟨hi, hvals⟩ := hP
   have hi' : i < xs.length := by exact Nat.lt_of_lt_of_eq hi hlen
   refine hel _ _ A' E' i va vb s₂ m₂ hA' ?_ hn₂ hma hmb fun b o hb e => ?_
   ·simp only [vals, dif_pos hi'] at hvals
    injection hvals with hv
    injection hv with h1 h2
    injection h2 with h2 _
    exact ⟨hi', (hT i hi').choose_spec.choose, (hT i hi').choose_spec.choose_spec.choose, by rw [h1]; simp [hi'], by rw [h2]; simp [hi']⟩
   ·have e1 := up b o hb e
    refine hk b (List.mem_range.mpr (Heap.lt_size e1)) (fun q => ?_) o (hhref b o e1)
    simp at q; subst q
    exact absurd (Heap.lt_size e) (Nat.lt_irrefl _)
 ·intro g h₅ tk₅ gs hb hlt hz5 k5 W St
  rw [hsz] at W St
  have W' := W.imp (P' := Fv) fun j v hv => by
   refine x_ea hv fun i hi hf => ?_; clear hv
   rw [yg] at hi
   have := List.getElem?_eq_some_iff.mp hi
   simp at this
   exact this.2 ▸ hf
  rw [yg, List.length_range] at W'
  have gA : Gro c t s ⟨h', s.gens, s.drawn, tk, s.os⟩ := by
   refine qc g1.tab fun ps more t0 t1 t2 => ?_
   have hPl : t.P < s.heap.objs.size := Nat.lt_of_lt_of_le hPlt F.hr.gi.size
   have hcl : t.c < s.heap.objs.size := Nat.lt_of_lt_of_le (H1.gi.tab t ht).low.1 F.hr.gi.size
   refine xy ((F.hr.gi.tab t ht).now) fun ps0 i0 t00 ω => ?_
   have : ps0 = ps := by
    have h1 := kp _ _ t00.2
    rw [t0.2] at h1; injection h1 with h1; injection h1 with _ _ h1; injection h1 with h1; exact h1.symm
   subst this
   exact ⟨up, (jk ps0 more t00 t1 t2), Nat.le_trans qe g1.size, rfl, F.hr.gi.bare, g1.tk⟩
  intro htk
  have hlt' : h'.objs.size < g := hlt
  have hz5' : h₅.objs.size = g + 1 := hz5
  have gB : Gro c t s { s with gens := s.gens.push gs, toks := tk₅, heap := h₅ } := by
   refine qc gA.tab fun ps more t0 t1 t2 => ?_
   exact ⟨fun b o hb' e => k5 _ _ (gA.keep b o hb' e), (jk ps more t0 (t1.keeps k5) (t2.keeps k5)), Nat.le_trans gA.size (by show h'.objs.size ≤ h₅.objs.size; rw [hz5']; exact Nat.le_succ_of_le (Nat.le_of_lt hlt')), rfl, F.hr.gi.bare.push hb, htk⟩
  refine hQ g _ _ _ _ _ gB W' St (fun i s' z => z.1.typeIs) (.head _) ?_ ?_
  ·intro b hb'
   show b < h₅.objs.size
   rw [hz5']
   rcases List.mem_cons.mp hb' with rfl | hb'
   ·exact Nat.lt_succ_self _
   ·rcases List.mem_cons.mp hb' with rfl | hb'
    ·exact Nat.lt_succ_of_lt hlt'
    ·exact Nat.lt_succ_of_lt (Nat.lt_trans (List.mem_range.mp hb' : b < h'.objs.size) hlt')
  ·intro b hb'
   have hs' : s.heap.objs.size + 1 ≤ h'.objs.size := by
    have := g1.size; simpa [Heap.size_push] using this
   rcases List.mem_cons.mp hb' with rfl | hb'
   ·exact Nat.le_trans (Nat.le_succ _) hs'
   ·simp at hb'; subst hb'; exact Nat.le_refl _
end
end Mine
end
section
open PySem PySem.W PyProof.Rows PySem.Calls PySem.Spec Builtin Builtin.ObjectAttr
namespace Mine
section
variable {w : World} {A : Around} {R : Result → Shared → Prop} {h : Heap} {g : Array GenState} {d : Drawn} {t : Nat} {os : OsState}
theorem qtw {v : Value} (X : (KF w.params).In h) (hq : R (.ok (.ret (.ref (h.objs.size + 1)))) ⟨(h.push emptyDict).push (xl 238 h.objs.size [] 0), g, d, t, os⟩) :
  codeAny (MM w) A (.call (.builtin "list.__new__") ⟨[.ref 238, v], []⟩) R ⟨h, g, d, t, os⟩ := by
 have hchk : Looks (MM w) h (checkBuiltinCall "list.__new__" ⟨[.ref 238, v], []⟩) () := Looks.of_peek X (by kernel_rfl)
 refine codeAny_of_tree ?_
 show wpAny _ A.in1 (do checkBuiltinCall "list.__new__" ⟨[.ref 238, v], []⟩; again (.builtin "list.__new__" ⟨[.ref 238, v], []⟩)) _ _ _
 refine wpAny_bind (hchk.at (wpAny_pure ⟨plainId_quiet F.plain_list_new _, codeAny_builtin_stack F.entry_list_new rfl fun p st => ?_⟩))
 rw [Around.under_plainId F.plain_list_new _]
 have hown := owner_list_new
 simp only [hown]
 have l1 : Looks (MM w) h (isType (.ref 238)) true := Looks.of_peek X (by kernel_rfl)
 have l2 : Looks (MM w) h (isSubtype (.ref 238) (.type "list")) true := Looks.of_peek X (by kernel_rfl)
 have l3 : Looks (MM w) h (classHasDel 238) false := Looks.of_peek X (by kernel_rfl)
 have up : ∀ b o, h.get? b = some o → ((h.push emptyDict).push (xl 238 h.objs.size [] 0)).get? b = some o := fun b o e => Heap.get?_push_of_some _ (Heap.get?_push_of_some _ e)
 refine wpAny_bind (l1.at ?_)
 rw [if_neg (by decide)]
 refine wpAny_bind (l2.at ?_)
 rw [if_neg (by decide)]
 refine wpAny_bind (wpAny_pure ?_)
 rw [if_neg (by decide)]
 show wpAny _ _ ((alloc emptyDict >>= fun a => pure (Value.ref a)) >>= _) _ _ _
 refine wpAny_bind (wpAny_bind (wpAny_alloc (wpAny_pure ?_)))
 show wpAny _ _ (newObj _ _ _ >>= _) _ _ _
 refine wpAny_bind (m := newObj (.ref 238) (.seq #[]) (some h.objs.size)) ?_
 delta newObj newObjAsIs
 dsimp only
 rw [if_neg (by decide)]
 refine wpAny_bind (wpAny_alloc ?_)
 dsimp only
 refine wpAny_bind ((l3.keeps (h' := (h.push emptyDict).push (xl 238 h.objs.size [] 0)) up).at ?_)
 rw [if_neg (by exact Bool.false_ne_true)]
 refine wpAny_pure ?_
 show wpAny _ _ (pure _) _ _ _
 refine wpAny_pure ?_
 show R _ _
 rw [Heap.size_push]
 exact hq
theorem qrj {v : Value} (X : (KF w.params).In h)
  (hq : codeAny (MM w) (A.under (.builtin "type.__call__" ⟨[.ref 238, v], []⟩)) (.call (.ref 175) ⟨[.ref (h.objs.size + 1), v], []⟩) (InitBack (h.objs.size + 1) R) ⟨(h.push emptyDict).push (xl 238 h.objs.size [] 0), g, d, t, os⟩) :
  codeAny (MM w) A (.call (.ref 238) ⟨[v], []⟩) R ⟨h, g, d, t, os⟩ := by
 have hC : h.get? 238 = _ := X 238 _ rfl
 have call : Looks (MM w) h (specialOf (.ref 238) "__call__") (some (.builtin "type.__call__")) := Looks.of_peek X (by kernel_rfl)
 have typ : Looks (MM w) h (isInstance (.ref 238) (.type "type")) true := Looks.of_peek X (by kernel_rfl)
 have hm : Looks (MM w) h (mroOf (.ref 238)) [.ref 238, .type "list", .type "object"] := Looks.of_peek X (by kernel_rfl)
 have made : Looks (MM w) h (Bind.madeBy (.ref 238)) (some "list.__new__") := Looks.of_peek X (by kernel_rfl)
 refine codeAny_of_tree ?_
 show wpAny _ _ (callAny (.ref 238) _) _ _ _
 refine nd_load hC ?_
 show wpAny _ _ (callAny.viaDunder (.ref 238) _) _ _ _
 delta callAny.viaDunder
 refine wpAny_bind (call.at ?_)
 dsimp only
 rw [tc_bind]
 refine wpAny_bind (wpAny_pure (wpAny_bind (wpAny_pure ?_)))
 refine wpAny_pure (a := Fin.again (.call (.builtin "type.__call__") ⟨[.ref 238, v], []⟩)) (And.intro rfl ?_)
 refine codeAny_call_builtin_at (Code.quiet_builtin _ (by decide +kernel)) entry_typeCall (check_slot tc_kind tc_split typ (tc_args _ _ _) ?_)
 delta Builtin.«type.__call__»
 repeat (first | rw [if_neg (by exact Bool.false_ne_true)] | with_reducible refine wpAny_call ?_ | lk)
 refine qtw X ?_
 have k : ∀ b o, h.get? b = some o → ((h.push emptyDict).push (xl 238 h.objs.size [] 0)).get? b = some o := fun b o e => Heap.get?_push_of_some _ (Heap.get?_push_of_some _ e)
 have hx : ((h.push emptyDict).push (xl 238 h.objs.size [] 0)).get? (h.objs.size + 1) = some (xl 238 h.objs.size [] 0) := by heap_get
 have X' := X.keeps k
 have t1 : Looks (MM w) ((h.push emptyDict).push (xl 238 h.objs.size [] 0)) (typeOf (.ref (h.objs.size + 1))) (.ref 238) := (Looks.ld hx).andThen .now
 have s1 : Looks (MM w) ((h.push emptyDict).push (xl 238 h.objs.size [] 0)) (isSubtype (.ref 238) (.ref 238)) true := Looks.of_peek X' (by kernel_rfl)
 have i1 : Looks (MM w) ((h.push emptyDict).push (xl 238 h.objs.size [] 0)) (typeLookup (.ref 238) "__init__") (some (.ref 175)) := looks_findIn X' (by kernel_rfl)
 have b1 := bind_fn (M := MM w) (f := 175) X' (.ref (h.objs.size + 1)) (by kernel_rfl)
 dsimp only
 delta isInstance callSpecial? specialOf
 repeat (first | with_reducible refine wpAny_call ?_ | lk)
 refine codeAny_mono hq fun r s' z => ?_
 rcases r with e | (v | _ | _ | _) <;> first | exact z | exact z.elim | skip
 obtain ⟨rfl, z⟩ := z
 exact wpAny_pure (wpAny_pure z)
end
end Mine
end
section
open PySem PySem.W PyProof.Rows PySem.Calls PySem.Spec Builtin Builtin.ObjectAttr
namespace Mine
mutual
inductive AVD (os : List AO) : AV → PyData → Prop
 | str (x : Str) : AVD os (.str x) (.str x)
 | tup {xs : List AV} {ds : List PyData} (h : AVDs os xs ds) : AVD os (.tup xs) (.tuple ds)
 | ref {k : Nat} {xs : List AV} {ds : List PyData} (hk : os[k]? = some (.list xs)) (h : AVDs os xs ds) : AVD os (.ref k) (.list ds)
inductive AVDs (os : List AO) : List AV → List PyData → Prop
 | nil : AVDs os [] []
 | cons {x : AV} {d : PyData} {xs : List AV} {ds : List PyData} (h : AVD os x d) (t : AVDs os xs ds) : AVDs os (x :: xs) (d :: ds)
end
section
variable {c : CX} {n : Nat} {os : List AO} {K : AV → List AO → Prop} {ρ : List Addr} {s : Shared}
mutual
theorem AVD.reads (H : c.HR ρ os s) : ∀ {a : AV} {d : PyData} {v : Value}, AVD os a d → VR ρ s.heap a v → ∃ as, Reads s.heap v d as
 | _, _, _, .str x, r => by obtain ⟨t, rfl⟩ := r; exact ⟨_, .str x t⟩
 | _, _, _, .tup h, r => by
  refine xx r fun a vs z101y e ω rs => ?_; clear r; subst z101y
  obtain ⟨as, z⟩ := AVDs.reads H h rs
  exact ⟨_, .tuple e rfl rfl (by simpa using z)⟩
 | _, _, _, .ref hk h, r => by
  refine x_ea r fun a ha z100y => ?_; clear r; subst z100y
  refine x_ea (qq H hk ha) fun vs e rs => ?_
  refine zh e.ex fun o ho hc hdi z99y => ?_; obtain ⟨m, hd⟩ := z99y
  obtain ⟨as, z⟩ := AVDs.reads H h rs
  exact ⟨_, .list ho hc hd (by simpa using z)⟩
theorem AVDs.reads (H : c.HR ρ os s) : ∀ {as : List AV} {ds : List PyData} {vs : List Value}, AVDs os as ds → VRs ρ s.heap as vs → ∃ ad, ReadsAll s.heap vs ds ad
 | _, _, _, .nil, r => by obtain rfl := r; exact ⟨_, .nil⟩
 | _, _, _, .cons h t, r => by
  refine qc r fun v vs z98y r1 r2 => ?_; clear r; subst z98y
  obtain ⟨a1, z1⟩ := AVD.reads H h r1
  obtain ⟨a2, z2⟩ := AVDs.reads H t r2
  exact ⟨_, .cons z1 z2⟩
end
theorem qm2 {a b : AV} {x y : PyData} (hx : AVD os a x) (hy : AVD os b y) (sx : SeqAt.shaped x = true) (sy : SeqAt.shaped y = true) (h : K (.bool (PyData.eqv x y)) os) : TV2 c n (compareOp .Eq) a b os K := fun A hA ρ s v u H hv hu => by
 obtain ⟨as, ra⟩ := hx.reads H hv
 obtain ⟨bs, rb⟩ := hy.reads H hu
 have := hA.units
 exact eq_dataH ra rb sx sy (by have : cLine = 9900 := rfl; lia) (Post.now H h rfl)
theorem uh {a b : AV} {x y : PyData} (hx : AVD os a x) (hy : AVD os b y) (sx : SeqAt.shaped x = true) (sy : SeqAt.shaped y = true) (h : K (.bool (!PyData.eqv x y)) os) : TV2 c n (compareOp .NotEq) a b os K := fun A hA ρ s v u H hv hu => by
 obtain ⟨as, ra⟩ := hx.reads H hv
 obtain ⟨bs, rb⟩ := hy.reads H hu
 have := hA.units
 exact ne_dataH ra rb sx sy (by have : cLine = 9900 := rfl; lia) (Post.now H h rfl)
noncomputable abbrev sld (xs : List (List Nat)) : List PyData := xs.map fun s => .str (S s)
theorem qao : ∀ (xs : List (List Nat)), AVDs os (sls xs) (sld xs)
 | [] => .nil
 | x :: xs => .cons (.str _) (qao xs)
noncomputable def asc (xs : List Nat) : Prop := ∀ x ∈ xs, x < 128
theorem qi3 {l : List Nat} (h : asc l) : PyData.strOk (S l) = true := by
 unfold PyData.strOk S
 rw [Array.all_eq_true']
 intro x hx
 have := h x (by simpa using hx)
 simp; lia
theorem qad : ∀ {xs : List (List Nat)}, (∀ x ∈ xs, asc x) → PyData.canLayAll0 (sld xs) = true ∧ PyData.depthAll (sld xs) = 0
 | [], _ => ⟨rfl, rfl⟩
 | x :: xs, h => by
  have ih := qad fun y hy => h y (.tail _ hy)
  simp only [sld, List.map_cons, PyData.canLayAll0, PyData.canLay0, PyData.depthAll, PyData.depth]
  exact ⟨by rw [qi3 (h x (.head _))]; simpa [sld] using ih.1, by simpa [sld] using ih.2⟩
theorem qan {xs : List (List Nat)} (h : ∀ x ∈ xs, asc x) : SeqAt.shaped (.list (sld xs)) = true := by
 obtain ⟨a, b⟩ := qad h
 unfold SeqAt.shaped
 simp only [PyData.canLay0, PyData.depth, a, b]; rfl
theorem qeh : ∀ (xs ys : List (List Nat)), PyData.eqvAll (sld xs) (sld ys) = (xs == ys)
 | [], [] => rfl
 | [], _ :: _ => rfl
 | _ :: _, [] => rfl
 | x :: xs, y :: ys => by
  simp only [sld, List.map_cons, PyData.eqvAll, PyData.eqv]
  have := qeh xs ys
  simp only [sld] at this
  rw [this, qfz]; rfl
end
end Mine
end
section
open PySem PySem.W PyProof.Rows PySem.Calls PySem.Spec Builtin Builtin.ObjectAttr
namespace Mine
theorem qgj {w : World} {A : Around} {E : Value → Shared → Prop} {s : Shared} {f x C : Addr} {o : Obj} {Q : Value → Shared → Prop} (hf : s.heap.get? f = some o) (hc : o.cls = .type "function")
  (h : Q (.ref s.heap.objs.size) { s with heap := s.heap.push (methodObj (.ref f) (.ref x)) }) : wpAny (MM w) A (call (.builtin "function.__get__") [.ref f, .ref x, .ref C]) Q E s := by
 obtain ⟨hh, g, d, t, os⟩ := s
 refine wpAny_call_entry F.ks_slot_function_get ⟨_, hf, hc⟩ F.ks_entry_function_get ?_ (F.ks_getArgs_function _ _ _)
 delta Builtin.«function.__get__»
 repeat (first | wp_step)
 all_goals exact (y_ea _ rfl h)
theorem qq8 {w : World} {A : Around} {E : Value → Shared → Prop} {s : Shared} {x f : Addr} {ox o : Obj} {od : Option Obj} {name : Str} {Q : Value → Shared → Prop} (X : (KF w.params).In s.heap) (I : InstAt s.heap x ox 238 od)
  (hf : findObj (KF w.params) 238 od name = some (.bind (.builtin "function.__get__") (.ref f))) (ho : s.heap.get? f = some o) (hc : o.cls = .type "function") (h : Q (.ref s.heap.objs.size) { s with heap := s.heap.push (methodObj (.ref f) (.ref x)), toks := s.toks + 1 }) :
  wpAny (MM w) A (getAttr (.ref x) name true) Q E s := by
 obtain ⟨hp, g, d, t, os⟩ := s
 have L0 := I.type (M := MM w)
 have L1 := looks_findIn (M := MM w) (r := some (.builtin "list.__getattribute__")) (t := .ref 238) (name := "__getattribute__") X (by kernel_rfl)
 have L2 := looks_findIn (M := MM w) (r := none) (t := .ref 238) (name := "__getattr__") X (by kernel_rfl)
 delta getAttr getAttrBy
 refine wpAny_bind (wpAny_mkText (wpAny_holding (wpAny_bind (L0.at (wpAny_bind (L1.at ?_))))))
 show wpAny _ _ (getAttrByItsOwn _ _ _ _ _ _) _ _ _
 delta getAttrByItsOwn hookBefore
 refine wpAny_bind (L2.at ?_)
 refine wpAny_bind (wpAny_attempt (wpAny_holding ?_))
 show wpAny _ _ (boundAndCalled _ _ _) _ _ _
 delta boundAndCalled
 rw [F.slot_list_getattribute.bind]
 refine wpAny_bind (wpAny_pure ?_)
 refine wpAny_mono (qnd (Q := fun r s' => r = .ref hp.objs.size ∧ s' = ⟨hp.push (methodObj (.ref f) (.ref x)), g, d, t + 1, os⟩) (E := fun ω ω => False) qvl am_entry_list_getattribute (I.type.andThen (looks_mroIn X (by kernel_rfl))) (F.args_list_getattribute_2 _ _) ?_) (fun r s' z => ?_) fun ω ω z => z.elim
 ·refine wpAny_bind (wpAny_pure (wpAny_bind (wpAny_pure (wpAny_bind (L0.at (wpAny_bind ((looks_find X I hf).at ?_)))))))
  show wpAny _ _ (Builtin.ObjectAttr.bindTo _ _ _ _) _ _ _
  delta Builtin.ObjectAttr.bindTo
  exact wpAny_bind (wpAny_holding (qgj ho hc (wpAny_pure (wg _ rfl rfl rfl))))
 ·obtain ⟨rfl, rfl⟩ := z
  show wpAny _ _ (handedOut _) _ _ _
  rw [handedOut_of (by rfl)]; exact wpAny_pure h
section
variable {c : CX} {n : Nat} {os : List AO} {K : AV → List AO → Prop} {e : EF} {loc : Loc} {ρ : List Addr} {s : Shared}
theorem qhy (C : c.Std) {o x : Expr} {sp ap p : Pos} (h : EV c n e loc os o fun a os1 => ∃ k dn xs, a = .ref k ∧ AccAt os1 k dn accE xs ∧ EV c n e loc os1 x fun b os2 => ∃ ys, b = .tup ys ∧ ys.length ≤ 100 ∧ CGc c n (.ref 182) (.ref k :: ys) os2 K)
  (he : ∀ env, eval (.Call (.Attribute o "push" ap) [.Starred x sp] [] p) env = (do
   let ov ← eval o env
   standAt ap.atName
   let (f, first) ← holding [ov] (do pure (← getAttr ov "push" true, []))
   callWith p f first (backTo p (starEach [.Starred x sp] env)) (backToKw p (keywordEach [] env))) := by intro ω; rfl) :
  EV c n e loc os (.Call (.Attribute o "push" ap) [.Starred x sp] [] p) K := fun A hA ρ s F => by
 rw [he]
 refine wpAny_bind (qi (h A hA ρ s F) fun vo s1 z0q os1 ρ1 z3q H1 E1 z6q => ?_)
 refine qw z3q fun k dn xs z105y y k1 => ?_; clear z3q; subst z105y
 refine x_ea z6q fun a ha z104y => ?_; clear z6q; subst z104y
 refine wpAny_bind (wpAny_standAt (wpAny_bind (wpAny_holding (wpAny_bind ?_))))
 refine xg (xm C H1 y ha) fun d vs m ds m' hdn hg rv hgd D I L => ?_
 have X := C.kin H1
 have hl := (D.look (name := "push") (n := m')).2 (by rfl)
 have hfo : findObj (KF c.w.params) 238 (some (xk ds m')) "push" = some (.bind (.builtin "function.__get__") (.ref 182)) := by
  delta findObj
  rw [show clsIn (KF c.w.params) 238 = some _ from rfl, Option.bind_some, show findIn (KF c.w.params) (.ref 238) "push" = some (some (.ref 182)) from by kernel_rfl, Option.bind_some]
  show (specialIn (KF c.w.params) (.ref 182) "__get__").bind _ = _
  rw [show specialIn (KF c.w.params) (.ref 182) "__get__" = some (some (.builtin "function.__get__")) from by kernel_rfl, Option.bind_some]
  show (takesIn (KF c.w.params) (.ref 182)).bind _ = _
  rw [show takesIn (KF c.w.params) (.ref 182) = some false from by kernel_rfl, Option.bind_some]
  show (W.ownOf _ _ "push").bind _ = _
  delta W.ownOf
  rw [if_pos rfl]
  show (lookIn "push" _).bind _ = _
  rw [hl]; rfl
 refine qq8 X I hfo (X 182 _ rfl) rfl (wpAny_pure ?_)
 have kp := qf (h := s1.heap) (ob := methodObj (.ref 182) (.ref a))
 have H2 : c.HR ρ1 os1 { s1 with heap := s1.heap.push (methodObj (.ref 182) (.ref a)), toks := s1.toks + 1 } := H1.keeps (d := s1.drawn) H1.gi.bare (Nat.le_succ _) kp qe
 have E2 : Ext c.tabs [] ρ s ρ1 { s1 with heap := s1.heap.push (methodObj (.ref 182) (.ref a)), toks := s1.toks + 1 } := E1.trans (Ext.keeps (d := s1.drawn) kp qe)
 have hb : (s1.heap.push (methodObj (.ref 182) (.ref a))).get? s1.heap.objs.size = some (methodObj (.ref 182) (.ref a)) := Heap.get?_push_size _ rfl
 have hbr : s1.heap.objs.size ∉ ρ1 := fun q => absurd (H1.lt q) (Nat.lt_irrefl _)
 show wpAny _ _ (callWith p _ [] (backTo p (starEach [.Starred x sp] e.env)) []) _ _ _
 refine ks_call (P := MethP (KF c.w.params) s1.heap.objs.size 182 (.ref a)) rfl (keeps_M (by kernel_rfl)) (ks_lone ?_)
 refine qi (k1 A hA ρ1 _ (F.ext E2 H2)) fun vt s3 z0q os3 ρ3 z3q H3 E3 z6q => ?_
 refine xy z3q fun ys z103y hys k3 => ?_; clear z3q; subst z103y
 refine xx z6q fun t ws z102y ht ω rw3 => ?_; clear z6q; subst z102y
 have hb3 : s3.heap.get? s1.heap.objs.size = some (methodObj (.ref 182) (.ref a)) := by
  refine (E3.keep _ _ hb hbr (fun z => nomatch z) (fun q => ?_)).of (fun es ep z => by cases z)
  refine x_ea (List.mem_map.mp q) fun tb htb e => ?_
  exact absurd (H1.gi.tab tb htb).low.2 (by rw [e]; exact Nat.not_lt.mpr H1.gi.size)
 have hlen := rw3.length
 have hsl : sizeLine = 16777216 := rfl
 have hT' : s3.TypeIs (.ref t) "tuple" := ⟨_, ht, rfl⟩
 delta StarOf notIterableAtAll
 refine wpAny_bind (wpAny_specialOf hT' PySem.F.slot_tuple_iter.lookup (wpAny_pure ⟨rfl, ?_⟩))
 refine q6 (wpAny_collect_seq t (.inr rfl) ht rfl rfl (fun h' hk hz => ?_) (by simp; lia))
 have H4 : c.HR ρ3 os3 { s3 with heap := h' } := H3.keeps (d := s3.drawn) (tk := s3.toks) H3.gi.bare (Nat.le_refl _) hk hz
 have E4 : Ext c.tabs [] ρ s ρ3 { s3 with heap := h' } := (E2.trans E3).trans (Ext.keeps (d := s3.drawn) hk hz)
 refine ⟨⟨hk _ _ hb3, C.kin H4⟩, wpAny_call (ks_codeAny_call_bound (hk _ _ hb3) (codeAny_mono (k3 A hA ρ3 _ (.ref a :: ws) H4 ⟨_, _, rfl, ⟨a, yb E3.pre ha, rfl⟩, y0 (List.prefix_refl _) hk rw3⟩) fun r s' z => ?_))⟩
 rcases r with er | (v | _ | _ | _) <;> first | exact z.elim | exact Post.from E4 z
end
end Mine
end
section
open PySem PySem.W PyProof.Rows PySem.Calls PySem.Spec Builtin Builtin.ObjectAttr
namespace Mine
section
variable {c : CX} {n : Nat} {os : List AO} {K : AV → List AO → Prop} {e : EF} {loc : Loc} {ρ : List Addr} {s : Shared}
theorem Post.rng {a b st : Int} {t u v : Tok} {tk : Nat} (H : c.HR ρ os s) (ht : s.toks ≤ tk) (h : K (.rng a b st) os) : Post c ρ s K (.ref s.heap.objs.size) { s with heap := s.heap.push (qkh a b st t u v), toks := tk } := by
 have kp := qf (h := s.heap) (ob := qkh a b st t u v)
 exact ⟨_, os, ρ, h, H.keeps (d := s.drawn) (tk := tk) H.gi.bare ht kp qe, Ext.keeps kp qe, s.heap.objs.size, t, u, v, rfl, Heap.get?_push_size _ rfl⟩
theorem qjj {a b st : Int} (hc : st ≠ 0) (hs : st.natAbs < 1073741824) (h : K (.rng a b st) os) : CG c n (.type "range") [.int a, .int b, .int st] os K := fun A hA ρ s vs H V => by
 refine q9 (wo V) fun t r z110y V1 => ?_; subst z110y
 refine q9 (wo V1) fun u r z109y V2 => ?_; subst z109y
 refine q9 (wo V2) fun v r z108y V3 => ?_; subst z108y
 obtain rfl := q0 V3
 exact call_range_3 hc (Post.rng (tk := s.toks) H (Nat.le_refl _) h) (.inl (PyProof.noPylong_small hs))
theorem qqd {a b : Int} (h : K (.rng a b 1) os) : CG c n (.type "range") [.int a, .int b] os K := fun A hA ρ s vs H V => by
 refine q9 (wo V) fun t r z107y V1 => ?_; subst z107y
 refine q9 (wo V1) fun u r z106y V2 => ?_; subst z106y
 obtain rfl := q0 V2
 exact call_range_2 (Post.rng (tk := s.toks + 1) H (Nat.le_succ _) h)
theorem ql7 {a : Int} (h0 : -1 ≤ a) (h1 : a ≤ 1000000) : Builtin.Range.small a 0 (-1) = true := by
 unfold Builtin.Range.small Builtin.Range.rangeSize
 simp [Builtin.Range.rangeFitsLong]
 split <;> lia
theorem qpj {a : Int} : Builtin.Range.rangeSize a 0 (-1) = if 0 < a then a else 0 := by
 unfold Builtin.Range.rangeSize
 simp
end
end Mine
end
section
open PySem PySem.W PyProof.Rows PySem.Calls PySem.Spec
namespace Mine
noncomputable def es52 : Array DictEntry := #[⟨40, (.int (40) 341), (.str "\\(" 345)⟩, ⟨41, (.int (41) 347), (.str "\\)" 351)⟩, ⟨91, (.int (91) 353), (.str "\\[" 357)⟩, ⟨93, (.int (93) 359), (.str "\\]" 363)⟩, ⟨123, (.int (123) 365), (.str "\\{" 369)⟩, ⟨125, (.int (125) 371), (.str "\\}" 375)⟩, ⟨63, (.int (63) 377), (.str "\\?" 381)⟩, ⟨42, (.int (42) 383), (.str "\\*" 387)⟩, ⟨43, (.int (43) 389), (.str "\\+" 393)⟩, ⟨45, (.int (45) 395), (.str "\\-" 399)⟩, ⟨124, (.int (124) 401), (.str "\\|" 405)⟩, ⟨94, (.int (94) 407), (.str "\\^" 411)⟩, ⟨36, (.int (36) 413), (.str "\\$" 417)⟩, ⟨92, (.int (92) 419), (.str "\\\\" 423)⟩, ⟨46, (.int (46) 425), (.str "\\." 429)⟩, ⟨38, (.int (38) 431), (.str "\\&" 435)⟩, ⟨126, (.int (126) 437), (.str "\\~" 441)⟩, ⟨35, (.int (35) 443), (.str "\\#" 447)⟩, ⟨32, (.int (32) 449), (.str "\\ " 453)⟩, ⟨9, (.int (9) 455), (.str "\\\t" 459)⟩, ⟨10, (.int (10) 461), (.str "\\\n" 465)⟩, ⟨13, (.int (13) 467), (.str "\\\x0d" 471)⟩, ⟨11, (.int (11) 473), (.str "\\\x0b" 477)⟩, ⟨12, (.int (12) 479), (.str "\\\x0c" 483)⟩]
theorem KF52 (P : Params) : (KF P).lookup 52 = some { cls := .type "dict", data := .dict es52 24 } := by kernel_rfl
theorem qvh (w : World) : KeysOf (intKind PG w) es52 := by
 have h : ∀ e ∈ es52.toList, ∃ k : Int, Value.isInt k e.key = true ∧ e.hash = hashInt k := by
  have h2 : es52.toList.all (fun e => match e.key with | .int k _ => e.hash == hashInt k | _ => false) = true := by decide +kernel
  intro e he
  have := List.all_eq_true.mp h2 e he
  cases hk : e.key with
  | int k t => rw [hk] at this; exact (y_ea k (by exact isInt_self k t) (by simpa using this))
  | _ => rw [hk] at this; simp at this
 intro e he
 exact h e (by exact he.val)
noncomputable def vq (ch : Nat) : Prop := ch ∈ [97, 98, 99, 101, 102, 103, 104, 59, 44]
noncomputable def qaz (ch : Nat) : Prop := ch ∈ [46, 35, 32, 9, 10]
theorem qla {ch : Nat} (h : vq ch) : findBy Value.isInt es52 (ch : Int) = none := by
 have : ([97, 98, 99, 101, 102, 103, 104, 59, 44] : List Nat).all (fun ch => (findBy Value.isInt es52 (ch : Int)).isNone) = true := by rfl
 simpa using List.all_eq_true.mp this ch h
theorem qnx {ch : Nat} (h : qaz ch) : ∃ t, findBy Value.isInt es52 (ch : Int) = some (.str (S [92, ch]) t) := by
 have : ([46, 35, 32, 9, 10] : List Nat).all (fun ch => match findBy Value.isInt es52 (ch : Int) with | some (.str x t) => x == S [92, ch] | _ => false) = true := by decide +kernel
 have := List.all_eq_true.mp this ch h
 cases hf : findBy Value.isInt es52 (ch : Int) with
 | none => rw [hf] at this; simp at this
 | some v =>
  rw [hf] at this
  cases v with
  | str x t => exact ⟨t, by rw [show x = S [92, ch] by simpa using this]⟩
  | _ => simp at this
theorem qoh : isSubtype (.type "KeyError") (.type "LookupError") = pure true := by rfl
section
variable {w : World} {A : Around} {E : Value → Shared → Prop} {s : Shared} {P : Params}
theorem qvm {h : Heap} (X : (KF P).In h) (w : World) : h.MapOf (intKind PG w) 52 (fun k => findBy Value.isInt es52 k) := ⟨_, es52, 24, X 52 _ (KF52 P), ⟨rfl, rfl, rfl⟩, rfl, qvh w, fun k => rfl⟩
theorem qgx (X : (KF P).In s.heap) {ch : Nat} (hc : vq ch) (hh : A.handled = none) {Q : Builtin.Str.Mapped → Shared → Prop}
  (h : ∀ h' tk, s.toks ≤ tk → (∀ b o, s.heap.get? b = some o → h'.get? b = some o) → s.heap.objs.size ≤ h'.objs.size → Q .keep { s with heap := h', toks := tk }) : wpAny (MM w) A (Builtin.Str.tableLookup (.ref 52) ch) Q E s := by
 unfold Builtin.Str.tableLookup
 refine wpAny_bind (wpAny_attempt (wpAny_bind (wpAny_mkInt ?_)))
 refine q6 (wpAny_getItem_missing_of (knd := intKind PG w) (k := (ch : Int)) (intKind_is PG w ch _) (by rfl) hh (qvm X w) (qla hc) fun h' e hx hsz => ?_)
 refine qc hx.there fun o ω ho hcl ω => ?_
 refine wpAny_bind (wpAny_isInstance (T := "KeyError") (b := true) ⟨o, ho, hcl⟩ qoh ?_)
 exact wpAny_bind (wpAny_rule (wpAny_pure (h h' _ (by simp only; lia) hx.keeps hsz)))
theorem qb6 (X : (KF P).In s.heap) {ch : Nat} (hc : qaz ch) {Q : Builtin.Str.Mapped → Shared → Prop}
  (h : ∀ tk, s.toks ≤ tk → Q (.text (S [92, ch])) { s with toks := tk }) : wpAny (MM w) A (Builtin.Str.tableLookup (.ref 52) ch) Q E s := by
 unfold Builtin.Str.tableLookup
 obtain ⟨t, ht⟩ := qnx hc
 refine wpAny_bind (wpAny_attempt (wpAny_bind (wpAny_mkInt ?_)))
 refine wpAny_getItem_of (knd := intKind PG w) (k := (ch : Int)) (intKind_is PG w ch _) (qvm X w) ht ?_
 exact wpAny_bind (wpAny_pure (wpAny_bind (wpAny_pure (wpAny_pure (h _ (by simp only; lia))))))
noncomputable abbrev escC (ch : Nat) : List Nat := if ch = 46 ∨ ch = 35 ∨ ch = 32 ∨ ch = 9 ∨ ch = 10 then [92, ch] else [ch]
theorem qk5 {ch : Nat} (h : vq ch) : escC ch = [ch] := (by decide : ∀ c ∈ ([97, 98, 99, 101, 102, 103, 104, 59, 44] : List Nat), escC c = [c]) ch h
theorem qnn {ch : Nat} (h : qaz ch) : escC ch = [92, ch] := (by decide : ∀ c ∈ ([46, 35, 32, 9, 10] : List Nat), escC c = [92, c]) ch h
theorem qfh (X : (KF P).In s.heap) {ch : Nat} (hc : vq ch ∨ qaz ch) (hh : A.handled = none) {t : Tok} {Q : Value → Shared → Prop}
  (h : ∀ h' tk t, s.toks ≤ tk → (∀ b o, s.heap.get? b = some o → h'.get? b = some o) → s.heap.objs.size ≤ h'.objs.size → Q (.str (S (escC ch)) t) { s with heap := h', toks := tk }) :
  wpAny (MM w) A (Builtin.«str.translate» ⟨[.str (S [ch]) t, .ref 52], []⟩) (fun fin s' => ∃ v, fin = .done (.ret v) ∧ Q v s') E s := by
 unfold Builtin.«str.translate»
 refine wpAny_bind (wpAny_pure ?_)
 have h128 : (S [ch]).cps.all (· < 128) = true := by
  rcases hc with hc | hc
  ·exact (by decide +kernel : ∀ c ∈ ([97, 98, 99, 101, 102, 103, 104, 59, 44] : List Nat), (#[c] : Array Nat).all (· < 128) = true) ch hc
  ·exact (by decide +kernel : ∀ c ∈ ([46, 35, 32, 9, 10] : List Nat), (#[c] : Array Nat).all (· < 128) = true) ch hc
 have hl : ((S [ch]).length == 0) = false := rfl
 dsimp only; rw [hl, h128, if_neg (by exact Bool.false_ne_true)]
 refine wpAny_bind ?_
 show wpAny _ _ (forIn #[ch] _ _) _ _ _
 rw [← Array.forIn_toList]
 show wpAny _ _ (forIn [ch] _ _) _ _ _
 rw [List.forIn_cons]
 refine wpAny_bind ?_
 simp only [List.lookup_nil, if_true]
 rw [if_neg (by exact ne_true_of_eq_false hl)]
 have hsl : sizeLine = 16777216 := rfl
 rcases hc with hc | hc
 ·rw [qk5 hc] at h
  refine wpAny_bind (qgx X hc hh fun h' tk ht kp hz => ?_)
  dsimp only
  refine wpAny_bind (wpAny_pure ?_)
  dsimp only
  refine wpAny_pure ?_
  dsimp only
  rw [List.forIn_nil]
  refine wpAny_pure ?_
  dsimp only
  rw [if_neg (by exact ne_true_of_eq_false hl)]
  show wpAny _ _ (mkStr _ >>= fun v => ret v) _ _ _
  refine wpAny_bind (wpAny_mkStr ?_ (by exact fit_le hl))
  exact wpAny_pure (y_ea _ rfl (h h' (tk + 1) tk (by exact Nat.le_add_right_of_le ht) kp hz))
 ·rw [qnn hc] at h
  refine wpAny_bind (qb6 X hc fun tk ht => ?_)
  have hlen : ((S [92, ch]).length == 1) = false := rfl
  dsimp only; rw [hlen, if_neg (by exact Bool.false_ne_true)]
  refine wpAny_bind (wpAny_pure ?_)
  dsimp only
  refine wpAny_bind (wpAny_rule ?_)
  refine wpAny_bind (qb6 (s := { s with toks := tk }) X hc fun tk2 ht2 => ?_)
  dsimp only
  refine wpAny_pure ?_
  dsimp only
  rw [List.forIn_nil]
  refine wpAny_pure ?_
  dsimp only
  rw [if_neg (by exact ne_true_of_eq_false hl)]
  show wpAny _ _ (mkStr ⟨#[] ++ (S [92, ch]).cps⟩ >>= fun v => ret v) _ _ _
  rw [show (⟨#[] ++ (S [92, ch]).cps⟩ : Str) = S [92, ch] from Str.ext' (by rfl)]
  have h9 := h s.heap (tk2 + 1) tk2 (by simp only at ht2; lia) (fun b o e => e) (Nat.le_refl _)
  exact wpAny_bind (wpAny_mkStr (wpAny_pure (y_ea _ rfl h9)) (by exact fit_le hl))
end
section
variable {c : CX} {n : Nat} {os : List AO} {K : AV → List AO → Prop}
theorem qgm {x : Str} {t : Tok} {M : Model} {A : Around} {E : Value → Shared → Prop} {s : Shared} {pl : Sem Bool} {Q : Value × List Value → Shared → Prop} (h : Q (.builtin "str.translate", [.str x t]) s) : wpAny M A (getMethod (.str x t) "translate" pl) Q E s := by
 with_reducible exact GM.of (.str x t) (typeIs_str _ _ _) PySem.F.slot_str_translate PySem.F.type_str_translate GM.noRef h
theorem qh7 {x : Str} : je c os (.str x) "translate" (.builtin "str.translate") := qft (fun q => qgm q)
theorem qh4 (C : c.Std) {ch : Nat} (hc : vq ch ∨ qaz ch) (h : K (.str (S (escC ch))) os) : CG c n (.builtin "str.translate") [.str (S [ch]), .glob (.ref 52)] os K := fun A hA ρ s vs H V => by
 refine q9 (jl V) fun t r z139y V1 => ?_; subst z139y
 refine qc V1 fun v r' z138y hv V2 => ?_; clear V1; subst z138y
 have e : v = .ref 52 := hv
 subst e
 obtain rfl := q0 V2
 refine wpAny_call_entry PySem.F.slot_str_translate (typeIs_str _ _ _) PySem.F.entry_str_translate ?_ (PySem.F.args_str_translate_2 _ _)
 exact qfh (A := A.in1) (C.kin H) hc hA.hd fun h' tk t ht kp hz => ⟨_, os, ρ, h, H.keeps (d := s.drawn) H.gi.bare ht kp hz, Ext.keeps kp hz, _, rfl⟩
theorem qtb {x : Str} (h : K (.bool true) os) : CG c n (.builtin "isinstance") [.str x, .glob (.type "str")] os K := fun A hA ρ s vs H V => by
 refine q9 (jl V) fun t r z137y V1 => ?_; subst z137y
 refine qc V1 fun v r' z136y hv V2 => ?_; clear V1; subst z136y
 have e : v = .type "str" := hv
 subst e
 obtain rfl := q0 V2
 exact IsiPair.str_str (Post.now H h rfl)
end
end Mine
end
section
open PySem PySem.W PyProof.Rows PySem.Calls PySem.Spec
namespace Mine
noncomputable def jp : Array Nat := #[14, 4, 0, 1, 4294967295, 17, 0, 24, 11, 1, 4294967295, 13, 6, 16, 32, 16, 9, 0, 1, 17, 1, 1]
noncomputable abbrev isW (c : Nat) : Bool := c == 32 || c == 9
noncomputable def Run (m m' : Sre.M) (n : Nat) : Prop := ∀ k, Sre.M.runFor (k + n) m = Sre.M.runFor k m'
theorem Run.refl (m : Sre.M) : Run m m 0 := fun k => rfl
theorem Run.step {m m' : Sre.M} {n : Nat} (ho : m.outcome = none) (h : Run m.step m' n) : Run m m' (n + 1) := fun k => by
 show Sre.M.runFor (k + n + 1) m = _
 rw [Sre.M.runFor, ho]; exact h k
theorem Run.trans {a b c : Sre.M} {n m : Nat} (h : Run a b n) (h' : Run b c m) : Run a c (n + m) := fun k => by
 rw [show k + (n + m) = (k + m) + n by lia, h, h']
theorem qf2 (c : Nat) (seen : Sre.Seen) : ∃ seen', Sre.accepts jp 11 c seen = .ok (isW c, seen') := by
 show ∃ seen', Sre.inSet jp c 22 13 true seen = .ok (isW c, seen')
 by_cases h1 : c = 32
 ·subst h1; exact ⟨_, rfl⟩
 ·have e1 : (c == 32) = false := by exact beq_false_of_ne h1
  by_cases h2 : c = 9
  ·subst h2; exact ⟨_, rfl⟩
  ·have e2 : (c == 9) = false := by exact beq_false_of_ne h2
   refine ⟨((seen.add 16).add 16).add 0, ?_⟩
   simp only [isW, e1, e2]
   show (if (c == 32) = true then _ else Sre.inSet jp c 21 15 true (seen.add 16)) = _
   rw [e1, if_neg (by exact Bool.false_ne_true)]
   show (if (c == 9) = true then _ else Sre.inSet jp c 20 17 true ((seen.add 16).add 16)) = _
   rw [e2, if_neg (by exact Bool.false_ne_true)]
   rfl
theorem qt5 (T : Array Nat) : ∀ (W : List Nat) (k p f : Nat) (seen : Sre.Seen), (∀ i (h : i < W.length), T.getD (p + i) 0 = W[i]) → (∀ x ∈ W, isW x = true) → isW (T.getD (p + W.length) 0) = false ∨ k = 0 →
  ∃ seen', Sre.run jp T 11 (k + W.length) p f seen = .ok (f + W.length, seen')
 | [], 0, p, f, seen, _, _, _ => ⟨seen, rfl⟩
 | [], k + 1, p, f, seen, _, _, h3 => by
  have h3' : isW (T.getD p 0) = false := by rcases h3 with h | h; exact h; cases h
  obtain ⟨s', e⟩ := qf2 (T.getD p 0) seen
  rw [h3'] at e
  refine ⟨s', ?_⟩
  show (do let (yes, seen) ← Sre.accepts jp 11 (T.getD p 0) seen; if yes then _ else pure (f, seen)) = _
  rw [e]; rfl
 | w :: W, k, p, f, seen, h1, h2, h3 => by
  obtain ⟨s', e⟩ := qf2 (T.getD p 0) seen
  have hw : T.getD p 0 = w := h1 0 (by simp)
  rw [hw, h2 w (by exact List.mem_cons_self)] at e
  obtain ⟨s2, e2⟩ := qt5 T W k (p + 1) (f + 1) s' (fun i h => by have := h1 (i + 1) (by exact Nat.add_lt_of_lt_sub h); rw [show p + 1 + i = p + (i + 1) by exact Nat.succ_add_eq_add_succ p i]; exact this) (fun x hx => h2 x (by exact List.mem_cons_of_mem w hx)) (by simpa [Nat.add_assoc, Nat.add_comm 1] using h3)
  refine ⟨s2, ?_⟩
  show (do let (yes, seen) ← Sre.accepts jp 11 (T.getD p 0) seen; if yes then Sre.run jp T 11 (k + W.length) (p + 1) (f + 1) seen else pure (f, seen)) = _
  rw [hw, e]
  show Sre.run jp T 11 (k + W.length) (p + 1) (f + 1) s' = _
  rw [e2]; simp [Nat.add_comm, Nat.add_left_comm]
end Mine
end
section
open PySem PySem.W PyProof.Rows PySem.Calls PySem.Spec
namespace Mine
noncomputable def nf (s : Nat) (o : Bool) : Sre.Frame := { wait := .nextStart, pc := 5, pos := s, outermost := o }
noncomputable def atS (T : Array Nat) (lim s : Nat) (o : Bool) (mk : Option Nat × Option Nat) (seen : Sre.Seen) : Sre.M :=
 { code := jp, text := T, lim := lim, start := s, lastStart := lim, pc := 5, pos := s, handed := s, outermost := o, marks := #[mk.1, mk.2], frames := [nf s o], weight := 1, seen := seen }
noncomputable def atM (T : Array Nat) (lim s : Nat) (o : Bool) (mk : Option Nat) (seen : Sre.Seen) : Sre.M :=
 { atS T lim s o (some s, mk) seen with lastmark := 0, pc := 7 }
theorem qcm (T : Array Nat) (lim s : Nat) (o : Bool) (mk : Option Nat × Option Nat) (seen : Sre.Seen) : (atS T lim s o mk seen).step = atM T lim s o mk.2 (seen.add 17) := rfl
theorem qfd (T : Array Nat) (lim s : Nat) (o : Bool) (mk : Option Nat) (seen : Sre.Seen) : (atM T lim s o mk seen).step = (
 if (1 : Int) > (lim : Int) - s then { atM T lim s o mk (seen.add 24) with answer := some false } else
  match Sre.run jp T 11 (min 4294967295 ((lim : Int) - s).toNat) s 0 ((seen.add 24).add 13) with
  | .error why => { atM T lim s o mk (seen.add 24) with outcome := some (.stuck why) }
  | .ok (n, seen) => if n < 1 then { atM T lim s o mk seen with answer := some false } else
   Sre.M.afterRun { atM T lim s o mk seen with pos := s + n } .giveBack n { lastmark := 0, lastindex := -1 }) := by
 unfold Sre.M.step
 rfl
end Mine
end
section
open PySem PySem.W PyProof.Rows PySem.Calls PySem.Spec
namespace Mine
theorem qti {T : Array Nat} {lim s : Nat} (o : Bool) (mk : Option Nat × Option Nat) (seen : Sre.Seen) (hl : lim ≤ 100000) (hs : s < lim) (hw : isW (T.getD s 0) = false) : ∃ seen', Run (atS T lim s o mk seen) (atS T lim (s + 1) false (some s, mk.2) seen') 3 := by
 obtain ⟨s2, e2⟩ := qt5 T [] (min 4294967295 ((lim : Int) - s).toNat) s 0 (((seen.add 17).add 24).add 13) (fun i h => absurd h (Nat.not_lt_zero _)) (fun x h => by cases h) (.inl hw)
 refine ⟨s2, Run.step rfl ?_⟩
 rw [qcm]
 refine Run.step rfl ?_
 rw [qfd, if_neg (by lia), show (min 4294967295 ((lim : Int) - s).toNat) = min 4294967295 ((lim : Int) - s).toNat + ([] : List Nat).length from rfl, e2]
 refine Run.step rfl ?_
 show Run (if s < lim then _ else _) _ 0
 rw [if_pos hs]
 exact Run.refl _
theorem jq {a : Sre.M} {n : Nat} {P : Sre.M → Prop} (ho : a.outcome = none) (h : ∃ m, Run a.step m n ∧ P m) : ∃ m, Run a m (n + 1) ∧ P m := by
 refine x_ea h fun m r p => ?_; clear h; exact (y_ea m (Run.step ho r) p)
theorem qby {a : Sre.M} {P : Sre.M → Prop} (h : P a) : ∃ m, Run a m 0 ∧ P m := (y_ea a (Run.refl a) h)
theorem qq4 {T : Array Nat} {lim : Nat} (o : Bool) (mk : Option Nat × Option Nat) (seen : Sre.Seen) : ∃ m, Run (atS T lim lim o mk seen) m 4 ∧ m.outcome = some .failed := by
 refine jq rfl ?_
 rw [qcm]
 refine jq rfl ?_
 rw [qfd, if_pos (by simp)]
 refine jq rfl ?_
 show ∃ m, Run (if lim < lim then _ else _ : Sre.M) m 1 ∧ _
 rw [if_neg (by exact Nat.lt_irrefl lim)]
 refine jq rfl ?_
 exact qby rfl
structure Hit (m : Sre.M) (s e : Nat) : Prop where
 oc : m.outcome = some .matched
 st : m.start = s
 ha : m.handed = e
 mks : m.marks = #[some s, some e]
 lm : m.lastmark = 1
noncomputable def hM (T : Array Nat) (lim s r : Nat) (o : Bool) (mk : Option Nat) (seen : Sre.Seen) : Sre.M :=
 Sre.M.afterRun { atM T lim s o mk seen with pos := s + r } .giveBack r { lastmark := 0, lastindex := -1 }
theorem hM1 (T : Array Nat) (lim s r : Nat) (o : Bool) (mk : Option Nat) (seen : Sre.Seen) : (hM T lim s r o mk seen).outcome = none := rfl
theorem hM2 (T : Array Nat) (lim s r : Nat) (o : Bool) (mk : Option Nat) (seen : Sre.Seen) : (hM T lim s r o mk seen).step.outcome = none := by kernel_rfl
theorem hM3 (T : Array Nat) (lim s r : Nat) (o : Bool) (mk : Option Nat) (seen : Sre.Seen) : (hM T lim s r o mk seen).step.step.outcome = none := by cases o <;> kernel_rfl
theorem hM4 (T : Array Nat) (lim s r : Nat) (o : Bool) (mk : Option Nat) (seen : Sre.Seen) : (hM T lim s r o mk seen).step.step.step.outcome = none := by cases o <;> kernel_rfl
theorem hM5 (T : Array Nat) (lim s r : Nat) (o : Bool) (mk : Option Nat) (seen : Sre.Seen) : (hM T lim s r o mk seen).step.step.step.step.outcome = none := by cases o <;> kernel_rfl
theorem hM6 (T : Array Nat) (lim s r : Nat) (o : Bool) (mk : Option Nat) (seen : Sre.Seen) : Hit (hM T lim s r o mk seen).step.step.step.step.step s (s + r) := by
 cases o <;> exact ⟨by kernel_rfl, by kernel_rfl, by kernel_rfl, by kernel_rfl, by kernel_rfl⟩
theorem qve {T : Array Nat} {lim s : Nat} (o : Bool) (mk : Option Nat × Option Nat) (seen : Sre.Seen) (hl : lim ≤ 100000) (W : List Nat) (hW : W ≠ []) (h1 : ∀ i (h : i < W.length), T.getD (s + i) 0 = W[i]) (h2 : ∀ x ∈ W, isW x = true)
  (hs : s + W.length ≤ lim) (h3 : isW (T.getD (s + W.length) 0) = false ∨ s + W.length = lim) : ∃ m, Run (atS T lim s o mk seen) m 7 ∧ Hit m s (s + W.length) := by
 have hp := List.length_pos_iff.mpr hW
 obtain ⟨s2, e2⟩ := qt5 T W (lim - s - W.length) s 0 (((seen.add 17).add 24).add 13) h1 h2 (by rcases h3 with h | h; exact .inl h; exact .inr (by lia))
 have e3 : min 4294967295 ((lim : Int) - s).toNat = lim - s - W.length + W.length := by lia
 refine jq rfl ?_
 rw [qcm]
 refine jq rfl ?_
 rw [qfd, if_neg (by lia), e3, e2]
 simp only [Nat.zero_add]
 rw [if_neg (by exact (fun {a b} => Nat.not_lt.mpr) hp)]
 exact jq (hM1 ..) (jq (hM2 ..) (jq (hM3 ..) (jq (hM4 ..) (jq (hM5 ..) (qby (hM6 ..))))))
theorem skip {T : Array Nat} {lim : Nat} (hl : lim ≤ 100000) : ∀ (k s : Nat) (o : Bool) (mk : Option Nat × Option Nat) (seen : Sre.Seen), s + k ≤ lim → (∀ i, s ≤ i → i < s + k → isW (T.getD i 0) = false) → ∃ o' mk' seen', Run (atS T lim s o mk seen) (atS T lim (s + k) o' mk' seen') (3 * k)
 | 0, s, o, mk, seen, _, _ => (y_e3 o mk seen (Run.refl _))
 | k + 1, s, o, mk, seen, h1, h2 => by
  obtain ⟨s1, r1⟩ := qti o mk seen hl (by exact Nat.lt_of_add_right_lt h1 : s < lim) (h2 s (Nat.le_refl _) (by simp))
  refine x_e3 (skip hl k (s + 1) false (some s, mk.2) s1 (by lia) (fun i a b => h2 i (by exact Nat.le_of_succ_le a) (by lia))) fun o2 mk2 s2 r2 => ?_
  refine (y_e3 o2 mk2 s2 ?_)
  rw [show s + (k + 1) = s + 1 + k by exact Eq.symm (Nat.succ_add_eq_add_succ s k), show 3 * (k + 1) = 3 + 3 * k by lia]
  exact r1.trans r2
theorem qbu {T : Array Nat} {s : Nat} (hs : s + 1 ≤ T.size) : Sre.forSearch jp T 1 s T.size false = atS T T.size s true (none, none) (({} : Sre.Seen).add 14) := by
 unfold Sre.forSearch
 show (if s > T.size || T.size - s < 1 then _ else _ : Sre.M) = _
 rw [if_neg (by lia)]
 rfl
theorem qbv {T : Array Nat} : ∃ m, Run (Sre.forSearch jp T 1 T.size T.size false) m 1 ∧ m.outcome = some .failed := by
 have e : Sre.forSearch jp T 1 T.size T.size false = Sre.M.say { code := jp, text := T, lim := T.size, start := T.size, pc := 5, pos := T.size, handed := T.size, marks := Array.replicate (2 * 1) none, seen := ({} : Sre.Seen).add 14 } false := by
  unfold Sre.forSearch
  show (if T.size > T.size || T.size - T.size < 1 then _ else _ : Sre.M) = _
  rw [if_pos (by simp)]
  rfl
 rw [e]
 exact qby rfl
theorem ql5 {T : Array Nat} {s b : Nat} (hl : T.size ≤ 100000) (W : List Nat) (hW : W ≠ []) (hb : ∀ i, s ≤ i → i < s + b → isW (T.getD i 0) = false) (h1 : ∀ i (h : i < W.length), T.getD (s + b + i) 0 = W[i]) (h2 : ∀ x ∈ W, isW x = true)
  (hs : s + b + W.length ≤ T.size) (h3 : isW (T.getD (s + b + W.length) 0) = false ∨ s + b + W.length = T.size) : ∃ m n, Run (Sre.forSearch jp T 1 s T.size false) m n ∧ n ≤ 400000 ∧ Hit m (s + b) (s + b + W.length) := by
 have hp := List.length_pos_iff.mpr hW
 rw [qbu (by lia)]
 refine x_e3 (skip hl b s true (none, none) (({} : Sre.Seen).add 14) (by exact Nat.le_of_add_right_le hs) hb) fun o mk seen r => ?_
 refine x_ea (qve o mk seen hl W hW h1 h2 hs h3) fun m r2 hm => ?_
 exact (jk m _ (r.trans r2) (by lia) hm)
theorem qi1 {T : Array Nat} {s : Nat} (hl : T.size ≤ 100000) (hs : s ≤ T.size) (hb : ∀ i, s ≤ i → i < T.size → isW (T.getD i 0) = false) : ∃ m n, Run (Sre.forSearch jp T 1 s T.size false) m n ∧ n ≤ 400000 ∧ m.outcome = some .failed := by
 rcases Nat.lt_or_ge s T.size with h | h
 ·rw [qbu h]
  refine x_e3 (skip hl (T.size - s) s true (none, none) (({} : Sre.Seen).add 14) (by lia) (fun i a b => hb i a (by lia))) fun o mk seen r => ?_
  rw [show s + (T.size - s) = T.size by exact Nat.add_sub_of_le hs] at r
  refine x_ea (qq4 (T := T) (lim := T.size) o mk seen) fun m r2 hm => ?_
  exact (jk m _ (r.trans r2) (by lia) hm)
 ·rw [show s = T.size by exact Nat.le_antisymm hs h]
  refine x_ea (qbv (T := T)) fun m r hm => ?_
  exact (jk m 1 r (by exact Nat.le_of_ble_eq_true rfl) hm)
end Mine
end
section
open PySem PySem.W PyProof.Rows PySem.Calls PySem.Spec
namespace Mine
theorem qc6 : PlainAttrs "re.Pattern" := ⟨(y_ea "object.__getattribute__" (by rw [typeLookup_type, builtinLookup_eq_fast]; kernel_rfl) (by exact F.canon_object_ga)), by exact am_miss_of_fast rfl⟩
theorem vw : Slot "re.Pattern" "split" "re.Pattern.split" :=
 .of (owner := "re.Pattern") (n := "split") (by exact of_pureOf rfl) (by rfl) (by rfl) (by rfl)
  (by exact Or.inr rfl) (by exact isSubtype_of_subB rfl)
theorem w0 : Slot "re.Pattern" "sub" "re.Pattern.sub" :=
 .of (owner := "re.Pattern") (n := "sub") (by exact of_pureOf rfl) (by rfl) (by rfl) (by rfl)
  (by exact Or.inr rfl) (by exact isSubtype_of_subB rfl)
theorem qbp : entryFor table "re.Pattern.split" = some Builtin.«re.Pattern.split» := entryFor_of_fast (by kernel_rfl)
theorem qeg : entryFor table "re.Pattern.sub" = some Builtin.«re.Pattern.sub» := entryFor_of_fast (by kernel_rfl)
theorem qcu : entryFor table "re.Pattern.sub.loop" = some Builtin.«re.Pattern.sub.loop» := entryFor_of_fast (by kernel_rfl)
theorem qct (a b : Value) : argsOk "re.Pattern.split" ⟨[a, b], []⟩ := by unfold argsOk; kernel_rfl
theorem qf3 (a b d : Value) : argsOk "re.Pattern.sub" ⟨[a, b, d], []⟩ := by unfold argsOk; kernel_rfl
theorem qc8 : typeOf (.builtin "re.Pattern.split") = pure (.type "method_descriptor") := by kernel_rfl
theorem qhl : typeOf (.builtin "re.Pattern.sub") = pure (.type "method_descriptor") := by kernel_rfl
section
variable {M : Model} {A : Around} {E : Value → Shared → Prop} {s : Shared}
theorem xo {m : Sre.M} (h : m.outcome.isSome) : ∀ n, Sre.M.runFor n m = m
 | 0 => rfl
 | n + 1 => by rw [Sre.M.runFor, if_pos h]
theorem yi : ∀ (a b : Nat) (m : Sre.M), Sre.M.runFor (a + b) m = Sre.M.runFor b (Sre.M.runFor a m)
 | 0, b, m => by rw [Nat.zero_add]; rfl
 | a + 1, b, m => by
  by_cases h : m.outcome.isSome
  ·rw [xo h, xo h, xo h]
  ·rw [show a + 1 + b = (a + b) + 1 by exact Nat.add_right_comm a 1 b, Sre.M.runFor, if_neg h, yi a b, Sre.M.runFor, if_neg h]
theorem qco {m' : Sre.M} (ho : m'.outcome.isSome) {Q : Sre.M → Shared → Prop} (h : Q m' s) : ∀ (t n : Nat) (m : Sre.M), n ≤ 4 * t → 1 ≤ t → Sre.M.runFor n m = m' → wpAny M A (Builtin.Re.reDrive t m) Q E s
 | 0, _, _, _, h1, _ => absurd h1 (by exact Nat.not_add_one_le_zero 0)
 | t + 1, n, m, hn, _, e => by
  show wpAny M A (if (Sre.M.runFor 4 m).outcome.isSome then pure (Sre.M.runFor 4 m) else do rule "sre.turn"; Builtin.Re.reDrive t (Sre.M.runFor 4 m)) Q E s
  by_cases h4 : (Sre.M.runFor 4 m).outcome.isSome
  ·rw [if_pos h4]
   have : Sre.M.runFor 4 m = m' := by
    rcases Nat.lt_or_ge n 4 with q | q
    ·have := yi n (4 - n) m
     rw [show n + (4 - n) = 4 by lia, e, xo ho] at this
     exact this
    ·have := yi 4 (n - 4) m
     rw [show 4 + (n - 4) = n by exact Nat.add_sub_of_le q, e, xo h4] at this
     exact this.symm
   rw [this]; exact wpAny_pure h
  ·rw [if_neg h4]
   refine wpAny_bind (wpAny_rule ?_)
   have q : 4 < n := by
    rcases Nat.lt_or_ge 4 n with q | q
    ·exact q
    ·have := yi n (4 - n) m
     rw [show n + (4 - n) = 4 by exact Nat.add_sub_of_le q, e, xo ho] at this
     rw [this] at h4; exact absurd ho h4
   refine qco ho h t (n - 4) _ (by exact Nat.sub_le_of_le_add hn) (by lia) ?_
   have := yi 4 (n - 4) m
   rw [show 4 + (n - 4) = n by lia, e] at this
   exact this.symm
theorem ue {m m' : Sre.M} {n : Nat} {r : Option Sre.M} (hr : Run m m' n) (hn : n ≤ 400000) (ho : (m'.outcome = some .matched ∧ r = some m') ∨ (m'.outcome = some .failed ∧ r = none)) {Q : Option Sre.M → Shared → Prop} (h : Q r s) : wpAny M A (Builtin.Re.reRunToEnd m) Q E s := by
 have hs : m'.outcome.isSome := by rcases ho with ⟨e, _⟩ | ⟨e, _⟩ <;> rw [e] <;> rfl
 have e0 : Sre.M.runFor n m = m' := by have := hr 0; rwa [Nat.zero_add] at this
 unfold Builtin.Re.reRunToEnd
 refine wpAny_bind (qco hs ?_ (2 ^ 64) n m (by lia) (by exact Nat.one_le_two_pow) e0)
 refine wpAny_bind (wpAny_forIn_list _ (fun ω ω s' => s' = s) _ ?_ ?_ _ _ rfl)
 ·exact fun x rest b s_1 a => wpAny_ite_split (fun a_1 Γ p a_2 => a) fun a_1 Γ p a_2 => a
 ·rintro b s' rfl
  rcases ho with ⟨e, rfl⟩ | ⟨e, rfl⟩
  ·rw [e]; exact wpAny_pure h
  ·rw [e]; exact wpAny_pure h
end
end Mine
end
section
open PySem PySem.W PyProof.Rows PySem.Calls PySem.Spec
namespace Mine
section
variable {c : CX} {n : Nat} {os : List AO} {K : AV → List AO → Prop} {e : EF} {loc : Loc} {ρ : List Addr} {s s' s'' : Shared} {t : Tab}
theorem qtl (C : c.Std) (G : c.GI s) (ht : t ∈ c.tabs) {A : Around} {E : Value → Shared → Prop} {env : Env} {pos : Pos} {fl : Nat} {nm qn : Str} {ps : Arguments} {sc : Scope} {body : FuncBody} {Q : Value → Shared → Prop} (hc : env.code = .ref t.c)
  (h : ∀ code h' tk, Gro c t s { s with heap := h', toks := tk } → Q code { s with heap := h', toks := tk }) : wpAny (MM c.w) A (functionCode env pos fl nm qn ps sc body) Q E s := by
 refine xy ((G.tab t ht).now) fun ps i1 t1 ω => ?_
 cases hf : codeAmong pos ps.toList with
 | some v => exact wpAny_functionCode_hit hc i1 hf (h v s.heap s.toks ⟨fun ω ω ω e => e, (jk ps (#[]) t1 (by simpa using i1) (by simpa using t1)), Nat.le_refl _, rfl, G.bare, Nat.le_refl _⟩)
 | none =>
  refine qr (wpAny_functionCodeX hc i1 t1 hf fun c' h' tk hx hge hlt i2 ω t2 ω htk => h _ h' tk ⟨fun b o hb e => hx b o hb e, (jk ps _ t1 i2 t2), ?_, rfl, G.bare, htk⟩)
  show s.heap.objs.size ≤ h'.objs.size
  lia
theorem qr7 (C : c.Std) (ht : t ∈ c.tabs) {params : Arguments} {body : Expr} {scope : Scope} {pos : Pos} (hcode : e.env.code = .ref t.c) (hd : defaultsOf params e.env = ([], [])) (hcl : closureFor scope e.env = pure [])
  (h : K .lam os) : EV c n e loc os (.Lambda params body scope pos) K := fun A hA ρ s F => by
 rw [arm_eval_Lambda, hd]
 refine wpAny_bind (wpAny_pure ?_)
 refine wpAny_bind (wpAny_holding (wpAny_pure ?_))
 unfold makeFunction
 refine wpAny_bind (wpAny_pure ?_)
 simp only [List.zip_nil_right, List.filterMap_nil, List.isEmpty_nil, if_true]
 refine wpAny_bind (wpAny_pure ?_)
 refine wpAny_bind (wpAny_pure ?_)
 refine wpAny_bind (wpAny_of_eq hcl ?_)
 simp only [List.isEmpty_nil, if_true]
 refine wpAny_bind (wpAny_pure ?_)
 refine wpAny_bind (qtl C F.hr.gi ht hcode fun code h' tk g => ?_)
 have H2 := g.hr C F.hr ht
 have E2 : Ext c.tabs [] ρ s ρ _ := g.ext ht
 have X := C.kin H2
 rw [F.ok.glob]
 refine wpAny_bind ((qet X).here ?_)
 refine wpAny_bind ((looks_nsIn (ns := 3) (r := some (.str "law_ik0126_01" 783)) X (by kernel_rfl)).here ?_)
 refine wpAny_bind (wpAny_pure ?_)
 refine wpAny_newObj_type ?_ (by size_fits)
 exact ⟨.lam, os, ρ, h, H2.keeps (d := s.drawn) (tk := tk) H2.gi.bare (Nat.le_refl _) qf qe, E2.trans (Ext.keeps (d := s.drawn) qf qe), _, _, rfl, Heap.get?_push_size _ rfl, rfl, _, rfl⟩
end
end Mine
end
section
open PySem PySem.W PyProof.Rows PySem.Calls PySem.Spec
namespace Mine
noncomputable def qvx : Obj := { cls := .type "tuple", data := .seq (jp.map fun (i : Nat) => .int i 0) 0 }
noncomputable def qro : Obj := { cls := .type "re.Pattern", data := .fields #[.str "([ \t]+)" 530, .int 32 555, .int 1 0, .none, .none, .ref 80, .int 0 0] }
theorem KF80 (P : Params) : (KF P).lookup 80 = some qvx := by kernel_rfl
theorem KF81 (P : Params) : (KF P).lookup 81 = some qro := by kernel_rfl
section
variable {M : Model} {A : Around} {E : Value → Shared → Prop} {s : Shared}
theorem qiv (v : Value) : Builtin.Re.reNamed "re.Pattern.split" "split" ["string", "maxsplit"] 1 [v] [] = pure [some v, none] := by kernel_rfl
theorem qfj {P : Params} (X : (KF P).In s.heap) {x : Str} {t : Tok} {Q : Builtin.Re.ReTarget → Shared → Prop}
  (h : Q { pattern := .ref 81, string := .str x t, code := jp, text := x.cps, kind := 0, groups := 1, pos := 0, lim := x.cps.size } s) : wpAny M A (Builtin.Re.reWholeTarget (.ref 81) (.str x t)) Q E s := by
 unfold Builtin.Re.reWholeTarget
 refine wpAny_bind (wpAny_fieldsOf (X 81 qro (KF81 P)) rfl ?_)
 have e : Builtin.Re.reTextOf (.str x t) = pure (x.cps, 0) := rfl
 rw [e]
 refine wpAny_bind (wpAny_pure ?_)
 show wpAny M A (Builtin.Re.reNoCollectionInside (.str x t) 0 >>= _) Q E s
 have e2 : Builtin.Re.reNoCollectionInside (.str x t) 0 = pure () := rfl
 rw [e2]
 refine wpAny_bind (wpAny_pure ?_)
 show wpAny M A (Builtin.Re.reRawItems (.ref 80) >>= _) Q E s
 refine wpAny_bind ?_
 unfold Builtin.Re.reRawItems
 refine wpAny_bind (wpAny_seqItems (X 80 qvx (KF80 P)) rfl (wpAny_pure ?_))
 refine wpAny_pure ?_
 have ec : Array.map (fun x : Int => x.toNat) (Array.map Builtin.Re.reRawOf ((some (jp.map fun (i : Nat) => Value.int i 0)).getD #[])) = jp := by kernel_rfl
 rw [ec]
 exact h
noncomputable abbrev cat2 (P : List (List Nat × List Nat)) : List Nat := P.flatMap fun q => q.1 ++ q.2
noncomputable abbrev outs (P : List (List Nat × List Nat)) : List (List Nat) := P.flatMap fun q => [q.1, q.2]
structure qdz (P : List (List Nat × List Nat)) (B : List Nat) : Prop where
 b : ∀ q ∈ P, ∀ x ∈ q.1, isW x = false
 w : ∀ q ∈ P, ∀ x ∈ q.2, isW x = true
 n : ∀ q ∈ P, q.2 ≠ []
 t : ∀ q ∈ P.tail, q.1 ≠ []
 z : ∀ x ∈ B, isW x = false
theorem qn4 (pre B post : List Nat) (i : Nat) (h : i < B.length) : (pre ++ (B ++ post)).toArray.getD (pre.length + i) 0 = B[i] := by
 simp [Array.getD_eq_getD_getElem?, List.getElem?_append_right, List.getElem?_append_left h, h]
theorem qem (pre B post : List Nat) {p : Nat → Prop} (hp : ∀ x ∈ B, p x) (i : Nat) (h1 : pre.length ≤ i) (h2 : i < pre.length + B.length) : p ((pre ++ (B ++ post)).toArray.getD i 0) := by
 have := qn4 pre B post (i - pre.length) (by exact Nat.sub_lt_left_of_lt_add h1 h2)
 rw [show pre.length + (i - pre.length) = i by lia] at this
 rw [this]; exact hp _ (List.getElem_mem _)
theorem qu9 (pre B post : List Nat) : (pre ++ (B ++ post)).toArray.extract pre.length (pre.length + B.length) = B.toArray := by
 simp
theorem u2 {pre B post : List Nat} {T : Array Nat} (hT : T = (pre ++ (B ++ post)).toArray) {a b : Nat} (ha : a = pre.length) (hb : b = pre.length + B.length) (hl : T.size ≤ 100000) {Q : Value → Shared → Prop}
  (h : Q (.str (S B) s.toks) { s with toks := s.toks + 1 }) : wpAny M A (Builtin.Re.reSlice T 0 a b) Q E s := by
 subst hT ha hb
 show wpAny M A (mkStr ⟨(pre ++ (B ++ post)).toArray.extract pre.length (pre.length + B.length)⟩) Q E s
 rw [qu9]
 refine wpAny_mkStr h ?_
 have : sizeLine = 16777216 := rfl
 simp at hl
 show B.toArray.size ≤ _
 simp; lia
theorem qra {P dn rest : List (List Nat × List Nat)} {B : List Nat} {q : List Nat × List Nat} (G : qdz P B) (e : P = dn ++ q :: rest) (hl : (cat2 P ++ B).length ≤ 100000) :
  ∃ m n, Run (Sre.forSearch jp (cat2 P ++ B).toArray 1 (cat2 dn).length (cat2 P ++ B).toArray.size false) m n ∧ n ≤ 400000 ∧ Hit m ((cat2 dn).length + q.1.length) ((cat2 dn).length + q.1.length + q.2.length) := by
 subst e
 have hq : q ∈ dn ++ q :: rest := by exact List.mem_append_cons_self
 have e1 : cat2 (dn ++ q :: rest) ++ B = cat2 dn ++ (q.1 ++ (q.2 ++ (cat2 rest ++ B))) := by simp [List.flatMap_append]
 have e2 : cat2 (dn ++ q :: rest) ++ B = (cat2 dn ++ q.1) ++ (q.2 ++ (cat2 rest ++ B)) := by simp [List.flatMap_append]
 have hlen : (cat2 (dn ++ q :: rest) ++ B).length = (cat2 dn).length + q.1.length + q.2.length + (cat2 rest ++ B).length := by rw [e1]; simp; lia
 refine ql5 (by assumption) q.2 (G.n q hq) ?_ ?_ (G.w q hq) (by exact Nat.le.intro (id (Eq.symm hlen))) ?_
 ·intro i h1 h2
  rw [e1]
  exact qem (cat2 dn) q.1 _ (p := fun x => isW x = false) (G.b q hq) i h1 h2
 ·intro i h
  rw [e2, ← qn4 (cat2 dn ++ q.1) q.2 (cat2 rest ++ B) i h, List.length_append]
 ·rw [List.size_toArray, hlen]
  rcases rest with _ | ⟨r, rest⟩
  ·rcases B with _ | ⟨b, B⟩
   ·right; rfl
   ·left
    have e3 : cat2 (dn ++ [q]) ++ b :: B = (cat2 dn ++ q.1 ++ q.2) ++ ([b] ++ B) := by simp [List.flatMap_append]
    rw [e3]
    exact qem (cat2 dn ++ q.1 ++ q.2) [b] _ (p := fun x => isW x = false) (fun x hx => G.z x (by simp at hx; simp [hx])) _ (by simp; lia) (by simp; lia)
  ·left
   have hr : r.1 ≠ [] := G.t r (by cases dn <;> simp)
   have hp := List.length_pos_iff.mpr hr
   have e3 : cat2 (dn ++ q :: r :: rest) ++ B = (cat2 dn ++ q.1 ++ q.2) ++ (r.1 ++ (r.2 ++ (cat2 rest ++ B))) := by simp [List.flatMap_append]
   rw [e3]
   exact qem (cat2 dn ++ q.1 ++ q.2) r.1 _ (p := fun x => isW x = false) (G.b r (by simp)) _ (by simp; lia) (by simp; lia)
theorem qo0 {P : List (List Nat × List Nat)} {B : List Nat} (G : qdz P B) (hl : (cat2 P ++ B).length ≤ 100000) :
  ∃ m n, Run (Sre.forSearch jp (cat2 P ++ B).toArray 1 (cat2 P).length (cat2 P ++ B).toArray.size false) m n ∧ n ≤ 400000 ∧ m.outcome = some .failed := by
 refine qi1 (by assumption) (by simp) ?_
 intro i h1 h2
 have := qem (cat2 P) B [] (p := fun x => isW x = false) G.z i h1 (by simpa using h2)
 simpa using this
theorem qq9 {T : Builtin.Re.ReTarget} {m : Sre.M} {b e : Nat} (hm : Hit m b e) (hbe : b ≤ e) (d : Sem Value) : Builtin.Re.reMachineGroup T m 1 d = Builtin.Re.reSlice T.text T.kind b e := by
 unfold Builtin.Re.reMachineGroup
 rw [hm.lm, hm.mks, if_neg (by decide)]
 show (if e < b then _ else Builtin.Re.reSlice T.text T.kind b e) = _
 rw [if_neg (by lia)]
noncomputable abbrev qtc := Array Value × Nat × Nat × Bool × Int × Bool
inductive quy (P : List (List Nat × List Nat)) (s0 : Shared) (l : List Nat) (st : qtc) (s' : Shared) : Prop
 | mk (vs : List (Str × Tok)) (k : Nat) (dn rest : List (List Nat × List Nat)) (n : Int) (ov : Bool) (e1 : s' = { s0 with toks := k }) (hk : s0.toks ≤ k) (hP : P = dn ++ rest)
  (e2 : st = ((strValues vs).toArray, (cat2 dn).length, (cat2 dn).length, false, n, ov)) (hv : vs.map (·.1) = (outs dn).map S) (h1 : ov = true → rest = []) (h2 : ov = false → rest.length + 1 ≤ l.length)
theorem yz (vs : List (Str × Tok)) (x : Str) (t : Tok) : (strValues vs).toArray.push (.str x t) = (strValues (vs ++ [(x, t)])).toArray := by simp [strValues]
theorem qjw {P : List (List Nat × List Nat)} : (∀ q ∈ P, q.2 ≠ []) → P.length ≤ (cat2 P).length := by
 induction P with
 | nil => intro; decide
 | cons q P ih =>
  intro h
  have := ih (fun r hr => h r (by exact List.mem_cons_of_mem q hr))
  have := List.length_pos_iff.mpr (h q (by exact List.mem_cons_self))
  simp at *; lia
theorem qpl {P0 : Params} (X : (KF P0).In s.heap) {P : List (List Nat × List Nat)} {B : List Nat} (G : qdz P B) (hl : (cat2 P ++ B).length ≤ 100000) {t : Tok} {Q : Value → Shared → Prop}
  (h : ∀ (vs : List (Str × Tok)) k, s.toks ≤ k → vs.map (·.1) = (outs P ++ [B]).map S → wpAny M A (newList (strValues vs)) Q E { s with toks := k }) :
  wpAny M A (Builtin.«re.Pattern.split» ⟨[.ref 81, .str (S (cat2 P ++ B)) t], []⟩) (fun fin s' => ∃ v, fin = .done (.ret v) ∧ Q v s') E s := by
 unfold Builtin.«re.Pattern.split»
 refine wpAny_bind (wpAny_of_eq (qiv _) ?_)
 refine wpAny_bind (wpAny_pure ?_)
 refine wpAny_bind (qfj X ?_)
 refine wpAny_bind ?_
 have hx : (S (cat2 P ++ B)).cps = (cat2 P ++ B).toArray := rfl
 have hsz : (cat2 P ++ B).toArray.size ≤ 100000 := by assumption
 refine wpAny_forIn_list _ (quy P s) _ ?_ ?_ _ _ ⟨[], s.toks, [], P, 0, false, rfl, Nat.le_refl _, rfl, rfl, rfl, (fun e => by cases e), fun ω => ?_⟩
 ·rintro x l st s' ⟨vs, k, dn, rest, n, ov, rfl, hk, hP, rfl, hvs, h1, h2⟩
  dsimp only
  cases ov with
  | true => exact wpAny_pure ⟨vs, k, dn, rest, n, true, rfl, hk, hP, rfl, hvs, h1, (fun e => by cases e)⟩
  | false =>
   refine wpAny_bind ?_
   rcases rest with _ | ⟨q, rest⟩
   ·refine qc (qo0 G hl) fun m nn r hn ho => ?_
    have hPd : P = dn := by simpa using hP
    subst hPd
    refine ue r hn (.inr ⟨ho, rfl⟩) ?_
    exact wpAny_pure ⟨vs, k, P, [], n, true, rfl, hk, by assumption, rfl, hvs, (fun ω => rfl), (fun e => by cases e)⟩
   ·refine qc (qra G hP hl) fun m nn r hn hm => ?_
    refine ue r hn (.inl ⟨hm.oc, rfl⟩) ?_
    have e1 : cat2 P ++ B = cat2 dn ++ (q.1 ++ (q.2 ++ (cat2 rest ++ B))) := by rw [hP]; simp [List.flatMap_append]
    have e2 : cat2 P ++ B = (cat2 dn ++ q.1) ++ (q.2 ++ (cat2 rest ++ B)) := by rw [e1]; simp
    refine wpAny_bind (u2 (by rw [e1]) rfl hm.st hsz ?_)
    refine wpAny_bind ?_
    show wpAny M A (forIn [0] _ _) _ E _
    rw [List.forIn_cons]
    refine wpAny_bind (wpAny_bind ?_)
    rw [qq9 hm (by exact Nat.le_add_right ((cat2 dn).length + q.fst.length) q.snd.length)]
    refine u2 (pre := cat2 dn ++ q.1) (B := q.2) (post := cat2 rest ++ B) (by rw [e2]) (by exact Eq.symm List.length_append) (by rw [List.length_append]) hsz ?_
    refine wpAny_pure ?_
    dsimp only
    rw [List.forIn_nil]
    refine wpAny_pure (wpAny_pure ?_)
    rw [yz, yz, hm.st, hm.ha]
    have e3 : (cat2 (dn ++ [q])).length = (cat2 dn).length + q.1.length + q.2.length := by simp [List.flatMap_append]; exact Eq.symm (Nat.add_assoc (List.map (fun a => a.fst.length + a.snd.length) dn).sum q.fst.length q.snd.length)
    refine ⟨vs ++ [(S q.1, k)] ++ [(S q.2, k + 1)], k + 1 + 1, dn ++ [q], rest, n + 1, false, rfl, (by lia), by rw [hP]; exact List.append_cons dn q rest, ?_, ?_, (fun e => by cases e), fun ω => ?_⟩
    ·have hp := List.length_pos_iff.mpr (G.n q (by rw [hP]; exact List.mem_append_cons_self))
     have e4 : ((cat2 dn).length + q.1.length + q.2.length == (cat2 dn).length + q.1.length) = false := by rw [beq_eq_false_iff_ne]; lia
     rw [e3, e4]
    ·simp [hvs, List.flatMap_append]
    ·have := h2 rfl
     simp at this ⊢; assumption
 ·rintro st s' ⟨vs, k, dn, rest, n, ov, rfl, hk, hP, rfl, hvs, h1, h2⟩
  cases ov with
  | false => have := h2 rfl; simp at this
  | true =>
   obtain rfl := h1 rfl
   have hPd : P = dn := by simpa using hP
   subst hPd
   dsimp only
   rw [if_neg (by decide)]
   refine wpAny_bind (u2 (pre := cat2 P) (B := B) (post := []) (by simp [hx]) rfl (by simp [hx]) hsz ?_)
   rw [yz]
   refine wpAny_bind (wpAny_mono (h (vs ++ [(S B, k)]) (k + 1) (by exact Nat.le_add_right_of_le hk) (by simp [hvs])) (fun v s' z => ?_) fun ω ω z => z)
   exact wpAny_pure (y_ea v rfl z)
 ·have := qjw G.n
  simp [Builtin.Re.reMostMatches, hx] at this ⊢
  lia
end
end Mine
end
section
open PySem PySem.W PyProof.Rows PySem.Calls PySem.Spec
namespace Mine
theorem qey (P : List (List Nat × List Nat)) : (outs P).length = 2 * P.length := by
 induction P with
 | nil => rfl
 | cons q P ih => exact Eq.symm ((fun {a b} => Nat.succ_inj.mpr) (congrFun (congrArg HAdd.hAdd (id (Eq.symm ih))) 1))
section
variable {c : CX} {n : Nat} {os : List AO} {K : AV → List AO → Prop}
theorem quu {a : Addr} {o : Obj} {name : Str} {id : String} (C : c.Std) (ha : (KF c.w.params).lookup a = some o) (hc : o.cls = .type "re.Pattern") (hd : o.dict = none) (sl : Slot "re.Pattern" name id) (ty : typeOf (.builtin id) = pure (.type "method_descriptor")) :
  je c os (.glob (.ref a)) name (.builtin id) := fun A pl ρ s v Q E H hv q => by
 have e : v = .ref a := hv
 subst e
 have ho := C.kin H a o ha
 exact getMethod_builtin ⟨o, ho, hc⟩ qc6 sl ty (fun b e => by cases e; exact (y_ea o ho hd)) (q s.toks (Nat.le_refl _))
theorem qmt (C : c.Std) : je c os (.glob (.ref 81)) "split" (.builtin "re.Pattern.split") := quu C (KF81 _) rfl rfl vw qc8
theorem qmn (C : c.Std) {P : List (List Nat × List Nat)} {B x : List Nat} (G : qdz P B) (hx : x = cat2 P ++ B) (hl : x.length ≤ 100000) (h : K (.ref os.length) (os ++ [.list (sls (outs P ++ [B]))])) :
  CG c n (.builtin "re.Pattern.split") [.glob (.ref 81), .str (S x)] os K := fun A hA ρ s vs H V => by
 subst hx
 refine qc V fun v r z197y hv V1 => ?_; clear V; subst z197y
 have e : v = .ref 81 := hv
 subst e
 refine q9 (jl V1) fun t r' z196y V2 => ?_; subst z196y
 obtain rfl := q0 V2
 refine wpAny_call_entry vw ⟨qro, C.kin H 81 qro (KF81 _), rfl⟩ qbp ?_ (qct _ _)
 refine qpl (C.kin H) G hl fun vs k hk hvs => ?_
 have hsl : sizeLine = 16777216 := rfl
 refine wpAny_newList ?_ ?_
 ·have kp := qf (h := s.heap) (ob := { cls := .type "list", data := .seq (strValues vs).toArray })
  refine ⟨_, _, ρ ++ [s.heap.objs.size], h, H.alloc (d := s.drawn) (tk := k) H.gi.bare hk kp qe (Nat.le_refl _) ⟨strValues vs, ⟨0, Heap.get?_push_size _ rfl⟩, ?_⟩,
   Ext.alloc kp qe (Nat.le_refl _), s.heap.objs.size, by rw [← H.len]; exact List.getElem?_concat_length, rfl⟩
  rw [qhi, ← hvs]; exact qi4 vs
 ·have e1 : (strValues vs).length = (outs P ++ [B]).length := by
   have := congrArg List.length hvs
   simpa [strValues] using this
  have e2 := qey P
  have := qjw G.n
  rw [e1, List.length_append, e2, hsl]
  simp at hl ⊢ this
  lia
end
end Mine
end
section
open PySem PySem.W PyProof.Rows PySem.Calls PySem.Spec
namespace Mine
noncomputable def qde : Array Nat := #[14, 14, 4, 1, 1, 9, 0, 64, 0, 1342177280, 0, 0, 0, 0, 0, 17, 0, 13, 11, 9, 0, 64, 0, 1342177280, 0, 0, 0, 0, 0, 17, 1, 1]
noncomputable def qvw : Obj := { cls := .type "tuple", data := .seq (qde.map fun (i : Nat) => .int i 0) 0 }
noncomputable def qrn : Obj := { cls := .type "re.Pattern", data := .fields #[.str "([&~|])" 292, .int 32 327, .int 1 0, .none, .none, .ref 42, .int 0 0] }
theorem KF42 (P : Params) : (KF P).lookup 42 = some qvw := by kernel_rfl
theorem KF43 (P : Params) : (KF P).lookup 43 = some qrn := by kernel_rfl
noncomputable abbrev qcn : List (List Nat) := [[33, 98, 45, 100], [32, 101], [9, 101], [10, 32, 101], [10, 9, 101]]
theorem qvo {x : List Nat} (hx : x ∈ qcn) : ∃ m n, Run (Sre.forSearch qde x.toArray 1 0 x.toArray.size false) m n ∧ n ≤ 400000 ∧ m.outcome = some .failed := by
 refine (jk (Sre.M.runFor 4 (Sre.forSearch qde x.toArray 1 0 x.toArray.size false)) 4 (fun k => by rw [Nat.add_comm, yi]) (by exact Nat.le_of_ble_eq_true rfl) ?_)
 simp only [qcn, List.mem_cons, List.mem_nil_iff, or_false] at hx
 rcases hx with rfl | rfl | rfl | rfl | rfl <;> kernel_rfl
section
variable {w : World} {A : Around} {E : Value → Shared → Prop} {s : Shared}
theorem qo2 (u v : Value) : Builtin.Re.reNamed "re.Pattern.sub" "sub" ["repl", "string", "count"] 2 [u, v] [] = pure [some u, some v, none] := by kernel_rfl
theorem u5 {P : Params} (X : (KF P).In s.heap) {x : Str} {t : Tok} {Q : Builtin.Re.ReTarget → Shared → Prop}
  (h : Q { pattern := .ref 43, string := .str x t, code := qde, text := x.cps, kind := 0, groups := 1, pos := 0, lim := x.cps.size } s) : wpAny (MM w) A (Builtin.Re.reWholeTarget (.ref 43) (.str x t)) Q E s := by
 unfold Builtin.Re.reWholeTarget
 refine wpAny_bind (wpAny_fieldsOf (X 43 qrn (KF43 P)) rfl ?_)
 have e : Builtin.Re.reTextOf (.str x t) = pure (x.cps, 0) := rfl
 rw [e]
 refine wpAny_bind (wpAny_pure ?_)
 show wpAny _ A (Builtin.Re.reNoCollectionInside (.str x t) 0 >>= _) Q E s
 have e2 : Builtin.Re.reNoCollectionInside (.str x t) 0 = pure () := rfl
 rw [e2]
 refine wpAny_bind (wpAny_pure ?_)
 show wpAny _ A (Builtin.Re.reRawItems (.ref 42) >>= _) Q E s
 refine wpAny_bind ?_
 unfold Builtin.Re.reRawItems
 refine wpAny_bind (wpAny_seqItems (X 42 qvw (KF42 P)) rfl (wpAny_pure ?_))
 refine wpAny_pure ?_
 have ec : Array.map (fun x : Int => x.toNat) (Array.map Builtin.Re.reRawOf ((some (qde.map fun (i : Nat) => Value.int i 0)).getD #[])) = qde := by kernel_rfl
 rw [ec]
 exact h
theorem qtk : typeLookup (.type "function") "__call__" = pure (some (.builtin "function.__call__")) := by exact of_pureOf rfl
theorem qv3 : isSubtype (.type "str") (.type "bytearray") = pure false := by exact F.sub_str_bytearray
theorem qri {P : Params} (X : (KF P).In s.heap) {x : List Nat} (hx : x ∈ qcn) {t : Tok} {v : Value} {l : Addr} (hl : s.heap.get? l = some { cls := .type "list", data := .seq #[] }) {Q : Value → Shared → Prop}
  (h : ∀ h' tk t', s.toks ≤ tk → Heap.SameBut l s.heap h' → Q (.str (S x) t') { s with heap := h', toks := tk }) :
  wpAny (MM w) A (Builtin.«re.Pattern.sub.loop» ⟨[.ref 43, .str (S x) t, v, rawInt 1, rawInt 0, rawInt 0, rawInt 0, rawInt 0, .bool false, .ref l, .bool false], []⟩) (fun fin s' => ∃ v, fin = .done (.ret v) ∧ Q v s') E s := by
 have hsl : sizeLine = 16777216 := rfl
 have hlen : x.length ≤ 4 ∧ x.length ≠ 0 := by
  simp only [qcn, List.mem_cons, List.mem_nil_iff, or_false] at hx
  rcases hx with rfl | rfl | rfl | rfl | rfl <;> simp
 refine qc (qvo hx) fun m nn r hn ho => ?_
 unfold Builtin.«re.Pattern.sub.loop»
 refine wpAny_bind (u5 X ?_)
 simp only [rawInt]
 rw [if_neg (by exact ne_true_of_eq_false rfl)]
 refine wpAny_bind ?_
 rw [if_neg (by exact ne_true_of_eq_false rfl)]
 refine ue (s := s) r hn (.inr ⟨ho, rfl⟩) ?_
 simp only
 have hsz : (S x).cps.size = x.length := by rfl
 rw [if_pos (by rw [hsz]; show (0 : Int).toNat < _; simp; lia)]
 refine wpAny_bind (u2 (pre := []) (B := x) (post := []) (T := (S x).cps) (by simp [S]) rfl (by simp [hsz]) (by rw [hsz]; lia) ?_)
 refine wpAny_bind (wpAny_updateSeq hl rfl ?_ (by decide))
 have hl1 : (s.heap.update l (Obj.mapSeq fun xs => xs.push (.str (S x) s.toks))).get? l = some { cls := .type "list", data := .seq #[.str (S x) s.toks] 1 } := by rw [Heap.get?_update_self _ hl rfl]; rfl
 have sb : Heap.SameBut l s.heap (s.heap.update l (Obj.mapSeq fun xs => xs.push (.str (S x) s.toks))) := Heap.SameBut.update ..
 dsimp only
 generalize s.heap.update l (Obj.mapSeq fun xs => xs.push (.str (S x) s.toks)) = h1 at hl1 sb ⊢
 refine wpAny_bind (u2 (pre := []) (B := []) (post := x) (T := (S x).cps) (by simp [S]) rfl rfl (by rw [hsz]; lia) ?_)
 refine wpAny_bind (wpAny_seqItems hl1 rfl ?_)
 rw [if_neg (by exact ne_true_of_eq_false rfl)]
 have hj : JoinOk (S []) [S x] = true := by
  refine joinOk_of ?_
  simp [jb, hsl]; lia
 refine wpAny_bind (qr (SC.join (D := l) (l := [(S x, s.toks)]) (texts := [S x]) ⟨_, hl1, rfl, 1, rfl⟩ rfl hj fun t' k ht => ?_))
 rw [if_neg (by exact Bool.false_ne_true)]
 have e : Txt.join (S []) [S x] = S x := by
  show Builtin.Str.glued (S []) [S x] = _
  rw [StrLaws.glued_eq_join]; rfl
 rw [e]
 exact wpAny_pure (y_ea _ rfl (h h1 k t' (by simp only at ht; lia) sb))
theorem ql0 {args : Args} : (Code.builtin "re.Pattern.sub.loop" args).quiet = true := plainId_quiet (by decide +kernel) args
theorem que {P : Params} (X : (KF P).In s.heap) {x : List Nat} (hx : x ∈ qcn) {t : Tok} {f : Addr} {o : Obj} (hf : s.heap.get? f = some o) (hc : o.cls = .type "function") {Q : PySem.Fin → Shared → Prop}
  (h : Q (.again (.builtin "re.Pattern.sub.loop" ⟨[.ref 43, .str (S x) t, .ref f, rawInt 1, rawInt 0, rawInt 0, rawInt 0, rawInt 0, .bool false, .ref s.heap.objs.size, .bool false], []⟩)) { s with heap := s.heap.push { cls := .type "list", data := .seq #[] } }) :
  wpAny (MM w) A (Builtin.«re.Pattern.sub» ⟨[.ref 43, .ref f, .str (S x) t], []⟩) Q E s := by
 unfold Builtin.«re.Pattern.sub» Builtin.Re.reSubstitute
 refine wpAny_bind (wpAny_of_eq (qo2 _ _) ?_)
 refine wpAny_bind (wpAny_pure ?_)
 refine wpAny_bind (wpAny_specialOf (T := "function") ⟨o, hf, hc⟩ qtk ?_)
 simp only [Option.isSome_some, if_true]
 refine wpAny_bind (wpAny_pure ?_)
 refine wpAny_bind (wpAny_pure ?_)
 refine wpAny_bind (wpAny_holding (u5 X ?_))
 simp only [beq_self_eq_true, if_true]
 refine wpAny_bind ?_
 unfold Builtin.Re.reNotHeld
 refine wpAny_bind (wpAny_isInstance (T := "str") (b := false) (typeIs_str _ _ _) qv3 ?_)
 rw [if_neg (by exact Bool.false_ne_true)]
 refine wpAny_pure ?_
 refine wpAny_bind (wpAny_newList ?_)
 exact wpAny_pure h
end
section
variable {c : CX} {n : Nat} {os : List AO} {K : AV → List AO → Prop}
theorem qmu (C : c.Std) : je c os (.glob (.ref 43)) "sub" (.builtin "re.Pattern.sub") := quu C (KF43 _) rfl rfl w0 qhl
theorem qmp (C : c.Std) {x : List Nat} (hx : x ∈ qcn) (h : K (.str (S x)) os) : CG c n (.builtin "re.Pattern.sub") [.glob (.ref 43), .lam, .str (S x)] os K := fun A hA ρ s vs H V => by
 refine qc V fun v r z144y hv V1 => ?_; clear V; subst z144y
 have e : v = .ref 43 := hv
 subst e
 refine qc V1 fun v r z142y z143y V2 => ?_; clear V1; subst z142y; refine xx z143y fun f o z145y hf hc ω => ?_; clear z143y; subst z145y
 refine q9 (jl V2) fun t r z141y V3 => ?_; subst z141y
 obtain rfl := q0 V3
 refine wpAny_call (codeAny_call_builtin w0.plain qeg (w0.check _ _ _ _ _ _ _ _ ⟨qrn, C.kin H 43 qrn (KF43 _), rfl⟩ (qf3 _ _ _) ?_))
 refine que (C.kin H) hx hf hc ⟨ql0, codeAny_builtin qcu ?_⟩
 rw [Around.under_plainId (by decide +kernel) _]
 have kp := qf (h := s.heap) (ob := { cls := .type "list", data := .seq #[] })
 refine wpAny_mono (qri (X := (C.kin H).keeps kp) hx (Heap.get?_push_size _ rfl) (Q := Post c ρ s K) fun h' tk t' ht sb => ?_) (fun fin s' z => ?_) fun ω ω z => z
 ·have kp2 : ∀ b o, s.heap.get? b = some o → h'.get? b = some o := fun b o e => (sb.2 b (Nat.ne_of_lt (Heap.lt_size e))).trans (kp b o e)
  have hz : s.heap.objs.size ≤ h'.objs.size := by rw [sb.1]; exact qe
  exact ⟨_, os, ρ, h, H.keeps (d := s.drawn) (tk := tk) H.gi.bare ht kp2 hz, Ext.keeps (d := s.drawn) kp2 hz, _, rfl⟩
 ·refine x_ea z fun v z140y zz => ?_; clear z; subst z140y
  exact zz
end
end Mine
end
section
open PySem PySem.W PyProof.Rows PySem.Calls PySem.Spec Builtin Builtin.ObjectAttr
namespace Mine
section
variable {c : CX} {n : Nat} {os : List AO} {K : AV → List AO → Prop} {e : EF} {loc : Loc} {ρ : List Addr} {s s' s'' : Shared} {t : Tab}
theorem qtm (C : c.Std) (ht : t ∈ c.tabs) {A : Around} (hA : AR A n) (F : FR c e loc os ρ s) (hcode : e.env.code = .ref t.c) {k : Nat} {xs : List (List Nat)} (hk : os[k]? = some (.list (sls xs)))
  {x xi : Str} {px pi pos : Pos} {elt : Expr} {scope : Scope} {cl : List (Str × Addr)} (hself : LkAt e.ls loc xi (.ref k))
  (hco : scope.isCoroutine = false) (hclos : closureFor scope e.env = pure cl) (hcell : ∀ y ∈ scope.names, y.2 ≠ .cell) (h0 : scope.names.lookup (".0" : Str) = some NameKind.local)
  (hx : scope.names.lookup x = some .local) (hkind : scope.kind = .function) (Fv : Nat → Value → Prop)
  (hel : ∀ (CC : Addr) (code : Value) A' E' i v (s₂ : Shared) m₂, A'.handled = none → (∃ (hi : i < xs.length) (u : Tok), v = .str (S xs[i]) u) → s₂.heap.Ns CC m₂ → m₂ x = some v →
   (∀ b o, b ≠ t.P → s.heap.get? b = some o → s₂.heap.get? b = some o) → wpAny (MM c.w) A' (eval elt (genEnv scope cl CC code builtinsNs e.env)) (fun y s₃ => Fv i y ∧ Keeps s₂ s₃) E' s₂)
  {Q : Value → Shared → Prop} (hQ : ∀ a fp wr g St s', Gro c t s s' → WalksS PG c.w A.in4 a fp wr (GenOnlyQ g) xs.length Fv St → St 0 s' → (∀ i s', St i s' → s'.TypeIs (.ref a) "generator") → a ∈ fp →
   (∀ b ∈ fp, b < s'.heap.objs.size) → (∀ b ∈ wr, s.heap.objs.size ≤ b) → Q (.ref a) s') :
  wpAny (MM c.w) A (eval (.GeneratorExp elt [⟨.Name x px, .Name xi pi, [], 0⟩] scope pos) e.env) Q NoE s := by
 refine x_ea F.ns fun m hn hm => ?_
 obtain ⟨hl, v, hv, a, ha, rfl⟩ := hself.get hm
 refine x_ea (qq F.hr hk ha) fun vs hL rv => ?_
 have hlen := rv.length
 simp only [List.length_map] at hlen
 obtain ⟨mL, hg⟩ := id hL
 have room : A.depth < recursionLimit := by have := hA.depth; show A.depth < 1000; lia
 have lim := F.hr.gi.lim
 refine qr (wpAny_GeneratorExp_walksQ hA.hd hco hclos hcell h0 hx hkind room (wpAny_Name (wpAny_loadName_local F.ok.kind (F.ok.ls xi hl).1 hn hv ?_) (F.ok.ls xi hl).2) (fun x => by rfl))
 refine wpAny_pyIter_list hL.list ?_
 have kp := qf (h := s.heap) (ob := { cls := .type "list_iterator", data := .fields #[.ref a, .int 0 0] })
 refine ⟨lim.push _, ?_⟩
 have H1 : c.HR ρ os { s with heap := s.heap.push { cls := .type "list_iterator", data := .fields #[.ref a, .int 0 0] } } := F.hr.keeps (d := s.drawn) (tk := s.toks) F.hr.gi.bare (Nat.le_refl _) kp qe
 refine qn2 C H1.gi ht hcode fun code h' tk g1 => ?_
 have H2 := g1.hr C H1 ht
 rw [F.ok.glob]
 refine (qet (C.kin H2)).here ?_
 let sz := s.heap.objs.size
 have hal : a < sz := Heap.lt_size hg
 have hPlt : t.P < c.B.heap.objs.size := (H1.gi.tab t ht).low.2
 have hit0 : h'.IsListIter sz a 0 := by
  refine ⟨_, g1.keep sz _ ?_ (Heap.get?_push_size _ rfl), rfl, rfl⟩
  intro q; have : sz < c.B.heap.objs.size := q ▸ hPlt
  exact absurd this (Nat.not_lt.mpr F.hr.gi.size)
 have up : ∀ b o, b ≠ t.P → s.heap.get? b = some o → h'.get? b = some o := fun b o hb e => g1.keep b o hb (kp b o e)
 have haP : a ≠ t.P := fun q => absurd (q ▸ hPlt : a < c.B.heap.objs.size) (Nat.not_lt.mpr (F.hr.fresh a (List.mem_of_getElem? ha)))
 have hsz : vs.toArray.size = xs.length := by assumption
 refine (y_e4 sz _ [sz] vs.toArray.size (w5 _ _ (fun ω => true) Fv rfl (fun A' hA' => Walks.list hA' sz a (Nat.ne_of_lt hal) vs.toArray) ?_ ?_ ?_ ?_ ⟨?_, ?_⟩))
 ·exact ⟨hit0, _, up _ _ haP hg, rfl, mL, rfl⟩
 ·intro b hb
  have hs' : s.heap.objs.size + 1 ≤ h'.objs.size := by
   have := g1.size; simpa [Heap.size_push] using this
  simp at hb
  rcases hb with rfl | rfl
  ·exact hs'
  ·exact Nat.lt_of_lt_of_le hal (Nat.le_trans (Nat.le_succ _) hs')
 ·exact H2.gi.lim
 ·intro q
  simp at q
  have : cStatics < c.B.heap.objs.size := H2.gi.lowS.1
  have h3 := F.hr.gi.size
  exact absurd (q ▸ this : sz < c.B.heap.objs.size) (Nat.not_lt.mpr h3)
 ·intro href hhref
  refine ⟨fun A' E' i v s₂ m₂ hA' hP hn₂ hma hk => ?_, fun A' E' i v s₂ m₂ hA' hP hpz hn₂ hma hk => ?_⟩
  ·rw [List.forIn_nil]
   exact wpAny_pure ⟨rfl, s₂.heap, s₂.toks, rfl, fun ω ω e => e⟩
  ·have hi : i < vs.toArray.size := (Array.getElem?_eq_some_iff.mp hP).1
   have hi' : i < xs.length := by exact Nat.lt_of_lt_of_eq hi hlen
   refine x_ea (rv.get (n := i) (x := .str (S xs[i])) (by simp [hi'])) fun u hu z145y => ?_; obtain ⟨t', e⟩ := z145y
   have hvu : v = u := by
    have hP' : vs[i]? = some v := by simpa using hP
    exact (Option.some.inj (hu.symm.trans hP')).symm
   refine hel _ _ A' E' i v s₂ m₂ hA' ⟨hi', t', hvu.trans e⟩ hn₂ hma fun b o hb e => ?_
   have e1 := up b o hb e
   refine hk b (List.mem_range.mpr (Heap.lt_size e1)) (fun q => ?_) o (hhref b o e1)
   simp at q; subst q
   exact absurd (Heap.lt_size e) (Nat.lt_irrefl _)
 ·intro g h₅ tk₅ gs hb hlt hz5 k5 W St
  rw [hsz] at W St
  have W' := W.imp (P' := Fv) fun j v hv => by
   refine x_ea hv fun i hi hf => ?_; clear hv
   rw [yg] at hi
   have := List.getElem?_eq_some_iff.mp hi
   simp at this
   exact this.2 ▸ hf
  rw [yg, List.length_range] at W'
  have gA : Gro c t s ⟨h', s.gens, s.drawn, tk, s.os⟩ := by
   refine qc g1.tab fun ps more t0 t1 t2 => ?_
   have hPl : t.P < s.heap.objs.size := Nat.lt_of_lt_of_le hPlt F.hr.gi.size
   have hcl : t.c < s.heap.objs.size := Nat.lt_of_lt_of_le (H1.gi.tab t ht).low.1 F.hr.gi.size
   refine xy ((F.hr.gi.tab t ht).now) fun ps0 i0 t00 ω => ?_
   have : ps0 = ps := by
    have h1 := kp _ _ t00.2
    rw [t0.2] at h1; injection h1 with h1; injection h1 with _ _ h1; injection h1 with h1; exact h1.symm
   subst this
   exact ⟨up, (jk ps0 more t00 t1 t2), Nat.le_trans qe g1.size, rfl, F.hr.gi.bare, g1.tk⟩
  intro htk
  have hlt' : h'.objs.size < g := hlt
  have hz5' : h₅.objs.size = g + 1 := hz5
  have gB : Gro c t s { s with gens := s.gens.push gs, toks := tk₅, heap := h₅ } := by
   refine qc gA.tab fun ps more t0 t1 t2 => ?_
   exact ⟨fun b o hb' e => k5 _ _ (gA.keep b o hb' e), (jk ps more t0 (t1.keeps k5) (t2.keeps k5)), Nat.le_trans gA.size (by show h'.objs.size ≤ h₅.objs.size; rw [hz5']; exact Nat.le_succ_of_le (Nat.le_of_lt hlt')), rfl, F.hr.gi.bare.push hb, htk⟩
  refine hQ g _ _ _ _ _ gB W' St (fun i s' z => z.1.typeIs) (.head _) ?_ ?_
  ·intro b hb'
   show b < h₅.objs.size
   rw [hz5']
   rcases List.mem_cons.mp hb' with rfl | hb'
   ·exact Nat.lt_succ_self _
   ·rcases List.mem_cons.mp hb' with rfl | hb'
    ·exact Nat.lt_succ_of_lt hlt'
    ·exact Nat.lt_succ_of_lt (Nat.lt_trans (List.mem_range.mp hb' : b < h'.objs.size) hlt')
  ·intro b hb'
   have hs' : s.heap.objs.size + 1 ≤ h'.objs.size := by
    have := g1.size; simpa [Heap.size_push] using this
   rcases List.mem_cons.mp hb' with rfl | hb'
   ·exact Nat.le_trans (Nat.le_succ _) hs'
   ·simp at hb'; subst hb'; exact Nat.le_refl _
end
end Mine
end
section
open PySem PySem.W PyProof.Rows PySem.Calls PySem.Spec Builtin Builtin.Str
namespace Mine
theorem qik (x y : Str) (i j : Int) (t u v z : Tok) (hj : 0 ≤ j) : Gives («str.find» ⟨[.str x t, .str y u, .int i v, .int j z], []⟩) (.int (match occurrences x y (fromIndex x.length i) (min j.toNat x.length) 1 with | k :: _ => (k : Int) | [] => -1)) := by
 have e : fromIndex x.length j = j.toNat := by unfold fromIndex; rw [if_neg (by exact Int.not_lt_of_ge hj)]; lia
 rw [← e]
 show Gives (match occurrences x y (fromIndex x.length i) (min (fromIndex x.length j) x.length) 1 with | k :: _ => retInt k | [] => (do rule "str.find.not-found"; retInt (-1))) _
 cases occurrences x y (fromIndex x.length i) (min (fromIndex x.length j) x.length) 1 with
 | nil => exact .rule (.of_eq rfl)
 | cons k _ => exact .of_eq rfl
theorem qo5 {x y : Str} {lo hi : Nat} (h1 : lo + y.length ≤ hi) (h2 : subAt x y lo = true) : ∃ r, occurrences x y lo hi 1 = lo :: r := by
 rw [StrLaws.occ_eq, show hi + 1 - lo = (hi - lo) + 1 by lia, List.range'_succ, List.forIn_cons]
 have e : StrLaws.occBody x y hi 1 lo (#[], lo) = pure (ForInStep.yield (#[lo], lo + y.length)) := by
  unfold StrLaws.occBody
  rw [if_pos ⟨⟨⟨Nat.lt_succ_self 0, Nat.le_refl _⟩, h1⟩, h2⟩]; rfl
 rw [e]
 have := StrLaws.occ_head_keeps x y hi 1 lo (List.range' (lo + 1) (hi - lo)) (#[lo], lo + y.length) rfl
 show ∃ r, (forIn (List.range' (lo + 1) (hi - lo)) (#[lo], lo + y.length) (StrLaws.occBody x y hi 1)).run.fst.toList = lo :: r
 generalize (forIn (List.range' (lo + 1) (hi - lo)) (#[lo], lo + y.length) (StrLaws.occBody x y hi 1)).run.fst = z at this
 cases hz : z.toList with
 | nil => rw [← Array.getElem?_toList, hz] at this; cases this
 | cons a r => rw [← Array.getElem?_toList, hz] at this; cases this; exact ⟨r, rfl⟩
theorem qrl {x y : Str} {lo hi : Nat} (h1 : hi < lo) : occurrences x y lo hi 1 = [] := by
 rw [StrLaws.occ_eq, show hi + 1 - lo = 0 by exact Nat.sub_eq_zero_of_le h1]; rfl
section
variable {c : CX} {n : Nat} {os : List AO} {K : AV → List AO → Prop}
theorem qta {x y : Str} {i j : Int} (hj : 0 ≤ j) (h : K (.int (match occurrences x y (fromIndex x.length i) (min j.toNat x.length) 1 with | k :: _ => (k : Int) | [] => -1)) os) : CG c n (.builtin "str.find") [.str x, .str y, .int i, .int j] os K := fun A hA ρ s vs H V => by
 refine q9 (jl V) fun t r z152y V1 => ?_; subst z152y
 refine q9 (jl V1) fun u r z151y V2 => ?_; subst z151y
 refine q9 (wo V2) fun v r z150y V3 => ?_; subst z150y
 refine q9 (wo V3) fun z r z149y V4 => ?_; subst z149y
 obtain rfl := q0 V4
 exact call_gives PySem.F.slot_str_find (typeIs_str _ _ _) PySem.F.entry_str_find (PySem.F.args_str_find_4 _ _ _ _) (qik x y i j t u v z hj) (Post.ret _ (Nat.le_succ _) H h ⟨_, rfl⟩)
theorem qe5 {w : World} {A : Around} {E : Value → Shared → Prop} {s : Shared} {x y z : Str} {t u v : Tok} {Q : Value → Shared → Prop} (ho : (occurrences x y 0 x.length (x.length + 1)).isEmpty = true) (h : Q (.str x t) s) : wpAny (MM w) A (call (.builtin "str.replace") [.str x t, .str y u, .str z v]) Q E s := by
 refine call_gives PySem.F.slot_str_replace (typeIs_str _ _ _) PySem.F.entry_str_replace (PySem.F.args_str_replace_3 _ _ _) (gives_str_replace x y z t u v fun q => by rw [ho] at q; simp at q) ?_
 rw [ho]; exact h
theorem qkv {x y z : Str} (ho : (occurrences x y 0 x.length (x.length + 1)).isEmpty = true) (h : K (.str x) os) : CG c n (.builtin "str.replace") [.str x, .str y, .str z] os K := fun A hA ρ s vs H V => by
 refine q9 (jl V) fun t r z148y V1 => ?_; subst z148y
 refine q9 (jl V1) fun u r z147y V2 => ?_; subst z147y
 refine q9 (jl V2) fun v r z146y V3 => ?_; subst z146y
 obtain rfl := q0 V3
 exact qe5 ho (Post.now H h ⟨_, rfl⟩)
theorem qqr {a : AV} {xs : List AV} {d : PyData} {ds : List PyData} (hx : AVD os a d) (hs : AVDs os xs ds) (hd : d.canLay0 = true) (hds : PyData.canLayAll0 ds = true) (hp : d.depth ≤ 100) (h : K (.bool (ds.any fun y => PyData.eqv y d)) os) : TV2 c n (compareOp .In) a (.tup xs) os K := fun A hA ρ s v u H hv hu => by
 obtain ⟨as, ra⟩ := hx.reads H hv
 obtain ⟨bs, rb⟩ := (AVD.tup hs).reads H hu
 have := hA.units
 exact SeqAt.in_tuple_reads rb ra hds hd (by have : cLine = 9900 := rfl; lia) (Post.now H h rfl)
end
end Mine
end
section
open PySem PySem.W PyProof.Rows PySem.Calls PySem.Spec
namespace Mine
theorem qtg (d : List Nat) (ch : Nat) (r : List Nat) : (seqIndex? (d.length : Int) (S (d ++ ch :: r)).length).bind ((S (d ++ ch :: r)).cps[·]?) = some ch := by
 rw [qof (by simp) (by rw [jb]; simp; exact Int.lt_add_succ (↑d.length) r.length)]; simp [S]
theorem qv0 (x : List Nat) {a b : Nat} (hab : a ≤ b) (hb : b ≤ x.length) : Txt.slice (S x) (some (a : Int)) (some (b : Int)) = S ((x.drop a).take (b - a)) := by
 have := StrLaws.sliceText_nat (S x) hab (by assumption)
 rw [show Txt.slice (S x) (some (a : Int)) (some (b : Int)) = StrLaws.sliceText (S x) (some (a : Int)) (some (b : Int)) from rfl, this]
 rfl
structure Br (pat : Str) (b : Int) (B : List Nat) : Prop where
 ch : ∀ (k : Nat) (hk : k < B.length), (seqIndex? (b + 1 + k) pat.length).bind (pat.cps[·]?) = some B[k]
 e : (seqIndex? (b + 1 + B.length) pat.length).bind (pat.cps[·]?) = some 93
 sl : ∀ u v : Nat, u ≤ v → v ≤ B.length → Txt.slice pat (some (b + 1 + u)) (some (b + 1 + v)) = S ((B.drop u).take (v - u))
theorem qju (A B R : List Nat) : Br (S (A ++ 91 :: (B ++ 93 :: R))) (A.length : Nat) B := by
 refine ⟨fun k hk => ?_, ?_, fun u v huv hv => ?_⟩
 ·have e1 : A ++ 91 :: (B ++ 93 :: R) = (A ++ 91 :: B.take k) ++ B[k] :: (B.drop (k + 1) ++ 93 :: R) := by
   have : B = B.take k ++ B[k] :: B.drop (k + 1) := by simp
   have h2 : B ++ 93 :: R = B.take k ++ B[k] :: (B.drop (k + 1) ++ 93 :: R) := by
    calc B ++ 93 :: R = (B.take k ++ B[k] :: B.drop (k + 1)) ++ 93 :: R := by rw [← this]
     _ = _ := by rw [List.append_assoc, List.cons_append]
   rw [h2]; simp
  rw [e1]
  have e2 := qtg (A ++ 91 :: B.take k) B[k] (B.drop (k + 1) ++ 93 :: R)
  have e3 : ((A ++ 91 :: B.take k).length : Int) = (A.length : Int) + 1 + k := by simp; lia
  rw [e3] at e2; exact e2
 ·have e1 : A ++ 91 :: (B ++ 93 :: R) = (A ++ 91 :: B) ++ 93 :: R := by simp
  rw [e1]
  have e2 := qtg (A ++ 91 :: B) 93 R
  have e3 : ((A ++ 91 :: B).length : Int) = (A.length : Int) + 1 + B.length := by simp; lia
  rw [e3] at e2; exact e2
 ·have e1 := qv0 (A ++ 91 :: (B ++ 93 :: R)) (a := A.length + 1 + u) (b := A.length + 1 + v) (by exact (fun {m k n} => Nat.add_le_add_iff_left.mpr) huv) (by simp; lia)
  have e2 : ((A.length + 1 + u : Nat) : Int) = (A.length : Int) + 1 + u := by rfl
  have e3 : ((A.length + 1 + v : Nat) : Int) = (A.length : Int) + 1 + v := by rfl
  rw [e2, e3] at e1
  rw [e1]
  congr 1
  have d1 : (A ++ 91 :: (B ++ 93 :: R)).drop (A.length + 1 + u) = (B ++ 93 :: R).drop u := by
   rw [show A ++ 91 :: (B ++ 93 :: R) = (A ++ [91]) ++ (B ++ 93 :: R) by exact List.append_cons A 91 (B ++ 93 :: R), ← List.drop_drop]
   congr 1
   simp
  rw [d1, show A.length + 1 + v - (A.length + 1 + u) = v - u by exact Nat.add_sub_add_left (A.length + 1) v u, List.drop_append_of_le_length (by exact Nat.le_trans huv hv), List.take_append_of_le_length (by simp; lia)]
end Mine
end
section
open PySem PySem.W PyProof.Rows PySem.Calls PySem.Spec Builtin Builtin.Str
namespace Mine
noncomputable def qbs (x y : Str) (i j : Int) : Int := match occurrences x y (fromIndex x.length i) (min j.toNat x.length) 1 with | k :: _ => (k : Int) | [] => -1
theorem qtj (A R : List Nat) {B1 B2 : List Nat} {ch : Nat} {y : Str} {lo hi : Int} (hy : y = S [ch]) (hlo : lo = ((A ++ B1).length : Nat)) (hhi : hi = ((A ++ B1).length + 1 + B2.length : Nat)) :
  qbs (S ((A ++ B1) ++ ch :: (B2 ++ R))) y lo hi = lo := by
 subst hy
 have hl : (S ((A ++ B1) ++ ch :: (B2 ++ R))).length = (A ++ B1).length + (1 + (B2.length + R.length)) := by rw [jb]; simp; lia
 have e1 : fromIndex (S ((A ++ B1) ++ ch :: (B2 ++ R))).length lo = (A ++ B1).length := by
  unfold fromIndex; rw [if_neg (by lia)]; lia
 have e2 : min hi.toNat (S ((A ++ B1) ++ ch :: (B2 ++ R))).length = (A ++ B1).length + 1 + B2.length := by
  rw [hl]; lia
 obtain ⟨r, hr⟩ := qo5 (x := S ((A ++ B1) ++ ch :: (B2 ++ R))) (y := S [ch]) (lo := (A ++ B1).length) (hi := (A ++ B1).length + 1 + B2.length) (by exact Nat.le_add_right ((A ++ B1).length + (S [ch]).length) B2.length) (by
  rw [StrLaws.subAt_eq]; simp only [S, List.toList_toArray, List.drop_left', jb]
  exact ReflBEq.rfl)
 unfold qbs
 rw [e1, e2, hr]; exact hlo.symm
theorem qnw {x y : Str} {i j : Int} (hj : 0 ≤ j) (h : j < i) (hx : j ≤ x.length) : qbs x y i j = -1 := by
 have e1 : fromIndex x.length i = i.toNat := by unfold fromIndex; rw [if_neg (by lia)]; lia
 unfold qbs
 rw [e1, qrl (by omega)]
section
variable {c : CX} {n : Nat} {os : List AO} {K : AV → List AO → Prop}
theorem qji {x y : Str} {i j : Int} (hj : 0 ≤ j) (h : K (.int (qbs x y i j)) os) : CG c n (.builtin "str.find") [.str x, .str y, .int i, .int j] os K := qta hj h
end
end Mine
end
section
open PySem PySem.W PyProof.Rows PySem.Calls PySem.Spec Builtin
namespace Mine
theorem qo1 : mroOf (.type "object") = pure [.type "object"] := by exact F.mro_object
theorem qc1 : typeLookup (.type "object") "__new__" = pure (some (.builtin "object.__new__")) := by exact of_pureOf rfl
theorem qfb : Slot "object" "__init__" "object.__init__" :=
 .of (owner := "object") (n := "__init__") (by exact of_pureOf rfl) (by rfl) (by rfl) (by rfl)
  (by exact Or.symm (Or.inr rfl)) (by exact F.isi_self_object)
theorem qj9 : Bind.madeBy (.type "object") = pure (some "object.__new__") := madeBy_type qo1 qc1 (by decide +kernel)
theorem qk4 : TypeCalled "object" "object.__new__" "object.__init__" :=
 ⟨by rfl, by exact Bool.eq_false_of_le_false fun a => a, (y_e2 _ _ qo1), qj9, by decide +kernel, by exact F.isi_self_object, qfb⟩
theorem qg1 : Bind.madeHere "object.__new__" (.type "object") = pure () := by
 unfold Bind.madeHere
 have e : Bind.staticBase (.type "object") = pure (.type "object") := by first | rfl | kernel_rfl
 rw [e]
 simp only [pure_bind, qj9]
 first | rfl | kernel_rfl | (simp; rfl)
theorem qew {self : Value} : Meets (Builtin.«object.__init__» ⟨[self], []⟩) (fun ω R s => R (.ok (.ret .none)) s) :=
 Meets.of_wp fun prog w A R s hs => wpAny_pure (y_ea _ rfl hs)
theorem qio (T : String) : isType (.type T) = pure true := rfl
theorem qg5 : Meets (Builtin.«object.__new__» ⟨[.type "object"], []⟩) (fun ω R s => R (.ok (.ret (.ref s.heap.objs.size))) { s with heap := s.heap.push { cls := .type "object" } }) := by
 refine Meets.of_wp fun prog w A R s hs => ?_
 unfold Builtin.«object.__new__»
 have h1 : (Manifest.find? "object").elim false (fun e => e.mro.any (fun t => (Manifest.find? t).elim false (·.noNew))) = false := by exact Bool.eq_false_of_le_false fun a => a
 have h2 : typeHasDict (.type "object") = false := by decide +kernel
 have h3 : diesByItsTypesDel "object" = false := by rfl
 simp only [qio, pure_bind, Bool.not_true, Bool.false_eq_true, if_false, h1, h2, h3, List.isEmpty_nil, Bool.or_false]
 rw [qg1]
 simp only [pure_bind]
 exact wpAny_bind (wpAny_newObj_type (wpAny_pure (y_ea _ rfl hs)))
section
variable {c : CX} {n : Nat} {os : List AO} {K : AV → List AO → Prop} {ρ : List Addr} {s : Shared}
theorem qqc (h : K (.ref os.length) (os ++ [.opq])) : CG c n (.type "object") [] os K := fun A hA ρ s vs H V => by
 obtain rfl := q0 V
 refine callType_meets (Q₁ := fun obj s₁ => obj = .ref s.heap.objs.size ∧ s₁ = { s with heap := s.heap.push { cls := .type "object" } }) qk4 (by kernel_rfl) (by kernel_rfl) F.entry_object_new F.entry_object_init qg5 ⟨rfl, rfl⟩ ?_
 rintro obj s₁ q75x; obtain ⟨rfl, rfl⟩ := q75x
 have hg : (s.heap.push { cls := .type "object" }).get? s.heap.objs.size = some { cls := .type "object" } := Heap.get?_push_size _ rfl
 have hlen : ρ[os.length]? = none := List.getElem?_eq_none (by rw [H.len]; exact Nat.le_refl _)
 refine ⟨?_, by unfold argsOk; kernel_rfl, _, qew, rfl, .ref os.length, _, ρ ++ [s.heap.objs.size], h, H.alloc (ao := .opq) H.gi.bare (Nat.le_refl _) qf qe (Nat.le_refl _) hg, Ext.alloc qf qe (Nat.le_refl _), s.heap.objs.size, ?_, rfl⟩
 ·exact ⟨_, hg, rfl⟩
 ·rw [← H.len]; exact List.getElem?_concat_length
end
end Mine
end
section
open PySem PySem.W PyProof.Rows PySem.Calls PySem.Spec Builtin
namespace Mine
theorem qlu {M : Model} {A : Around} {E : Value → Shared → Prop} {s : Shared} {scope : Scope} {g : Addr} {cl : List (Str × Addr)} {q : Str} {env : Env} {Q : Env → Shared → Prop}
  (h : wpAny M A (newFunctionEnv scope g cl [] q none .none (some env)) Q E s) : wpAny M A (newFunctionEnv scope g cl [] q none .none (some env)) (fun cenv s' => cenv.locals = s.heap.objs.size ∧ Q cenv s') E s := fun Γ p hΓ => by
 have h1 := h Γ p hΓ
 simp only [newFunctionEnv] at h1 ⊢
 simp only [Sem.wp_bind', List.forIn_nil, Sem.wp_pure'] at h1 ⊢
 exact Sem.wp_mono M Γ (forIn scope.names cl _) (fun ω ω ω z => And.intro rfl z) (fun ω ω ω z => z) _ _ h1
end Mine
end
section
open PySem PySem.W PyProof.Rows PySem.Calls PySem.Spec Builtin
namespace Mine
theorem qec {w : World} {A : Around} {E : Value → Shared → Prop} {env : Env} {elt iter : Expr} {x : Str} {px : Pos} {ifs : List Expr} {scope : Scope} {cl : List (Str × Addr)} {pos : Pos} {s₂ : Shared} {I : Addr} {fp wr : List Addr} {n : Nat} {P : Nat → Value → Prop}
  {St : Nat → Heap → Prop} (W : Walks PG w A I fp wr n P St) (hsz : n ≤ sizeLine) (p : Value → Bool) (G : Value → Value → Prop) {RR : Value → Addr → Result → Shared → Prop}
  (hcell : ∀ y ∈ scope.names, y.2 ≠ .cell) (hkind : scope.kind = .function) (hx : scope.names.lookup x = some .local) (hst : St 0 s₂.heap) (hfp : ∀ b ∈ fp, b < s₂.heap.objs.size)
  (hq : QuietOnC PG w A env scope cl x ifs elt wr P p G s₂)
  (hRR : ∀ h' tk m' ys (vs : List Value), h'.Ns (s₂.heap.objs.size + 1) m' → h'.PlainList s₂.heap.objs.size ys → vs.length = n → (∀ j v, vs[j]? = some v → P j v) → Paired G (vs.filter p) ys.toList →
   (∀ b o, b ∉ wr → s₂.heap.get? b = some o → h'.get? b = some o) → RR (.ref s₂.heap.objs.size) (s₂.heap.objs.size + 1) (.ok .next) { s₂ with heap := h', toks := tk }) :
  wpAny (MM w) A (newList []) (fun acc s₃ => wpAny (MM w) A (newFunctionEnv scope env.globals cl [] env.qual none .none (some env)) (fun cenv s₄ =>
   codeAny (MM w) A (.compStart (.ListComp elt [⟨.Name x px, iter, ifs, 0⟩] scope pos) 0 (.ref I) acc { cenv with scope := relabel scope env }) (RR acc cenv.locals) s₄) E s₃) E s₂ := fun Γ q hΓ => by
 have := comp_block_walkC (RR := fun acc C r s' => acc = .ref s₂.heap.objs.size → C = s₂.heap.objs.size + 1 → RR acc C r s') (elt := elt) (iter := iter) (px := px) (ifs := ifs) (pos := pos) (E := E) W hsz p G hcell hkind hx hst hfp hq (fun D C h' tk m' ys vs hD hC hDC hn hl hpl hlen hP hF hk e e' => by
  injection e with e; subst e; subst e'
  exact hRR h' tk m' ys vs hn hpl hlen hP hF hk) Γ q hΓ
 exact wpAny_mono (qlu this) (fun cenv s₄ h => codeAny_mono h.2 fun r s' z => z rfl (h.1.trans (Heap.size_push ..))) fun ω ω z => z
section
variable {c : CX} {n : Nat} {os os2 : List AO} {e : EF} {loc loc' : Loc} {ρ : List Addr} {s : Shared}
theorem qbl {K : AF → Loc → List AO → Prop} {A : Around} (hA : AR A n) (F : FR c e loc os ρ s) {k : Nat} {xs zs : List AV} {elt iter : Expr} {x y : Str} {px py : Pos} {ifs : List Expr} {scope : Scope} {cl : List (Str × Addr)} {pos spos : Pos}
  (p : Value → Bool) (G : Value → Value → Prop)
  (hi : wpAny (MM c.w) A (eval iter e.env) (Post c ρ s fun a os1 => a = .ref k ∧ os1[k]? = some (.list xs) ∧ os1 = os2) NoE s) (hxs : xs.length ≤ sizeLine)
  (hsw : swapsWith (.ListComp elt [⟨.Name x px, iter, ifs, 0⟩] scope pos) (some (.Name y py)) spos.line e.env = pure true)
  (hclos : closureFor scope e.env = pure cl) (hcell : ∀ z ∈ scope.names, z.2 ≠ .cell) (hkind : scope.kind = .function)
  (hnames : ∀ z ∈ scope.names, z.2 = .local → scope.names.lookup z.1 = some .local) (hx : scope.names.lookup x = some .local) (hy : StAt e.ls loc y (.ref os2.length) loc')
  (hq : ∀ ρ1 s1 s2 vs it, FR c e loc os2 ρ1 s1 → Ext c.tabs [] ρ s ρ1 s1 → VRs ρ1 s1.heap xs vs → (∀ b o, s1.heap.get? b = some o → s2.heap.get? b = some o) → s1.heap.objs.size ≤ it → QuietOnC PG c.w A e.env scope cl x ifs elt [it] (fun j v => vs.toArray[j]? = some v) p G s2)
  (hz : ∀ ρ h vs ys, VRs ρ h xs vs → Paired G (vs.filter p) ys → ∀ ρ' h', VRs ρ' h' zs ys) (hk : K .next loc' (os2 ++ [.list zs]))
  (hs : ∀ x, foldedSetIterable iter e.env x = pure x := by intro ω; rfl) :
  wpAny (MM c.w) A (exec (.Assign [.Name y py] (.ListComp elt [⟨.Name x px, iter, ifs, 0⟩] scope pos) spos) e.env) (PostF c e ρ s K) NoE s := by
 rw [exec_Assign_Name_used _ _ _ _ hsw]
 refine qr (wpAny_bind (wpAny_standAt (wpAny_bind ?_)))
 show wpAny _ A (do let _ ← comprehension (.ListComp elt [⟨.Name x px, iter, ifs, 0⟩] scope pos) scope e.env _ (newList []) false (eval iter e.env) (some (assign (.Name y py) e.env))) _ _ s
 refine wpAny_bind (wpAny_mono (wpAny_comprehension_free (use := some (assign (.Name y py) e.env)) (Q := fun ω s' => s.toks ≤ s'.toks → PostF c e ρ s K .next s') rfl hs hclos hkind hnames
  (wpAny_mono hi (fun xv s₁ h₁ => ?_) fun ω ω z => z)) (fun ω s' hq => wpAny_pure (wpAny_pure hq)) fun ω ω z => z)
 obtain ⟨ω, os1, ρ1, ⟨rfl, hk1, e12⟩, H1, E1, a, ha, rfl⟩ := h₁
 subst e12
 have F1 := F.ext E1 H1
 refine x_ea (qq H1 hk1 ha) fun vs hL rv => ?_
 refine wpAny_pyIter_list hL.list ?_
 have kp := qf (h := s₁.heap) (ob := { cls := .type "list_iterator", data := .fields #[.ref a, .int 0 0] })
 obtain ⟨mL, hg⟩ := id hL
 have hal : a < s₁.heap.objs.size := Heap.lt_size hg
 refine x_ea F1.ns fun m hn hm => ?_
 have hLlt : e.env.locals < s₁.heap.objs.size := by refine wf (id hn) fun o ω ω ho ω => ?_; exact Heap.lt_size ho
 have hsz2 : (s₁.heap.push { cls := .type "list_iterator", data := .fields #[.ref a, .int 0 0] }).objs.size = s₁.heap.objs.size + 1 := Heap.size_push ..
 refine qec (RR := fun acc C => compPost (MM c.w) A NoE (some (assign (.Name y py) e.env)) _ acc C) (Walks.list hA.hd s₁.heap.objs.size a (Nat.ne_of_lt hal) vs.toArray) (by simpa [rv.length] using hxs) p G hcell hkind hx
  ⟨⟨_, Heap.get?_push_size _ rfl, rfl, rfl⟩, (hL.at fun o e => kp _ _ e).list⟩ ?_ (hq ρ1 s₁ _ vs _ F1 E1 rv kp (Nat.le_refl _)) ?_
 ·intro b hb
  simp at hb
  show b < (s₁.heap.push _).objs.size
  rcases hb with rfl | rfl
  ·rw [hsz2]; exact Nat.lt_succ_self _
  ·exact Heap.lt_size (kp b { cls := Value.type "list", data := Data.seq vs.toArray mL } hg)
 ·intro h' tk m' ys vs' hnC hpl hlen hP hF hk'
  have hvs : vs' = vs := by
   apply List.ext_getElem?
   intro j
   by_cases hj : j < vs'.length
   ·have := hP j vs'[j] (List.getElem?_eq_getElem hj)
    rw [List.getElem?_eq_getElem hj, ← this]; exact List.getElem?_toArray
   ·rw [List.getElem?_eq_none (by exact Nat.le_of_not_lt hj), List.getElem?_eq_none (by simp at hlen; lia)]
  subst hvs
  have hk1' : ∀ b o, s₁.heap.get? b = some o → h'.get? b = some o := fun b o q => hk' b o (by exact not_iter_of_old q) (kp b o q)
  have hDs : s₁.heap.objs.size < (s₁.heap.push { cls := .type "list_iterator", data := .fields #[.ref a, .int 0 0] }).objs.size := by rw [hsz2]; exact Nat.lt_succ_self _
  generalize hDe : (s₁.heap.push { cls := .type "list_iterator", data := .fields #[.ref a, .int 0 0] }).objs.size = D at hnC hpl hDs ⊢
  show wpAny _ A (assign (.Name y py) e.env (.ref D)) _ _ _
  have hLD : e.env.locals < D := Nat.lt_trans hLlt hDs
  have hn1 := hn.at' fun o e => hk1' _ o e
  have hout : ∀ b, b ∈ ρ1 → b < D := fun b hb => Nat.lt_trans (H1.lt hb) hDs
  obtain ⟨nD, hplD⟩ := id hpl
  have hDlt : D < h'.objs.size := Heap.lt_size hplD
  have hCh : D + 1 < h'.objs.size := by refine wf (id hnC) fun o ω ω ho ω => ?_; exact Heap.lt_size ho
  have hCr : D + 1 ∉ ρ1 ++ [D] := fun q => by
   rcases List.mem_append.mp q with q | q
   ·exact absurd (hout _ q) (Nat.not_lt.mpr (Nat.le_succ D))
   ·simp at q
  have hBC : c.B.heap.objs.size ≤ D + 1 := Nat.le_trans (Nat.le_trans H1.gi.size (Nat.le_of_lt hDs)) (Nat.le_succ D)
  have hCL : D + 1 ≠ e.env.locals := fun q => absurd hLD (Nat.not_lt.mpr (q ▸ Nat.le_succ D))
  refine qw (id hn1) fun o es ep ho hd hr => ?_
  have hi : ¬ Imm o := fun z => z.nodict _ _ hd
  refine qw (id hnC) fun oC esC epC hoC hdC hrC => ?_
  have hiC : ¬ Imm oC := fun z => z.nodict _ _ hdC
  refine wpAny_assign_Name (wpAny_storeName_local (F.ok.ls y hy.mem).1 hn1 (fun h₂ hn₂ hs₂ => ?_) (by rw [F.ok.kind]; rfl))
  refine (y_ea m' (hnC.sameBut hs₂ (Ne.symm hCL.symm)) (fun h₄ hs₄ htk => ?_))
  have htk' : s.toks ≤ tk + 1 := htk
  have G1 : c.GI ⟨s₁.heap, s₁.gens, s₁.drawn, s.toks, s₁.os⟩ := ⟨H1.gi.old, H1.gi.tab, H1.gi.os, H1.gi.bare, H1.gi.size, H1.gi.lim, H1.gi.lowS, F.hr.gi.tk, H1.gi.stat⟩
  have H1' : c.HR ρ1 os1 ⟨s₁.heap, s₁.gens, s₁.drawn, s.toks, s₁.os⟩ := ⟨G1, H1.len, H1.objs, H1.nodup, H1.fresh⟩
  have F1' : FR c e loc os1 ρ1 ⟨s₁.heap, s₁.gens, s₁.drawn, s.toks, s₁.os⟩ := ⟨H1', F1.ok, F1.ns, F1.out, F1.new⟩
  have E1' : Ext c.tabs [] ρ s ρ1 ⟨s₁.heap, s₁.gens, s₁.drawn, s.toks, s₁.os⟩ := ⟨E1.pre, E1.keep, E1.new, E1.size⟩
  have Ha : c.HR (ρ1 ++ [D]) (os1 ++ [.list zs]) ⟨h', s₁.gens, s₁.drawn, tk + 1, s₁.os⟩ := H1'.alloc (d := s₁.drawn) (ao := .list zs) H1.gi.bare htk' hk1' (Nat.le_of_lt (Nat.lt_trans hDs hDlt)) (Nat.le_of_lt hDs) ⟨ys.toList, ⟨nD, hplD⟩, hz _ _ _ _ rv hF _ _⟩
  have Ea : Ext c.tabs [] ρ1 ⟨s₁.heap, s₁.gens, s₁.drawn, s.toks, s₁.os⟩ (ρ1 ++ [D]) ⟨h', s₁.gens, s₁.drawn, tk + 1, s₁.os⟩ := Ext.alloc (s := ⟨s₁.heap, s₁.gens, s₁.drawn, s.toks, s₁.os⟩) (d := s₁.drawn) hk1' (Nat.le_of_lt (Nat.lt_trans hDs hDlt)) (Nat.le_of_lt hDs)
  have Fa := F1'.ext Ea Ha
  obtain ⟨H2, tp2⟩ := Fa.hr.out (d := s₁.drawn) (tk := tk + 1) Fa.hr.gi.bare (Nat.le_refl _) ho (fun vs q => by rw [hd] at q; cases q) hi Fa.new Fa.out hs₂
  have E2 := Ext.out (tabs := c.tabs) (ρ := ρ1 ++ [D]) (s := ⟨h', s₁.gens, s₁.drawn, tk + 1, s₁.os⟩) (d := s₁.drawn) (tk := tk + 1) (g := s₁.gens) hs₂
  have ho2 : h₂.get? (D + 1) = some oC := (hs₂.2 _ hCL).trans hoC
  obtain ⟨H3, tp3⟩ := H2.out (d := s₁.drawn) (tk := tk + 1) Fa.hr.gi.bare (Nat.le_refl _) ho2 (fun vs q => by rw [hdC] at q; cases q) hiC hBC hCr hs₄
  have E3 := Ext.out (tabs := c.tabs) (ρ := ρ1 ++ [D]) (s := ⟨h₂, s₁.gens, s₁.drawn, tk + 1, s₁.os⟩) (d := s₁.drawn) (tk := tk + 1) (g := s₁.gens) hs₄
  have L1 : LocR (ρ1 ++ [D]) h' m e.ls loc := hm.imp fun a v => H1'.vr Ea
  have L2 : LocR (ρ1 ++ [D]) h₂ m e.ls loc := L1.imp fun a v => VR.imp (List.prefix_refl _) tp2 a v
  have L3 : LocR (ρ1 ++ [D]) h₄ m e.ls loc := L2.imp fun a v => VR.imp (List.prefix_refl _) tp3 a v
  have F4 : FR c e loc' (os1 ++ [.list zs]) (ρ1 ++ [D]) ⟨h₄, s₁.gens, s₁.drawn, tk + 1, s₁.os⟩ :=
   ⟨H3, F.ok, (y_ea _ (hn₂.sameBut hs₄ hCL.symm) (hy.set F.ok.nodup L3 ⟨D, by rw [← H1.len]; exact List.getElem?_concat_length, rfl⟩)), Fa.out, Fa.new⟩
  refine ⟨.next, _, _, _, hk, F4, ?_, rfl⟩
  have X1 := (E1'.up.trans (Ea.up (X := [e.env.locals]))).trans E2
  have hge : s.heap.objs.size ≤ D + 1 := Nat.le_trans (Nat.le_trans E1.size (Nat.le_of_lt hDs)) (Nat.le_succ D)
  exact ((X1.weaken (by exact fun a a_1 => List.mem_append_right [D + 1] a_1)).trans (E3.weaken (by exact fun a a_1 => List.mem_append_left [e.env.locals] a_1))).news (Y := [D + 1]) (X := [e.env.locals]) (by simpa using hge)
end
end Mine
end
section
open PySem PySem.W PyProof.Rows PySem.Calls PySem.Spec Builtin
namespace Mine
noncomputable abbrev v8 (L : Addr) : Env := callEnvC qv L 254
noncomputable abbrev qnl (L : Addr) : EF := ⟨v8 L, yj, []⟩
theorem qnm (L : Addr) : (qnl L).Ok := ⟨by kernel_rfl, rfl, rfl, (by decide +kernel : yj.Nodup), by
 intro x hx
 have : ∀ x ∈ yj, qv.scope.names.lookup x = some .local ∧ (x == ("__debug__" : Str)) = false := by decide
 exact this x hx, fun ω h => nomatch h⟩
theorem qu6 (L : Addr) : (v8 L).cells = [(("pieces" : Str), L + 1)] := by kernel_rfl
section
variable {c : CX} {n : Nat} {os : List AO} {K : AV → List AO → Prop}
set_option maxHeartbeats 400000 in
theorem qun (C : c.Std) {a b : AV} {body : List Stmt} (hb : qu (jj 20) = body)
  (h : ∀ L e A ρ s, e = qnl L → AR A n → FR c e [some a, some b, none] os ρ s → (∃ o, s.heap.get? (L + 1) = some o ∧ o.data = .cell none) → L + 1 ∉ ρ →
   wpAny (MM c.w) A (execs body e.env) (fun f s' => ∃ af loc' os' ρ', Ret os.length K af loc' os' ∧ FR c e loc' os' ρ' s' ∧ Ext c.tabs [L + 1, e.env.locals] ρ s ρ' s' ∧ FlR ρ' s'.heap af f) NoE s) :
  CG c (n + 1) (.ref 254) [a, b] os K := by
 refine CGc.cg fun A hA ρ s vs H V => ?_
 refine qc V fun va r z156y ra V1 => ?_; clear V; subst z156y
 refine qc V1 fun vb r z155y rb V2 => ?_; clear V1; subst z155y
 obtain rfl := q0 V2
 have hin := C.kin H
 have room : A.depth < recursionLimit := by have := hA.depth; show A.depth < 1000; lia
 have hlk : (KF c.w.params).lookup 254 = some { cls := (.type "function"), data := .func qv } := rfl
 have hcd : s.heap.CodeRec qv.code qv.qualname := ⟨253, _, _, _, rfl, hin _ _ (show (KF c.w.params).lookup 253 = some _ from rfl), rfl, rfl⟩
 have hlim := H.gi.lim
 refine codeAny_call_function room (hin _ _ hlk) rfl rfl rfl (body := body) ((show qv.body = .stmts (qu (jj 20)) from rfl).trans (congrArg _ hb)) hcd ?_
 have hbind : bindArgs qv ⟨[va, vb], []⟩ = pure [(("numbers" : Str), va), (("white" : Str), vb)] := by kernel_rfl
 have hclo : qv.closure = [] := rfl
 rw [hbind, hclo]
 refine wpAny_pure (qr (wpAny_newFunctionEnv_cells rfl (fun x hx => ?_) fun env he s₁ x htk => ?_))
 ·simp at hx
  rcases hx with rfl | rfl
  ·exact .inl (by kernel_rfl)
  ·exact .inl (by kernel_rfl)
 ·have sz : s.heap.objs.size < s₁.heap.objs.size := by refine wf x.toInCall.ns fun o ω ω ho ω => ?_; subst he; exact Heap.lt_size ho
  have kp := x.toInCall.keep
  refine x_e2 x.toInCall.same fun h₁ tk hs₁ => ?_
  have he' : env = v8 s.heap.objs.size := he
  clear he
  subst he'
  have hloc : (v8 s.heap.objs.size).locals = s.heap.objs.size := rfl
  have hcl : s₁.heap.IsCell (s.heap.objs.size + 1) none := by
   have := x.cell "pieces" (s.heap.objs.size + 1) (by rfl)
   rw [show bindC (v8 s.heap.objs.size).kindOf [(("numbers" : Str), va), (("white" : Str), vb)] (fun ω => none) "pieces" = none by kernel_rfl] at this
   exact this
  have hsz := Nat.le_of_lt sz
  have e1 : s₁ = ⟨h₁, s.gens, s.drawn, s₁.toks, s.os⟩ := by rw [hs₁]
  have H0 : c.HR ρ os s₁ := by
   rw [e1]; rw [e1] at kp hsz
   exact H.keeps H.gi.bare htk kp hsz
  have E0 : Ext c.tabs [] ρ s ρ s₁ := by
   rw [e1]; rw [e1] at kp hsz
   exact Ext.keeps (d := s.drawn) (g := s.gens) kp hsz
  have hout : s.heap.objs.size ∉ ρ := fun q => Nat.lt_irrefl _ (H.lt q)
  have hout2 : s.heap.objs.size + 1 ∉ ρ := fun q => absurd (H.lt q) (Nat.not_lt.mpr (Nat.le_succ _))
  have F0 : FR c (qnl s.heap.objs.size) [some a, some b, none] os ρ s₁ := by
   refine ⟨H0, qnm _, (y_ea _ x.toInCall.ns ?_), hout, H.gi.size⟩
   refine ⟨(y_ea va (by kernel_rfl) ?_), (y_ea vb (by kernel_rfl) ?_), ?_⟩
   ·exact qkp (List.prefix_refl _) kp ra
   ·exact qkp (List.prefix_refl _) kp rb
   ·exact trivial
  have hh := h s.heap.objs.size _ (A.deeper (v8 s.heap.objs.size)) ρ s₁ rfl (hA.deeper _) F0 hcl hout2
  refine ⟨hlim.keeps kp, codeAny_func ?_⟩
  refine wpAny_mono hh (fun fl s1 y => ?_) fun ω ω z => z.elim
  refine v6 y fun af loc1 os1 ρ1 z154y F1 E1 r1 => ?_; clear y; obtain ⟨os2, g, rfl, hm, hu, hv, k1⟩ := z154y
  have E : Ext c.tabs [] ρ s (ρ1.take os2.length) s1 := (((E0.weaken (fun a h => (nomatch h))).trans E1).news (Y := [s.heap.objs.size + 1, s.heap.objs.size]) (X := []) (by simp)).forget (Nat.le_trans (Nat.le_of_eq H.len) hm)
  have H1 := HRel.forget F1.hr hu
  cases af with
  | ret a => refine x_ea r1 fun v z153y r' => ?_; clear r1; subst z153y; exact ⟨a, os2, _, k1, H1, E, VR.take _ _ hv r'⟩
  | next => cases (show fl = .next from r1); exact ⟨.none, os2, _, k1, H1, E, rfl⟩
  | brk => cases (show fl = .brk from r1); exact ⟨.none, os2, _, k1, H1, E, rfl⟩
  | cont => cases (show fl = .cont from r1); exact ⟨.none, os2, _, k1, H1, E, rfl⟩
end
end Mine
end
section
open PySem PySem.W PyProof.Rows PySem.Calls PySem.Spec Builtin
namespace Mine
noncomputable def CX.tk (c : CX) (t : Nat) : CX := { c with B := { c.B with toks := t } }
section
variable {c : CX} {n : Nat} {os : List AO} {e : EF} {loc : Loc} {ρ ρ' : List Addr} {s s' : Shared} {t : Nat}
theorem CX.Ok.tk (C : c.Ok) (t : Nat) : (c.tk t).Ok := ⟨C.kin, C.kc, C.glob⟩
theorem CX.Std.tk (C : c.Std) (t : Nat) : (c.tk t).Std := ⟨C.ok.tk t, C.hK, C.hG, C.hT⟩
theorem GI.up (G : c.GI s) (ht : t ≤ s.toks) : (c.tk t).GI s := ⟨G.old, G.tab, G.os, G.bare, G.size, G.lim, G.lowS, ht, G.stat⟩
theorem GI.down (h : c.B.toks ≤ t) (G : (c.tk t).GI s) : c.GI s := ⟨G.old, G.tab, G.os, G.bare, G.size, G.lim, G.lowS, Nat.le_trans h G.tk, G.stat⟩
theorem HRup (H : c.HR ρ os s) (ht : t ≤ s.toks) : (c.tk t).HR ρ os s := ⟨H.gi.up ht, H.len, H.objs, H.nodup, H.fresh⟩
theorem qut (h : c.B.toks ≤ t) (H : (c.tk t).HR ρ os s) : c.HR ρ os s := ⟨H.gi.down h, H.len, H.objs, H.nodup, H.fresh⟩
theorem FR.up (F : FR c e loc os ρ s) (ht : t ≤ s.toks) : FR (c.tk t) e loc os ρ s := ⟨HRup F.hr ht, F.ok, F.ns, F.out, F.new⟩
theorem FR.down (h : c.B.toks ≤ t) (F : FR (c.tk t) e loc os ρ s) : FR c e loc os ρ s := ⟨qut h F.hr, F.ok, F.ns, F.out, F.new⟩
theorem qh0 {K : AF → Loc → List AO → Prop} {x : Str} {y : Str} {idx : Expr} {p' p pc ps : Pos} {kk : Nat} {rest : List Stmt}
  (h : EV c n e loc os idx fun a os1 => ∃ i ch, a = .int i ∧ (-(2 ^ 63) ≤ i ∧ i < 2 ^ 63) ∧ ((seqIndex? i y.length).bind (y.cps[·]?)) = some ch ∧ ∀ t, c.B.toks ≤ t → 0 < t → ∃ loc', StAt e.ls loc x (.strT ⟨#[ch]⟩ t) loc' ∧ EXs (c.tk (t + 1)) n e loc' os1 rest K)
  (hs : ∀ env, swapsWith (.Subscript (.Constant (.str y) kk pc) idx ps) (some (.Name x p')) p.line env = pure false := by intro ω; rfl) :
  EXs c n e loc os (.Assign [.Name x p'] (.Subscript (.Constant (.str y) kk pc) idx ps) p :: rest) K := fun A hA ρ s F => by
 refine wpAny_execs_cons (wpAny_Assign_Name (Subscript_ (Constant_str ?_)) (hs _))
 have F0 : FR c e loc os ρ { s with toks := s.toks + 1 } := ⟨F.hr.toks _ (Nat.le_succ _), F.ok, F.ns, F.out, F.new⟩
 refine qr (wpAny_mono (h A hA ρ _ F0) (fun vi s1 z ht0 => ?_) fun ω ω z => z)
 have ht1 : s.toks + 1 ≤ s1.toks := ht0
 obtain ⟨ω, os1, ρ1, ⟨i, ch, rfl, hr, hx, k⟩, H1, E1, t', rfl⟩ := z
 refine xr (typeIs_str s1 y _) PySem.F.slot_str_getitem.lookup (P.getItem_str (by simp; assumption) hx ?_)
 refine x_ea (k s1.toks H1.gi.tk (Nat.lt_of_lt_of_le (Nat.succ_pos _) ht1)) fun loc' hst hk => ?_
 have E0 : Ext c.tabs [] ρ s ρ { s with toks := s.toks + 1 } := Ext.toks ..
 have F1 : FR c e loc os1 ρ1 { s1 with toks := s1.toks + 1 } := by
  have := F0.ext E1 H1
  exact ⟨H1.toks _ (Nat.le_succ _), this.ok, this.ns, this.out, this.new⟩
 refine qr (wpAny_mono (qa7 (n := n) (K := fun l o => l = loc' ∧ o = os1) hst ⟨rfl, rfl⟩ A hA ρ1 _ _ F1 (show VR ρ1 _ (.strT ⟨#[ch]⟩ s1.toks) _ from rfl)) (fun ω s2 z ht => ?_) fun ω ω z => z)
 refine qw z fun ω ω ρ2 z157y F2 E2 => ?_; clear z; obtain ⟨rfl, rfl⟩ := z157y
 have ht' : s1.toks + 1 ≤ s2.toks := ht
 have hB : c.B.toks ≤ s1.toks + 1 := Nat.le_succ_of_le H1.gi.tk
 refine wpAny_mono (hk A hA ρ2 s2 (F2.up ht')) (fun f s3 z => ?_) fun ω ω z => z
 obtain ⟨af, l3, o3, ρ3, k3, F3, E3, r3⟩ := z
 have E1' : Ext c.tabs [] ρ s ρ1 { s1 with toks := s1.toks + 1 } := (E0.trans E1).trans (Ext.toks ..)
 have E3' : Ext c.tabs [e.env.locals] ρ2 s2 ρ3 s3 := ⟨E3.pre, E3.keep, E3.new, E3.size⟩
 exact ⟨af, l3, o3, ρ3, k3, F3.down hB, (E1'.up.trans E2).trans E3', r3⟩
theorem qp9 {K : AV → List AO → Prop} {o : Expr} {y : Str} {z : Str} {w : Str} {tw : Nat} {ap p py py2 pc pb : Pos} {kk : Nat} (hw : LkAt e.ls loc y (.strT w tw)) (h0 : 0 < tw) (ht : tw < c.B.toks) (hz : z.length ≠ 0) (hwl : w.length ≠ 0) (hzw : (z ++ w).length ≤ 14) (hne : (w == z ++ w) = false)
  (h : EV c n e loc os o fun a os1 => ∃ x : Str, a = .str x ∧ x.length ≤ 1000000 ∧ K (.str (Txt.replace x w (z ++ w))) os1)
  (he : ∀ env, eval (.Call (.Attribute o "replace" ap) [.Name y py, .BinOp (.Constant (.str z) kk pc) .Add (.Name y py2) pb] [] p) env = (do
   let ov ← eval o env
   standAt ap.atName
   let (f, first) ← holding [ov] (getMethod ov "replace" (do return (← importBound o env).getD true))
   callWith p f first (backTo p (starEach [.Name y py, .BinOp (.Constant (.str z) kk pc) .Add (.Name y py2) pb] env)) (backToKw p (keywordEach [] env))) := by intro ω; rfl) :
  EV c n e loc os (.Call (.Attribute o "replace" ap) [.Name y py, .BinOp (.Constant (.str z) kk pc) .Add (.Name y py2) pb] [] p) K := fun A hA ρ s F => by
 refine methodCall_KW (pl := do return (← importBound o e.env).getD true) ?_ (he _)
 refine wpAny_mono (h A hA ρ s F) (fun vx s1 q => ?_) fun ω ω z => z
 obtain ⟨ω, os1, ρ1, ⟨x, rfl, hl, k⟩, H1, E1, tx, rfl⟩ := q
 have F1 := F.ext E1 H1
 refine x_ea F1.ns fun m hn hm => ?_
 obtain ⟨hyl, v, hv, rv⟩ := hw.get hm
 obtain rfl : v = .str w tw := rv
 refine GM.replace ?_
 refine cw (c := c) (by rfl) ?_
 refine spliced_cons (wpAny_Name (wpAny_loadName_local F.ok.kind (F.ok.ls y hyl).1 hn hv ?_) (F.ok.ls y hyl).2)
 refine spliced_cons (wpAny_BinOp (Constant_str (wpAny_Name (wpAny_loadName_local F.ok.kind (F.ok.ls y hyl).1 hn hv ?_) (F.ok.ls y hyl).2)))
 refine P.add_str ?_
 rw [if_neg (by simpa using hz), if_neg (by simpa using hwl)]
 have hsl : sizeLine = 16777216 := rfl
 have hge : c.B.toks ≤ s1.toks := H1.gi.tk
 refine ⟨by lia, wpAny_pure ⟨⟨.machine, fun A Q E h => wpAny_pure h⟩, ?_⟩⟩
 refine qr (SC.replaceW (Nat.pos_iff_ne_zero.mp h0) ?_ ?_ hne (by lia) hzw fun t' k' htk => ?_)
 ·show s1.toks + 1 ≠ 0; lia
 ·show tw ≠ s1.toks + 1; lia
 ·have htk' : s1.toks ≤ k' := Nat.le_trans (Nat.le_trans (Nat.le_succ _) (Nat.le_succ _)) htk
  exact ⟨.str (Txt.replace x w (z ++ w)), os1, ρ1, k, H1.toks _ htk', E1.trans (Ext.toks ..), t', rfl⟩
theorem qmh {K : AV → List AO → Prop} {o : Expr} {y z : Str} {ap p pc pb : Pos} {k1 k2 : Nat} (hB : 0 < c.B.toks) (hz : z.length ≤ 14) (hne : (y == z) = false)
  (h : EV c n e loc os o fun a os1 => ∃ x : Str, a = .str x ∧ x.length ≤ 1000000 ∧ K (.str (Txt.replace x y z)) os1)
  (he : ∀ env, eval (.Call (.Attribute o "replace" ap) [.Constant (.str y) k1 pc, .Constant (.str z) k2 pb] [] p) env = (do
   let ov ← eval o env
   standAt ap.atName
   let (f, first) ← holding [ov] (getMethod ov "replace" (do return (← importBound o env).getD true))
   callWith p f first (backTo p (starEach [.Constant (.str y) k1 pc, .Constant (.str z) k2 pb] env)) (backToKw p (keywordEach [] env))) := by intro ω; rfl) :
  EV c n e loc os (.Call (.Attribute o "replace" ap) [.Constant (.str y) k1 pc, .Constant (.str z) k2 pb] [] p) K := fun A hA ρ s F => by
 refine methodCall_KW (pl := do return (← importBound o e.env).getD true) ?_ (he _)
 refine wpAny_mono (h A hA ρ s F) (fun vx s1 q => ?_) fun ω ω z => z
 obtain ⟨ω, os1, ρ1, ⟨x, rfl, hl, k⟩, H1, E1, tx, rfl⟩ := q
 refine GM.replace ?_
 refine cw (c := c) (by rfl) ?_
 refine spliced_cons (Constant_str (k := k1) (pos := pc) (spliced_cons (Constant_str (k := k2) (pos := pb) (wpAny_pure ?_))))
 refine ⟨⟨.machine, fun A Q E h => wpAny_pure h⟩, ?_⟩
 have hge : c.B.toks ≤ s1.toks := H1.gi.tk
 refine qr (SC.replaceW ?_ ?_ ?_ hne (by lia) hz fun t' k' htk => ?_)
 ·show s1.toks ≠ 0; lia
 ·exact Ne.symm (Nat.zero_ne_add_one s1.toks)
 ·exact Nat.ne_add_one s1.toks
 ·have htk' : s1.toks ≤ k' := Nat.le_trans (Nat.le_trans (Nat.le_succ _) (Nat.le_succ _)) htk
  exact ⟨.str (Txt.replace x y z), os1, ρ1, k, H1.toks _ htk', E1.trans (Ext.toks ..), t', rfl⟩
end
end Mine
end
section
open PySem PySem.W PyProof.Rows PySem.Calls PySem.Spec Builtin
namespace Mine
section
variable {c : CX} {n : Nat} {os : List AO} {K : AV → List AO → Prop}
theorem qer {ρ : List Addr} {h : Heap} : ∀ {ns : List Int} {vs : List Value}, VRs ρ h (ns.map .int) vs → IntsAre vs ns
 | [], _, V => by rw [show _ = [] from V]; exact .nil
 | x :: xs, _, ⟨v, r, e, ⟨t, e'⟩, V⟩ => by subst e e'; exact .cons _ _ (qer V)
theorem qm4 {k : Nat} {ns : List Int} {i : Int} (hk : os[k]? = some (.list (ns.map .int))) (h : K (.bool (ns.any (· == i))) os) : TV2 c n (compareOp .In) (.int i) (.ref k) os K := fun A hA ρ s v u H hv hu => by
 obtain ⟨t, rfl⟩ := hv
 refine x_ea hu fun a ha z158y => ?_; clear hu; subst z158y
 refine x_ea (qq H hk ha) fun vs e rs => ?_
 exact in_list_ints e.list (qer rs) (Post.now H h rfl)
end
end Mine
end
section
open PySem PySem.W PyProof.Rows PySem.Calls PySem.Spec Builtin
namespace Mine
section
variable {c : CX} {n : Nat} {os : List AO} {e : EF} {loc : Loc} {ρ ρ' Y : List Addr} {s s' s'' : Shared}
structure Sl (c : CX) (Y ρ : List Addr) (s s' : Shared) : Prop where
 keep : ∀ b o, s.heap.get? b = some o → b ∉ Y → s'.heap.get? b = some o
 slots : ∀ b ∈ Y, ∃ o es ep, s.heap.get? b = some o ∧ o.data = .dict es ep ∧ ∃ sl, s'.heap.get? b = some { o with slots := sl }
 out : ∀ a ∈ Y, a ∉ ρ
 new : ∀ a ∈ Y, c.B.heap.objs.size ≤ a
 size : c.B.heap.objs.size ≤ s'.heap.objs.size
 bare : AllBare s'.gens
 os : s'.os = s.os
theorem Sl.gi (O : Sl c Y ρ s s') (G : c.GI s) : (c.tk 0).GI s' := by
 have lowne : ∀ b, b < c.B.heap.objs.size → b ∉ Y := fun b hb q => absurd hb (Nat.not_lt.mpr (O.new b q))
 refine x_ea G.lim fun mc z165y q => ?_; refine wf z165y fun o es ep ho r => ?_; clear z165y
 refine ⟨OldK.outs G.old O.keep O.new, fun t ht => (G.tab t ht).step (fun b o e q => O.keep b o e ?_) fun m hm v x => CodeRec.outs O.keep (fun a ha => let ⟨o, _, _, e1, hd, _⟩ := O.slots a ha; (y_ea o e1 (fun vs z => by rw [hd] at z; cases z))) x, O.os.trans G.os, O.bare, O.size,
  ⟨mc, ⟨o, es, ep, O.keep _ _ ho (lowne _ G.lowS.1), r⟩, q⟩, G.lowS, Nat.zero_le _, fun o e => O.keep _ _ (G.stat o e) (lowne _ G.lowS.1)⟩
 have l := (G.tab t ht).low
 rcases q with rfl | rfl
 ·exact lowne _ l.1
 ·exact lowne _ l.2
theorem Sl.hr (O : Sl c Y ρ s s') (H : c.HR ρ os s) : (c.tk 0).HR ρ os s' := by
 have im : ∀ a o, Imm o → s.heap.get? a = some o → s'.heap.get? a = some o := fun a o hi e => O.keep a o e fun q => by
  refine qw (O.slots a q) fun o' ω ω e' hd ω => ?_
  rw [e] at e'; cases e'; exact hi.nodict _ _ hd
 refine ⟨O.gi H.gi, H.len, fun k ao e => ?_, H.nodup, H.fresh⟩
 refine x_ea (H.objs k ao e) fun b e1 z => ?_
 exact (y_ea b e1 (z.imp (List.prefix_refl _) (ImmK.of im) fun o e => O.keep b o e fun q => O.out b q (List.mem_of_getElem? e1)))
theorem Sl.ext (O : Sl c Y ρ s s') (hz : s.heap.objs.size ≤ s'.heap.objs.size) : Ext c.tabs [] ρ s ρ s' := ⟨List.prefix_refl _, fun b o e ω ω ω => by
 by_cases hb : b ∈ Y
 ·refine qw (O.slots b hb) fun o' es ep e' hd z164y => ?_; obtain ⟨sl, h'⟩ := z164y
  rw [e] at e'; cases e'
  exact .inr ⟨(y_e2 es ep hd), sl, h'⟩
 ·exact .inl (O.keep b o e hb), fun ω h h' => absurd h h', hz⟩
theorem Sl.fr (O : Sl c Y ρ s s') (F : FR c e loc os ρ s) : FR (c.tk 0) e loc os ρ s' := by
 have im : ∀ a o, Imm o → s.heap.get? a = some o → s'.heap.get? a = some o := fun a o hi e => O.keep a o e fun q => by
  refine qw (O.slots a q) fun o' ω ω e' hd ω => ?_
  rw [e] at e'; cases e'; exact hi.nodict _ _ hd
 refine x_ea F.ns fun m z163y hm => ?_; refine wf z163y fun o es ep ho r => ?_; clear z163y
 refine ⟨O.hr F.hr, F.ok, (y_ea m ?_ (hm.imp fun a v => VR.imp (List.prefix_refl _) (ImmK.of im) a v)), F.out, F.new⟩
 by_cases hb : e.env.locals ∈ Y
 ·refine qw (O.slots _ hb) fun o' ω ω e' hd z162y => ?_; obtain ⟨sl, h'⟩ := z162y
  rw [ho] at e'; cases e'
  exact ⟨_, es, ep, h', r⟩
 ·exact ⟨o, es, ep, O.keep _ _ ho hb, r⟩
structure Stk (c : CX) (A : Around) (e : EF) (L1 : Addr) (ρ : List Addr) (s : Shared) : Prop where
 fr : ∃ env1, A.frames = some [e.env, env1] ∧ env1.frame = some L1 ∧ env1.scope.kind ≠ .module
 own : e.env.frame = some e.env.locals
 at1 : ∃ o es ep, s.heap.get? L1 = some o ∧ o.data = .dict es ep
 out : L1 ∉ ρ
 ne : L1 ≠ e.env.locals
 new : c.B.heap.objs.size ≤ L1
theorem Stk.ext {A : Around} {L1 : Addr} (S : Stk c A e L1 ρ s) (H : c.HR ρ os s) (E : Ext c.tabs [e.env.locals] ρ s ρ' s') : Stk c A e L1 ρ' s' := by
 refine wf S.at1 fun o es ep ho hd => ?_
 have nt : L1 ∉ qi5 c.tabs := fun q => by
  refine x_ea (List.mem_map.mp q) fun t ht e' => ?_
  exact absurd (H.gi.tab t ht).low.2 (by rw [e']; exact Nat.not_lt.mpr S.new)
 refine ⟨S.fr, S.own, ?_, fun q => absurd (Heap.lt_size ho) (Nat.not_lt.mpr (E.new _ q S.out)), S.ne, S.new⟩
 rcases E.keep _ _ ho S.out (by simp; exact S.ne) nt with q | ⟨_, sl, q⟩
 ·exact (qi7 _ es ep q hd)
 ·exact (qi7 _ es ep q hd)
theorem FR.retk (F : FR (c.tk 0) e loc os ρ s) (h : c.B.toks ≤ s.toks) : FR c e loc os ρ s :=
 ⟨⟨⟨F.hr.gi.old, F.hr.gi.tab, F.hr.gi.os, F.hr.gi.bare, F.hr.gi.size, F.hr.gi.lim, F.hr.gi.lowS, h, F.hr.gi.stat⟩, F.hr.len, F.hr.objs, F.hr.nodup, F.hr.fresh⟩, F.ok, F.ns, F.out, F.new⟩
theorem qrk {A : Around} {L1 : Addr} (S : Stk c A e L1 ρ s) (F : FR c e loc os ρ s) {h1 : Heap} {ea : Addr} {cls : String} {tk : Nat} (hx : Heap.NewExc s.heap h1 ea cls) {M : Model} {E : Value → Shared → Prop} {Q : Unit → Shared → Prop}
  (h : ∀ h2, Sl c [e.env.locals, L1] ρ s { s with heap := h2, toks := tk } → (∃ base l a0, base.StaysIn h2 ∧ h2.FunFrames base l ∧ h2.TracedW base ea (.type cls) a0 ∧ (∀ b o, s.heap.get? b = some o → b ∉ [e.env.locals, L1] → base.get? b = some o) ∧ l.filterMap (·.frame) = [e.env.locals, L1]) → Q () { s with heap := h2, toks := tk }) :
  wpAny M A (noteFrame (.ref ea) e.env) (fun ω s' => wpAny M A (setFlight (.ref ea) none) Q E s') E { s with heap := h1, toks := tk } := by
 refine xy S.fr fun env1 hfr hf1 hk1 => ?_
 refine wf S.at1 fun o1 es1 ep1 ho1 hd1 => ?_
 refine x_ea F.ns fun m z161y hm => ?_; refine qw z161y fun oL esL epL hoL hdL rL => ?_; clear z161y
 refine qc hx.there fun ob t0 hea hcls hd => ?_
 have hbase := fun b (o : Obj) (e1 : s.heap.get? b = some o) (e2 : b ∉ [e.env.locals, L1]) => hideAll_get [e.env.locals, L1] e1 e2
 have hfun : h1.FunFrames (hideAll s.heap [e.env.locals, L1]) [e.env, env1] :=
  ⟨by rw [F.ok.kind]; decide, (yn e.env.locals oL S.own (hideAll_none _ (.head _)) (hx.keeps _ _ hoL) (fun vs q => by rw [hdL] at q; cases q)), hk1, (yn L1 o1 hf1 (hideAll_none _ (.tail _ (.head _))) (hx.keeps _ _ ho1) (fun vs q => by rw [hd1] at q; cases q)), trivial⟩
 have hst : (hideAll s.heap [e.env.locals, L1]).StaysIn h1 := fun b o q => hx.keeps b o (of_hideAll _ q)
 have hen : (hideAll s.heap [e.env.locals, L1]).get? ea = none := by
  cases q : (hideAll s.heap [e.env.locals, L1]).get? ea with
  | none => rfl
  | some o => have := of_hideAll _ q; rw [hx.new] at this; simp only [*]
 unfold noteFrame
 simp only [S.own]
 refine wpAny_bind (wpAny_field hea hd (x := .none) rfl ?_)
 rw [if_neg (by exact ne_true_of_eq_false rfl)]
 refine wpAny_newEntryW hfr hfun S.own hea hst hen hd (by exact Nat.one_lt_succ_succ [Value.none, Value.none, Value.bool false, Value.none].length) rfl fun h2 hL => ?_
 refine x_a2 hL fun k1 k2 z160y => ?_; clear hL; obtain ⟨k3, k4⟩ := z160y
 have hk4 : ∀ b ∈ [e.env.locals, L1], ∃ o es ep, s.heap.get? b = some o ∧ o.data = .dict es ep ∧ ∃ sl, h2.get? b = some { o with slots := sl } := by
  intro b hb
  simp at hb
  rcases hb with rfl | rfl
  ·exact (u7 oL esL epL hoL hdL (k4 _ _ (hx.keeps _ _ hoL) fun vs q => by rw [hdL] at q; cases q))
  ·exact (u7 o1 es1 ep1 ho1 hd1 (k4 _ _ (hx.keeps _ _ ho1) fun vs q => by rw [hd1] at q; cases q))
 have hsz : c.B.heap.objs.size ≤ h2.objs.size := by
  refine qw (hk4 e.env.locals (.head _)) fun ω ω ω ω ω z159y => ?_; obtain ⟨sl, q⟩ := z159y
  exact Nat.le_trans F.new (Nat.le_of_lt (Heap.lt_size q))
 have O : Sl c [e.env.locals, L1] ρ s { s with heap := h2, toks := tk } := ⟨fun b o e1 e2 => k1 b o (hbase b o e1 e2), hk4, by simp; exact ⟨F.out, S.out⟩, by simp; exact ⟨F.new, S.new⟩, hsz, F.hr.gi.bare, rfl⟩
 exact h h2 O (u8 _ _ _ k1 k2 (by rw [← hcls]; exact k3) hbase (by simp [S.own, hf1]))
end
end Mine
end
section
open PySem PySem.W PyProof.Rows PySem.Calls PySem.Spec Builtin
namespace Mine
section
variable {c : CX} {n : Nat} {os : List AO} {K : AV → List AO → Prop} {e : EF} {loc : Loc} {ρ : List Addr} {s : Shared}
theorem qfe {h : Heap} : ∀ {as : List Str} {vs : List Value}, VRs ρ h (as.map .str) vs → StrsAre vs as
 | [], _, V => by rw [show _ = [] from V]; exact .nil
 | x :: xs, _, ⟨v, r, e, ⟨t, e'⟩, V⟩ => by subst e e'; exact .cons _ _ (qfe V)
theorem qes {h : Heap} {x : Str} {as : List Str} {vs : List Value} (V : VRs ρ h (as.map .str) vs) {i : Nat} (hi : i < vs.toArray.size) : isStrOf x vs.toArray[i] = ((as[i]?).any (· == x)) := by
 have hl := V.length
 have h1 : i < as.length := by simpa [hl] using hi
 refine x_ea (V.get (x := .str as[i]) (n := i) (by simp [h1])) fun u hu z178y => ?_; obtain ⟨t, rfl⟩ := z178y
 have h2 : vs.toArray[i] = .str as[i] t := by
  have := (List.getElem?_eq_some_iff.mp hu).2
  simpa using this
 rw [h2, List.getElem?_eq_getElem h1]; rfl
theorem qc7 {x : Str} : ∀ {as : List Str}, x ∈ as → ∃ pre post, as = pre ++ x :: post ∧ x ∉ pre
 | a :: r, h => by
  by_cases ha : a = x
  ·exact List.eq_append_cons_of_mem h
  ·exact List.eq_append_cons_of_mem h
theorem qqe {k : Nat} {as : List Str} {x : Str} (hk : os[k]? = some (.list (as.map .str))) (hl : as.length ≤ sizeLine) (hx : x ∈ as) (h : K .none (os.set k (.list ((as.erase x).map .str)))) : CG c n (.builtin "list.remove") [.ref k, .str x] os K := fun A hA ρ s vs H V => by
 refine qc (wq V) fun b r' hb z177y V1 => ?_; subst z177y
 refine q9 (jl V1) fun t r'' z176y V2 => ?_; subst z176y
 obtain rfl := q0 V2
 refine x_ea (qq H hk hb) fun ws e r => ?_
 obtain ⟨m, e'⟩ := id e
 have hlen := r.length
 simp only [List.length_map] at hlen
 refine q9 (qc7 hx) fun pre post z175y hp => ?_; subst z175y
 have hj : pre.length < ws.toArray.size := by simp [hlen]
 refine call_meets PySem.F.slot_list_remove e.list.typeIs PySem.F.entry_list_remove (PySem.F.args_list_remove_2 _ _) (MeetsSeq.list_remove b ws.toArray m (.str x t) (isStrOf x) (fun y hy => eq_isStrOf x t (qfe r) y (by simpa using hy)) pre.length hj ?_ ?_ (by simp [hlen] at hl ⊢; assumption)) ⟨e', ?_⟩
 ·rw [qes r hj]; simp
 ·intro i hi hlt
  rw [qes r hi, List.getElem?_append_left hlt, List.getElem?_eq_getElem hlt]
  simp
  intro q; exact hp (q ▸ List.getElem_mem hlt)
 ·rw [List.erase_append_right _ hp, List.erase_cons_head, List.map_append] at h
  rw [List.map_append, List.map_cons] at r
  refine qc (VRs.of_append r) fun w1 w2 z174y r1 r2 => ?_; subst z174y
  refine qc r2 fun v w3 z173y rv r3 => ?_; clear r2; subst z173y
  have hl1 := r1.length
  simp only [List.length_map] at hl1
  refine Post.put (a := .none) (v := .none) (tk := s.toks) H hb (Heap.SameBut.update ..) (Nat.le_refl _) (ws := w1 ++ w3) (ys := pre.map .str ++ post.map .str) ?_ (r1.append r3) rfl h
  have := e.map (fun xs => xs.eraseIdxIfInBounds pre.length)
  rw [show (w1 ++ w3).toArray = (w1 ++ v :: w3).toArray.eraseIdxIfInBounds pre.length from ?_]
  ·exact this
  ·simp [Array.eraseIdxIfInBounds, ← hl1]
   rw [List.eraseIdx_append_of_length_le (Nat.le_refl _), Nat.sub_self]; rfl
noncomputable def qsd (o : Expr) (name : Str) (args : List Expr) (ap p : Pos) : Prop := ∀ env, eval (.Call (.Attribute o name ap) args [] p) env = (do
   let ov ← eval o env
   standAt ap.atName
   let (f, first) ← holding [ov] (getMethod ov name (do return (← importBound o env).getD true))
   callWith p f first (backTo p (starEach args env)) (backToKw p (keywordEach [] env)))
theorem qk1 {w : World} {A : Around} {E : Value → Shared → Prop} {b : Addr} {items : Array Value} {v : Value} {Q : Value → Shared → Prop} (e : IsL s.heap b items) (hl : items.size ≤ sizeLine)
  (h : Q .none { s with heap := s.heap.update b (Obj.mapSeq (·.push v)) }) : wpAny (MM w) A (call (.builtin "list.append") [.ref b, v] []) Q E s := by
 refine zh e.ex fun o ho hc hdi z172y => ?_; obtain ⟨n, hd⟩ := z172y
 refine wpAny_call_entry slot_list_append e.list.typeIs entry_list_append ?_ (args_list_append _ _)
 show wpAny _ _ (updateSeq b (·.push v) >>= fun ω => ret .none) _ _ s
 exact wpAny_bind (wpAny_updateSeq ho hd (wpAny_pure (y_ea .none rfl h)) hl)
theorem ae5 {α β : Type} {P1 : Prop} {P2 : α → Prop} {P3 : α → β → Prop} {P4 : α → β → Prop} {G : Prop} (h : P1 ∧ ∃ v : α, P2 v ∧ ∃ a : β, P3 v a ∧ P4 v a) (k : P1 → ∀ v, P2 v → ∀ a, P3 v a → P4 v a → G) : G := h.2.elim fun v h' => h'.2.elim fun a h'' => k h.1 v h'.1 a h''.1 h''.2
theorem ae4 {α β : Type} {P1 : Prop} {P2 : α → Prop} {P3 : α → β → Prop} {G : Prop} (h : P1 ∧ ∃ v : α, P2 v ∧ ∃ a : β, P3 v a) (k : P1 → ∀ v, P2 v → ∀ a, P3 v a → G) : G := h.2.elim fun v h' => h'.2.elim fun a h'' => k h.1 v h'.1 a h''
theorem ql9 (C : c.Std) {K : AF → Loc → List AO → Prop} {A : Around} (hA : AR A n) {L1 : Addr} (ST : Stk c A e L1 ρ s) (F : FR c e loc os ρ s) {x : Str} {as : List Str} {ms : List AV} {ka km : Nat} {p1 p2 p3 p4 p5 p6 p7 p8 q1 q2 q3 q4 q5 : Pos}
  (ha : LkAt e.ls loc "actual" (.ref ka)) (hi : LkAt e.ls loc "item" (.str x)) (hm : LkAt e.ls loc "missing" (.ref km)) (hka : os[ka]? = some (.list (as.map .str))) (hkm : os[km]? = some (.list ms)) (hg : ("ValueError" : Str) ∈ e.gs) (hl : as.length ≤ 100000) (hml : ms.length ≤ 100000)
  (he1 : qsd (.Name "actual" p1) "remove" [.Name "item" p3] p2 p4) (he2 : qsd (.Name "missing" q1) "append" [.Name "item" q3] q2 q4)
  (h1 : x ∈ as → K .next loc (os.set ka (.list ((as.erase x).map .str)))) (h2 : x ∉ as → K .next loc (os.set km (.list (ms ++ [.str x])))) :
  wpAny (MM c.w) A (exec (.Try [.Expr (.Call (.Attribute (.Name "actual" p1) "remove" p2) [.Name "item" p3] [] p4) p5] [.ExceptHandler (some (.Name "ValueError" p6)) none [.Expr (.Call (.Attribute (.Name "missing" q1) "append" q2) [.Name "item" q3] [] q4) q5] p7] [] [] p8) e.env) (PostF c e ρ s K) NoE s := by
 have hz : sizeLine = 16777216 := rfl
 refine qr (q6 (wpAny_Try_except ?_))
 refine x_ea F.ns fun m hn hml' => ?_
 refine ae5 (ha.get hml') fun hal va hva aa haa zz5 => ?_; subst zz5
 refine ae4 (hi.get hml') fun hil vi hvi ti zz5 => ?_; subst zz5
 by_cases hx : x ∈ as
 ·have hb : EXs c n e loc os [.Expr (.Call (.Attribute (.Name "actual" p1) "remove" p2) [.Name "item" p3] [] p4) p5] (fun f l o => f = .next ∧ l = loc ∧ o = os.set ka (.list ((as.erase x).map .str))) := by
   refine qx (qmj (qmf (fun ω => rfl) (zv ha (y_ea _ (qjm ⟨_, hka⟩) (qjg (zv hi (qds ⟨Kp.builtin, qqe hka (by lia) hx ?_⟩))))) he1))
   exact xz (y_a2 rfl rfl rfl)
  refine we (hb A hA ρ s F) fun f s1 z0q z1q z2q ρ1 z4q F1 E1 z7q => ?_
  refine x_a2 z4q fun z169y z170y z171y => ?_; clear z4q; subst z169y; subst z170y; subst z171y
  obtain rfl := z7q
  exact wpAny_execs_nil fun ω ω => ⟨.next, _, _, ρ1, h1 hx, F1, E1, rfl⟩
 ·refine wpAny_execs_cons (wpAny_Expr_any ?_ (yv F.ok.kind) rfl)
  refine methodCall_KW (pl := do return (← importBound (.Name "actual" p1) e.env).getD true) (wpAny_Name (wpAny_loadName_local F.ok.kind (F.ok.ls _ hal).1 hn hva ?_) (F.ok.ls _ hal).2) (he1 _)
  refine qjm ⟨_, hka⟩ A _ ρ s (.ref aa) _ _ F.hr ⟨aa, haa, rfl⟩ fun tk htk => ?_
  refine cw (c := c) (by rfl) ?_
  refine spliced_cons (wpAny_Name (wpAny_loadName_local F.ok.kind (F.ok.ls _ hil).1 hn hvi (wpAny_pure ⟨⟨.machine, fun A Q E h => wpAny_pure h⟩, ?_⟩)) (F.ok.ls _ hil).2)
  refine x_ea (qq F.hr hka haa) fun ws el r => ?_
  obtain ⟨mm, e'⟩ := id el
  have hlen := r.length
  simp only [List.length_map] at hlen
  have F0 : FR c e loc os ρ { s with toks := tk } := ⟨F.hr.toks _ htk, F.ok, F.ns, F.out, F.new⟩
  have ST0 : Stk c A e L1 ρ { s with toks := tk } := ⟨ST.fr, ST.own, ST.at1, ST.out, ST.ne, ST.new⟩
  refine call_meets PySem.F.slot_list_remove el.list.typeIs PySem.F.entry_list_remove (PySem.F.args_list_remove_2 _ _) (MeetsSeq.list_remove_none aa ws.toArray mm (.str x ti) (isStrOf x) (fun y hy => eq_isStrOf x ti (qfe r) y (by simpa using hy)) (fun i hi => ?_)) ⟨e', hA.hd, fun h1' tk' ea hxe => ?_⟩
  ·rw [qes r hi]
   have hi' : i < as.length := by exact Nat.lt_of_lt_of_eq hi hlen
   rw [List.getElem?_eq_getElem hi']
   simp
   intro q; exact hx (q ▸ List.getElem_mem hi')
  show wpAny _ A (noteFrame (.ref ea) e.env) _ _ _
  refine qrk ST0 F0 hxe fun h2' O2 hb => ?_
  refine ym hb fun base l a0 k1 k2 k3 z168y => ?_; clear hb; obtain ⟨kb, kl⟩ := z168y
  have F2 := O2.fr F0
  refine wpAny_handleBy_builtin (b := true) PySem.F.isExc_ValueError (by exact PySem.F.notTuple_ValueError) PySem.F.self_ValueError (wpAny_Name (uv (C.tk 0).ok F2 hg (by rw [(C.tk 0).hG]; exact mem_of_lookup_some rfl) (y_a2 rfl ?_ ?_)) (F.ok.gs _ hg).2)
  ·refine x_ea k3.at.there fun ob h3 h4 => ?_
   exact ⟨ob, h3, h4⟩
  rw [if_pos rfl]
  refine wpAny_setFlight_noneW k1 k2 k3.at fun h3' j1 j2 j3 j4 => ?_
  have O3 : Sl c [e.env.locals, L1] ρ { s with toks := tk } { s with heap := h3', toks := tk' } := by
   refine ⟨fun b o q1 q2 => j1 b o (kb b o q1 q2), fun b hb => ?_, O2.out, O2.new, ?_, O2.bare, O2.os⟩
   ·refine qw (O2.slots b hb) fun o es ep q1 q2 z167y => ?_; obtain ⟨sl, q3⟩ := z167y
    exact (u7 o es ep q1 q2 ⟨sl, j4 _ _ q3 fun vs z => by rw [show ({ o with slots := sl } : Obj).data = o.data from rfl, q2] at z; cases z⟩)
   ·refine qw (O2.slots e.env.locals (.head _)) fun o es ep q1 q2 z166y => ?_; obtain ⟨sl, q3⟩ := z166y
    exact Nat.le_trans F.new (Nat.le_of_lt (Heap.lt_size (j4 _ _ q3 fun vs z => by rw [show ({ o with slots := sl } : Obj).data = o.data from rfl, q2] at z; cases z)))
  have F3 := O3.fr F0
  refine x_ea F3.ns fun m3 hn3 hm3 => ?_
  refine ae5 (hm.get hm3) fun hml3 ω hvm am ham zz5 => ?_; subst zz5
  refine ae4 (hi.get hm3) fun hil3 ω hvi3 ti3 zz5 => ?_; subst zz5
  refine x_ea (qq F3.hr hkm ham) fun us eu ru => ?_
  have hulen := ru.length
  refine wpAny_execs_cons (wpAny_Expr_any ?_ (yv F.ok.kind) rfl)
  refine methodCall_KW (pl := do return (← importBound (.Name "missing" q1) e.env).getD true) (wpAny_Name (wpAny_loadName_local F.ok.kind (F.ok.ls _ hml3).1 hn3 hvm ?_) (F.ok.ls _ hml3).2) (he2 _)
  refine ug (c := c.tk 0) ⟨_, hkm⟩ _ _ ρ _ (.ref am) _ _ F3.hr ⟨am, ham, rfl⟩ fun tk4 htk4 => ?_
  refine cw (c := c) (by rfl) ?_
  refine spliced_cons (wpAny_Name (wpAny_loadName_local F.ok.kind (F.ok.ls _ hil3).1 hn3 hvi3 (wpAny_pure ⟨⟨.machine, fun A Q E h => wpAny_pure h⟩, ?_⟩)) (F.ok.ls _ hil3).2)
  refine qk1 eu (by simp; lia) ?_
  refine wpAny_execs_nil fun hsz htk5 => ?_
  have htk6 : s.toks ≤ tk4 := htk5
  have P5 : Post (c.tk 0) ρ { s with heap := h3', toks := tk' } (fun a o => a = .none ∧ o = os.set km (.list (ms ++ [.str x]))) .none ⟨h3'.update am (Obj.mapSeq (·.push (.str x ti3))), s.gens, s.drawn, tk4, s.os⟩ :=
   Post.put (a := .none) (tk := tk4) F3.hr ham (Heap.SameBut.update ..) htk4 (ws := us ++ [.str x ti3]) (ys := ms ++ [.str x]) (by simpa using eu.map (·.push (.str x ti3))) (ru.append (show VRs ρ h3' [AV.str x] [.str x ti3] from ⟨_, [], rfl, ⟨ti3, rfl⟩, rfl⟩)) rfl ⟨rfl, rfl⟩
  obtain ⟨ω, ω, ρ5, ⟨rfl, rfl⟩, H5, E5, ω⟩ := P5
  have F5 := (F3.ext E5 H5).retk (Nat.le_trans F.hr.gi.tk htk6)
  have hsz3 : s.heap.objs.size ≤ h3'.objs.size := by
   have : s.heap.objs.size ≤ (h3'.update am (Obj.mapSeq (·.push (.str x ti3)))).objs.size := hsz
   rwa [qfi] at this
  have E3 := O3.ext hsz3
  have E0 : Ext c.tabs [] ρ s ρ { s with toks := tk } := Ext.toks ..
  exact ⟨.next, _, _, ρ5, h2 hx, F5, ((E0.trans E3).trans E5).up, rfl⟩
end
end Mine
end
section
open PySem PySem.W PyProof.Rows PySem.Calls PySem.Spec Builtin
namespace Mine
section
variable {c : CX} {n : Nat} {os : List AO} {K : AV → List AO → Prop} {e : EF} {loc : Loc} {ρ : List Addr} {s : Shared} {f : Addr} {fd : FuncData} {body : List Stmt} {ls gs : List Str}
theorem qjv (C : c.Ok) (R : FnRec c f fd body ls gs) {args : List AV} {A : Around} (hA : AR A (n + 1)) {vs : List Value} (H : c.HR ρ os s) (V : VRs ρ s.heap args vs) (hbind : BindsTo s fd ⟨vs, []⟩ ((ls.take args.length).zip vs))
  (h : ∀ s1, FR c (efOf fd s.heap.objs.size f ls gs) (args.map some ++ List.replicate (ls.length - args.length) none) os ρ s1 → Ext c.tabs [] ρ s ρ s1 →
   wpAny (MM c.w) (A.deeper (callEnv fd s.heap.objs.size f)) (execs body (callEnv fd s.heap.objs.size f)) (PostF c (efOf fd s.heap.objs.size f ls gs) ρ s1 (Ret os.length K)) NoE s1) :
  wpAny (MM c.w) A (call (.ref f) vs []) (Post c ρ s K) NoE s := by
 refine x_ea R.look fun o ho hd => ?_
 have hin := gi_k H.gi C
 have room : A.depth < recursionLimit := by have := hA.depth; show A.depth < 1000; lia
 refine wpAny_call (codeAny_mono (R := fun r s' => match r with | .ok (.ret v) => Post c ρ s K v s' | _ => False) ?_ fun r s' z => ?_)
 ·refine codeAny_call_def room (hin _ _ ho) hd H.gi.lim (R.codeRec hin) R.body hbind R.cells (fun x hx => ?_) (fun h₀ hns k₀ => ?_) R.co R.gen R.kind
  ·have hm : (x.1, x.2) ∈ (ls.take args.length).zip vs := hx
   exact (R.ls _ (List.mem_of_mem_take (List.of_mem_zip hm).1)).1
  have hsz : s.heap.objs.size ≤ h₀.objs.size := by
   refine wf hns fun o ω ω ho ω => ?_; clear hns
   exact Nat.le_of_lt (Heap.lt_size ho)
  have H0 : c.HR ρ os { s with heap := h₀, toks := s.toks + ((ls.take args.length).zip vs).length } := H.keeps (d := s.drawn) H.gi.bare (Nat.le_add_right _ _) k₀ hsz
  have E0 : Ext c.tabs [] ρ s ρ { s with heap := h₀, toks := s.toks + ((ls.take args.length).zip vs).length } := Ext.keeps (d := s.drawn) k₀ hsz
  have F0 : FR c (efOf fd s.heap.objs.size f ls gs) (args.map some ++ List.replicate (ls.length - args.length) none) os ρ { s with heap := h₀, toks := s.toks + ((ls.take args.length).zip vs).length } := by
   refine ⟨H0, R.ef _, (y_ea _ hns (LocR.start (y0 (List.prefix_refl _) k₀ V) fun i x v hx hv => ?_)), fun q => absurd (H.lt q) (Nat.lt_irrefl _), H.gi.size⟩
   have hl := V.length
   have hi : i < args.length := by
    have := (List.getElem?_eq_some_iff.mp hv).1
    exact Nat.lt_of_lt_of_eq this hl
   exact qaj (R.nodup.sublist (List.take_sublist _ _)) ((List.getElem?_take_of_lt hi).trans hx) hv
  refine wpAny_mono (h _ F0 E0) (fun fl s1 y => ?_) fun ω ω z => z.elim
  obtain ⟨af, loc1, os1, ρ1, ⟨os2, g, rfl, hm, hu, hv, k1⟩, F1, E1, r1⟩ := y
  have E : Ext c.tabs [] ρ s (ρ1.take os2.length) s1 := (((E0.weaken (fun a h => (nomatch h))).trans E1).news (Y := [s.heap.objs.size]) (X := []) (by simp)).forget (Nat.le_trans (Nat.le_of_eq H.len) hm)
  have H1 := HRel.forget F1.hr hu
  cases af with
  | ret a => refine x_ea r1 fun v z179y r' => ?_; clear r1; subst z179y; exact ⟨a, os2, _, k1, H1, E, VR.take _ _ hv r'⟩
  | next => cases (show fl = .next from r1); exact ⟨.none, os2, _, k1, H1, E, rfl⟩
  | brk => cases (show fl = .brk from r1); exact ⟨.none, os2, _, k1, H1, E, rfl⟩
  | cont => cases (show fl = .cont from r1); exact ⟨.none, os2, _, k1, H1, E, rfl⟩
 ·cases r with
  | error e => exact z.elim
  | ok fl => cases fl with
   | ret v => exact z
   | next => exact z.elim
   | brk => exact z.elim
   | cont => exact z.elim
theorem quh {K : AF → Loc → List AO → Prop} {A : Around} (hA : AR A n) {L1 : Addr} (I : Nat → Loc → List AO → Prop) {t : Expr} {wb : List Stmt} {p : Pos} (m : Nat) (h0 : I m loc os) (F : FR c e loc os ρ s) (S : Stk c A e L1 ρ s)
  (test : ∀ m loc os, I m loc os → EB c n e loc os t fun b os1 => os1 = os ∧ (b = false → K .next loc os) ∧ (b = true → ∀ ρ s, FR c e loc os ρ s → Stk c A e L1 ρ s → wpAny (MM c.w) A (execs wb e.env) (PostF c e ρ s fun f l o => f = .next ∧ ∃ m', m' < m ∧ I m' l o) NoE s)) :
  wpAny (MM c.w) A (exec (.While t wb [] p) e.env) (PostF c e ρ s K) NoE s := by
 refine wpAny_While (codeAny_mono (R := fun r s' => match r with | .ok f => PostF c e ρ s K f s' | .error _ => False) ?_ fun r s' h => by cases r with | ok f => exact h | error _ => exact h.elim)
 refine codeAny_whileLoop (fun m s' => ∃ loc' os' ρ', I m loc' os' ∧ FR c e loc' os' ρ' s' ∧ Ext c.tabs [e.env.locals] ρ s ρ' s') ?_ m (u7 loc os ρ h0 F (Ext.refl ..))
 rintro m s1 q76x; refine qw q76x fun loc1 os1 ρ1 i1 F1 E1 => ?_; clear q76x
 refine wpAny_mono (test m loc1 os1 i1 A hA ρ1 s1 F1) (fun b s2 y => ?_) fun ω ω z => z.elim
 obtain ⟨os2, ρ2, ⟨rfl, k2, k1⟩, H2, E2⟩ := y
 have F2 := F1.ext E2 H2
 have E12 := E1.trans E2.up
 have S2 := S.ext F.hr E12
 cases b with
 | true =>
  refine wpAny_mono (k1 rfl ρ2 s2 F2 S2) (fun f s3 y => ?_) fun ω ω z => z.elim
  obtain ⟨ω, loc3, os3, ρ3, ⟨rfl, m', hm, i⟩, F3, E3, rfl⟩ := y
  exact (y_ea m' hm (u7 loc3 os3 ρ3 i F3 (E12.trans E3)))
 | false => exact wpAny_execs_nil ⟨.next, loc1, _, ρ2, k2 rfl, F2, E12, rfl⟩
end
end Mine
end
section
open PySem PySem.W PyProof.Rows PySem.Calls PySem.Spec
namespace Mine
structure qfo (z TI TO it l : Addr) : Prop where
 a : TI ≠ z
 b : TO ≠ z
 c : it ≠ z
 d : TI ≠ TO
 e : TI ≠ it
 f : TO ≠ it
 g : l ≠ z
 h : l ≠ TO
 i : l ≠ it
section
variable {w : World} {A : Around} {E : Value → Shared → Prop} {s : Shared}
theorem qpz {z TI TO it l : Addr} {k : Nat} {xs : Array Value} {x y a b : Value} {Q : Value → Shared → Prop} (D : qfo z TI TO it l)
  (hz : IsZip s.heap z TI TO .none) (hTI : IsPair s.heap TI (.ref it) (.ref it)) (hTO : IsPair s.heap TO a b) (hi : s.heap.IsListIter it l k) (hl : s.heap.IsList l xs) (hx : xs[k]? = some x) (hy : xs[k + 1]? = some y)
  (hQ : ∀ h', IsZip h' z TI TO (rawInt s.heap.objs.size) → IsPair h' TO x y → h'.IsListIter it l (k + 2) → IsPair h' s.heap.objs.size x y → h'.objs.size = s.heap.objs.size + 1 →
   (∀ c o, c ≠ z → c ≠ TO → c ≠ it → s.heap.get? c = some o → h'.get? c = some o) → Q (.ref s.heap.objs.size) { s with heap := h' }) :
  wpAny (MM w) A (Builtin.«zip.__next__» ⟨[.ref z], []⟩) (fun fin s' => ∃ v, fin = .done (.ret v) ∧ Q v s') E s := by
 show wpAny _ _ (field (.ref z) 2 >>= _) _ _ _
 refine wpAny_bind (wpAny_field hz rfl (x := .bool false) rfl ?_)
 show wpAny _ _ (field (.ref z) 3 >>= _) _ _ _
 refine wpAny_bind (wpAny_field hz rfl (x := .ref TI) rfl ?_)
 refine wpAny_bind (wpAny_seqItems hTI rfl ?_)
 show wpAny _ _ (Builtin.SmallTypes.ownedTupleIsFree (.ref z) >>= _) _ _ _
 refine wpAny_bind ?_
 unfold Builtin.SmallTypes.ownedTupleIsFree
 refine wpAny_bind (wpAny_field hz rfl (x := .none) rfl (wpAny_pure ?_))
 rw [if_pos rfl]
 refine wpAny_bind (wpAny_rule ?_)
 refine wpAny_bind (wpAny_field hz rfl (x := .ref TO) rfl ?_)
 refine wpAny_bind (wpAny_setField_rec hz (by exact size_pos_of_not_empty rfl) fun h1 hz1 hs1 => ?_)
 replace hz1 : IsZip h1 z TI TO .ellipsis := hz1
 refine wpAny_bind ?_
 simp only [List.zipIdx_cons, List.zipIdx_nil, List.forIn_cons, List.forIn_nil]
 refine wpAny_bind (wpAny_bind (wpAny_onRaise ?_))
 show wpAny _ _ (Builtin.SmallTypes.nextOf (.ref it) >>= _) _ _ _
 refine wpAny_bind (wpAny_nextOf_list_item (hi.extBut hs1.extBut D.c) (hl.extBut hs1.extBut D.g) hx fun h2 hi2 hs2 => wpAny_pure ?_)
 have hTO2 : IsPair h2 TO a b := hs2.extBut _ _ D.f (hs1.extBut _ _ D.b hTO)
 refine wpAny_bind (wpAny_seqItems hTO2 rfl ?_)
 refine wpAny_bind (wpAny_updateSeq_pair hTO2 fun h3 hTO3 hs3 => ?_)
 replace hTO3 : IsPair h3 TO x b := hTO3
 refine wpAny_bind (wpAny_letGo (wpAny_pure ?_))
 refine wpAny_bind (wpAny_bind (wpAny_onRaise ?_))
 show wpAny _ _ (Builtin.SmallTypes.nextOf (.ref it) >>= _) _ _ _
 refine wpAny_bind (wpAny_nextOf_list_item (hi2.extBut hs3.extBut D.f.symm) (((hl.extBut hs1.extBut D.g).extBut hs2.extBut D.i).extBut hs3.extBut D.h) hy fun h4 hi4 hs4 => wpAny_pure ?_)
 have hTO4 : IsPair h4 TO x b := hs4.extBut _ _ D.f hTO3
 refine wpAny_bind (wpAny_seqItems hTO4 rfl ?_)
 refine wpAny_bind (wpAny_updateSeq_pair hTO4 fun h5 hTO5 hs5 => ?_)
 replace hTO5 : IsPair h5 TO x y := hTO5
 refine wpAny_bind (wpAny_letGo (wpAny_pure (wpAny_pure ?_)))
 refine wpAny_bind (wpAny_seqItems hTO5 rfl ?_)
 refine wpAny_bind (wpAny_newTuple ?_)
 have hsz : h5.objs.size = s.heap.objs.size := by rw [hs5.1, hs4.1, hs3.1, hs2.1, hs1.1]
 have hk5 : ∀ c o, c ≠ TO → c ≠ it → h1.get? c = some o → h5.get? c = some o := fun c o c2 c3 e => hs5.extBut _ _ c2 (hs4.extBut _ _ c3 (hs3.extBut _ _ c2 (hs2.extBut _ _ c3 e)))
 have hz5 : IsZip h5 z TI TO .ellipsis := hk5 _ _ D.b.symm D.c.symm hz1
 have hi5 : h5.IsListIter it l (k + 2) := hi4.extBut hs5.extBut D.f.symm
 have hzl : z < h5.objs.size := Heap.lt_size hz5
 show wpAny _ _ (Builtin.SmallTypes.ownedTupleHandOut (.ref z) (.ref h5.objs.size) >>= _) _ _ _
 refine wpAny_bind ?_
 unfold Builtin.SmallTypes.ownedTupleHandOut
 have hz6 : IsZip (h5.push { cls := .type "tuple", data := .seq #[x, y] }) z TI TO .ellipsis := Heap.get?_push_of_some _ hz5
 refine wpAny_bind (wpAny_setField_rec hz6 (by exact size_pos_of_not_empty rfl) fun h7 hz7 hs7 => ?_)
 replace hz7 : IsZip h7 z TI TO (rawInt h5.objs.size) := hz7
 refine wpAny_setField_rec hz7 (by exact Nat.one_lt_succ_succ [Value.bool false, Value.ref TI, Value.ref TO].length) fun h8 hz8 hs8 => ?_
 replace hz8 : IsZip h8 z TI TO (rawInt h5.objs.size) := hz8
 have up : ∀ c o, c ≠ z → h5.get? c = some o → h8.get? c = some o := fun c o c1 e => hs8.extBut _ _ c1 (hs7.extBut _ _ c1 (Heap.get?_push_of_some _ e))
 have hT8 : IsPair h8 h5.objs.size x y := hs8.extBut _ _ (Nat.ne_of_gt hzl) (hs7.extBut _ _ (Nat.ne_of_gt hzl) (Heap.get?_push_size _ rfl))
 have hz8' : h8.objs.size = h5.objs.size + 1 := by rw [hs8.1, hs7.1, Heap.size_push]
 rw [hsz] at hz8 hT8 hz8'
 refine wpAny_pure (y_ea _ rfl ?_)
 show Q (.ref h5.objs.size) _
 rw [hsz]
 exact hQ h8 hz8 (up _ _ D.b hTO5) (hi5.at fun o e => up _ o D.c e) hT8 hz8' fun c o c1 c2 c3 e => up c o c1 (hk5 c o c2 c3 (hs1.extBut _ _ c1 e))
theorem qr5 {z TI TO it l : Addr} {k : Nat} {xs : Array Value} {a b : Value} {Q : Fin → Shared → Prop} (hh : A.handled = none) (D : qfo z TI TO it l)
  (hz : IsZip s.heap z TI TO .none) (hTI : IsPair s.heap TI (.ref it) (.ref it)) (hTO : IsPair s.heap TO a b) (hi : s.heap.IsListIter it l k) (hl : s.heap.IsList l xs) (hx : xs[k]? = none)
  (hE : ∀ h' e, (∀ c o, c ≠ z → c ≠ it → s.heap.get? c = some o → h'.get? c = some o) → (∃ o, h'.get? e = some o ∧ o.cls = .type "StopIteration") → E (.ref e) { s with heap := h' }) :
  wpAny (MM w) A (Builtin.«zip.__next__» ⟨[.ref z], []⟩) Q E s := by
 show wpAny _ _ (field (.ref z) 2 >>= _) _ _ _
 refine wpAny_bind (wpAny_field hz rfl (x := .bool false) rfl ?_)
 show wpAny _ _ (field (.ref z) 3 >>= _) _ _ _
 refine wpAny_bind (wpAny_field hz rfl (x := .ref TI) rfl ?_)
 refine wpAny_bind (wpAny_seqItems hTI rfl ?_)
 show wpAny _ _ (Builtin.SmallTypes.ownedTupleIsFree (.ref z) >>= _) _ _ _
 refine wpAny_bind ?_
 unfold Builtin.SmallTypes.ownedTupleIsFree
 refine wpAny_bind (wpAny_field hz rfl (x := .none) rfl (wpAny_pure ?_))
 rw [if_pos rfl]
 refine wpAny_bind (wpAny_rule ?_)
 refine wpAny_bind (wpAny_field hz rfl (x := .ref TO) rfl ?_)
 refine wpAny_bind (wpAny_setField_rec hz (by exact size_pos_of_not_empty rfl) fun h1 hz1 hs1 => ?_)
 replace hz1 : IsZip h1 z TI TO .ellipsis := hz1
 refine wpAny_bind ?_
 simp only [List.zipIdx_cons, List.zipIdx_nil, List.forIn_cons, List.forIn_nil]
 refine wpAny_bind (wpAny_bind (wpAny_onRaise ?_))
 show wpAny _ _ (Builtin.SmallTypes.nextOf (.ref it) >>= _) _ _ _
 refine wpAny_bind (wpAny_nextOf_list_end hh (hi.extBut hs1.extBut D.c) (hl.extBut hs1.extBut D.g) hx fun h2 e hs2 he => ?_)
 refine x_ea he fun oe hoe hce => ?_; clear he
 have hz2 : IsZip h2 z TI TO .ellipsis := hs2 _ _ D.c.symm hz1
 have hez : e ≠ z := fun x => by lia
 exact wpAny_setField_rec hz2 (by exact size_pos_of_not_empty rfl) fun h3 ω hs3 => hE h3 e (fun c o c1 c3 x => hs3.extBut _ _ c1 (hs2 _ _ c3 (hs1.extBut _ _ c1 x))) (y_ea oe (hs3.extBut _ _ hez hoe) hce)
theorem qp0 {z TI TO it l : Addr} {k : Nat} {xs : Array Value} {x y a b : Value} {Q : Option Value → Shared → Prop} (D : qfo z TI TO it l)
  (hz : IsZip s.heap z TI TO .none) (hTI : IsPair s.heap TI (.ref it) (.ref it)) (hTO : IsPair s.heap TO a b) (hi : s.heap.IsListIter it l k) (hl : s.heap.IsList l xs) (hx : xs[k]? = some x) (hy : xs[k + 1]? = some y)
  (hQ : ∀ h', IsZip h' z TI TO (rawInt s.heap.objs.size) → IsPair h' TO x y → h'.IsListIter it l (k + 2) → IsPair h' s.heap.objs.size x y → h'.objs.size = s.heap.objs.size + 1 →
   (∀ c o, c ≠ z → c ≠ TO → c ≠ it → s.heap.get? c = some o → h'.get? c = some o) → Q (some (.ref s.heap.objs.size)) { s with heap := h' }) :
  wpAny (MM w) A (pyNext (.ref z)) Q E s := by
 have hT : s.TypeIs (.ref z) "zip" := ⟨_, hz, rfl⟩
 unfold pyNext
 exact wpAny_bind (wpAny_attempt (wpAny_callSpecial?_slot (name := Str.ofString "__next__") hT PySem.F.slot_zip_next
  (wpAny_call_entry PySem.F.slot_zip_next hT PySem.F.entry_zip_next
   (qpz D hz hTI hTO hi hl hx hy fun h' a1 a2 a3 a5 a6 a7 => wpAny_pure (hQ h' a1 a2 a3 a5 a6 a7)) (PySem.F.args_zip_next_1 _))))
theorem qp1 {z TI TO it l : Addr} {k : Nat} {xs : Array Value} {a b : Value} {Q : Option Value → Shared → Prop} (hh : A.handled = none) (D : qfo z TI TO it l)
  (hz : IsZip s.heap z TI TO .none) (hTI : IsPair s.heap TI (.ref it) (.ref it)) (hTO : IsPair s.heap TO a b) (hi : s.heap.IsListIter it l k) (hl : s.heap.IsList l xs) (hx : xs[k]? = none)
  (hQ : ∀ h', (∀ c o, c ≠ z → c ≠ it → s.heap.get? c = some o → h'.get? c = some o) → Q none { s with heap := h' }) : wpAny (MM w) A (pyNext (.ref z)) Q E s := by
 have hT : s.TypeIs (.ref z) "zip" := ⟨_, hz, rfl⟩
 unfold pyNext
 refine wpAny_bind (wpAny_attempt (wpAny_callSpecial?_slot (name := Str.ofString "__next__") hT PySem.F.slot_zip_next
  (wpAny_call_entry PySem.F.slot_zip_next hT PySem.F.entry_zip_next (qr5 hh D hz hTI hTO hi hl hx fun h' e hk he => ?_) (PySem.F.args_zip_next_1 _))))
 refine x_ea he fun o ho hc => ?_; clear he
 refine wpAny_bind (wpAny_isInstance (T := "StopIteration") (b := true) ⟨o, ho, hc⟩ isSubtype_stop ?_)
 exact wpAny_pure (hQ _ hk)
end
noncomputable abbrev zA (h : Heap) (i : Addr) : Heap := h.push { cls := .type "tuple", data := .seq #[.ref i, .ref i] }
noncomputable abbrev zB (h : Heap) (i : Addr) : Heap := (zA h i).push { cls := .type "tuple", data := .seq #[.none, .none] }
noncomputable abbrev zC (h : Heap) (i : Addr) : Heap := (zB h i).push { cls := .type "zip", data := .fields #[.none, .bool false, .bool false, .ref h.objs.size, .ref (zA h i).objs.size] }
section
variable {w : World} {A : Around} {E : Value → Shared → Prop} {s : Shared}
theorem qv6 : True := trivial
end
end Mine
end
section
open PySem PySem.W PyProof.Rows PySem.Calls PySem.Spec
namespace Mine
theorem qlr (it l : Addr) (k : Nat) :
  Meets (Builtin.«zip.__new__» ⟨[.type "zip", .ref it, .ref it], []⟩) (fun ω R s => s.heap.IsListIter it l k ∧ R (.ok (.ret (.ref (zB s.heap it).objs.size))) { s with heap := zC s.heap it }) :=
 .of_wp fun prog w A R s h => by
  obtain ⟨hp, g, d, tk, os⟩ := s; obtain ⟨hi, h⟩ := h
  have hsub := sub_zip
  have hI : Heap.IsListIter (Shared.heap ⟨hp, g, d, tk, os⟩) it l k := hi
  wp_walk using wpAny_pyIter_listiter hI, wpAny_pyIter_listiter hI
  exact (y_ea _ rfl h)
section
variable {w : World} {A : Around} {E : Value → Shared → Prop} {s : Shared}
theorem qnf {it l : Addr} {k : Nat} {Q : Value → Shared → Prop} (hi : s.heap.IsListIter it l k)
  (h : ∀ h', IsZip h' (s.heap.objs.size + 2) s.heap.objs.size (s.heap.objs.size + 1) .none → IsPair h' s.heap.objs.size (.ref it) (.ref it) → IsPair h' (s.heap.objs.size + 1) .none .none →
   h'.objs.size = s.heap.objs.size + 3 → (∀ c o, s.heap.get? c = some o → h'.get? c = some o) → Q (.ref (s.heap.objs.size + 2)) { s with heap := h' }) :
  wpAny (MM w) A (call (.type "zip") [.ref it, .ref it]) Q E s := by
 refine callType_new PySem.F.called_zip (by rfl) (PySem.F.typeCall_zip_2 _ _) (PySem.F.newCall_zip_2 _ _) (fun obj => PySem.F.args_object_init_3 obj _ _) PySem.F.entry_zip_new
  (qlr it l k) ⟨hi, ?_⟩
 have z1 : (zA s.heap it).objs.size = s.heap.objs.size + 1 := Heap.size_push ..
 have z2 : (zB s.heap it).objs.size = s.heap.objs.size + 2 := by rw [Heap.size_push, z1]
 have z3 : (zC s.heap it).objs.size = s.heap.objs.size + 3 := by rw [Heap.size_push, z2]
 have g3 : (zC s.heap it).get? (zB s.heap it).objs.size = some _ := Heap.get?_push_size _ rfl
 have g2 : (zC s.heap it).get? (zA s.heap it).objs.size = some _ := Heap.get?_push_of_some _ (Heap.get?_push_size _ rfl)
 have g1 : (zC s.heap it).get? s.heap.objs.size = some _ := Heap.get?_push_of_some _ (Heap.get?_push_of_some _ (Heap.get?_push_size _ rfl))
 show _ ∧ _
 rw [z1, z2] at g3
 rw [z1] at g2
 rw [z2]
 exact ⟨⟨_, g3, rfl⟩, h _ g3 g1 g2 z3 fun c o x => Heap.get?_push_of_some _ (Heap.get?_push_of_some _ (Heap.get?_push_of_some _ x))⟩
theorem qka {l : Addr} {vs : List Value} {m : Nat} {x : Int} {u : Tok} {Q : Value → Shared → Prop} (hl : s.heap.get? l = some (ux vs m)) (hlo : -(2 ^ 63 : Int) ≤ x) (hhi : x < 2 ^ 63) (hsz : vs.length * x.toNat ≤ 2 ^ 24)
  (h : Q (.ref s.heap.objs.size) { s with heap := s.heap.push (ux (List.replicate x.toNat vs).flatten 0) }) : wpAny (MM w) A (binaryOp .Mult (.ref l) (.int x u)) Q E s := by
 refine wpAny_binaryOp_repeat_ref (T := "list") (U := "int") (by rfl) ⟨_, hl, rfl⟩ (fun s' => typeIs_int s' x u) noFill_list_mul PySem.F.fills_int_mul PySem.F.slot_int_rmul repeat_list PySem.F.slot_int_index.lookup
  (call_meets PySem.F.slot_int_rmul (typeIs_int s x u) PySem.F.entry_int_rmul (PySem.F.args_int_rmul_2 _ _) (int___rmul___int_list x u l vs.toArray m)
   (y_a3 hl rfl ⟨_, hl, rfl⟩ (call_meets PySem.F.slot_list_mul ⟨_, hl, rfl⟩ PySem.F.entry_list_mul (PySem.F.args_list_mul_2 _ _)
    (AutoListH.list___mul___list_int_3 l vs.toArray m x u (by simp [Builtin.List.listFitsIndex]; exact And.symm ⟨hhi, hlo⟩) (by simp; lia) (by simp [Builtin.List.listTooLong, sizeLine]; assumption))
    ⟨hl, ?_⟩)))
 rw [listMul_foldl]
 have e : ((#[] : Array Value).toList ++ (List.replicate (if vs.toArray.isEmpty = true then 0 else x.toNat) vs.toArray.toList).flatten).toArray = (List.replicate x.toNat vs).flatten.toArray := by
  cases vs with
  | nil => simp
  | cons a b => rfl
 rw [e]; exact h
theorem qne {l : Addr} {items : Array Value} {Q : Value → Shared → Prop} (hl : s.heap.IsList l items)
  (h : Q (.ref s.heap.objs.size) { s with heap := s.heap.push { cls := .type "list_iterator", data := .fields #[.ref l, .int 0 0] } }) : wpAny (MM w) A (call (.builtin "iter") [.ref l]) Q E s := by
 refine call_function_entry (by rfl) (by rfl) kdk_entry_iter (kdk_args_iter _) ?_
 unfold Builtin.«iter»
 refine wpAny_bind (m := someArgs "iter" 1 2 _) (wpAny_of_eq (a := [Value.ref l]) (by first | rfl | kernel_rfl!) ?_)
 show wpAny _ _ (pyIter (.ref l) >>= _) _ _ _
 refine wpAny_bind (wpAny_pyIter_list hl ?_)
 exact wpAny_pure (y_ea _ rfl h)
end
section
variable {c : CX} {n : Nat} {os : List AO} {K : AV → List AO → Prop}
theorem qk0 {k : Nat} {xs : List AV} {x : Int} (hk : os[k]? = some (.list xs)) (hlo : -(2 ^ 63 : Int) ≤ x) (hhi : x < 2 ^ 63) (hsz : xs.length * x.toNat ≤ 2 ^ 24) (h : K (.ref os.length) (os ++ [.list (List.replicate x.toNat xs).flatten])) :
  TV2 c n (binaryOp .Mult) (.ref k) (.int x) os K := by
 rintro A hA ρ s v u H q123x; refine x_ea q123x fun a ha hv => ?_; clear q123x; rintro q124x; obtain ⟨t, hu⟩ := q124x
 subst hv hu
 refine x_ea (qq H hk ha) fun vs z269y r => ?_; obtain ⟨m, e⟩ := z269y
 refine qka (vs := vs) (m := m) e hlo hhi (by rw [r.length]; exact hsz) ?_
 have kp := qf (h := s.heap) (ob := ux (List.replicate x.toNat vs).flatten 0)
 have rr : ∀ (j : Nat), VRs ρ s.heap (List.replicate j xs).flatten (List.replicate j vs).flatten := fun j => by
  induction j with
  | zero => rfl
  | succ j ih => simp only [List.replicate_succ, List.flatten_cons]; exact r.append ih
 exact ⟨_, _, ρ ++ [s.heap.objs.size], h, H.alloc (d := s.drawn) (tk := s.toks) H.gi.bare (Nat.le_refl _) kp qe (Nat.le_refl _) ⟨_, ⟨0, Heap.get?_push_size _ rfl⟩, y0 (List.prefix_append _ _) kp (rr _)⟩,
  Ext.alloc kp qe (Nat.le_refl _), s.heap.objs.size, by rw [← H.len]; exact List.getElem?_concat_length, rfl⟩
end
end Mine
end
section
open PySem PySem.W PyProof.Rows PySem.Calls PySem.Spec Builtin
namespace Mine
section
variable {c : CX} {n : Nat} {os : List AO} {K : AV → List AO → Prop}
theorem qkx {value slice : Expr} {l : Addr} {vs : List Value} {ns : List Int} {b : Nat} (hB : c.B.heap.IsList l vs.toArray) (hi : IntsAre vs ns) (hl : ns.length ≤ sizeLine) (h : K (.ref os.length) (os ++ [.list ((ns.take b).map .int)])) :
  TV2 c n (subscriptTail value slice) (.glob (.ref l)) (.sl none (some (b : Int))) os K := by
 rintro A hA ρ s v w H hv q77x; refine ym q77x fun a vl vu hw e p1 p2 => ?_; clear q77x
 obtain rfl : v = .ref l := hv
 subst hw
 refine xy hB fun o ho hc z183y => ?_; clear hB; obtain ⟨m, hd⟩ := z183y
 have e' : s.heap.IsList l vs.toArray := ⟨o, H.gi.old.get_of_cls ho (by rw [hc]; exact nofun), hc, m, hd⟩
 have hlen : vs.length = ns.length := hi.length
 refine xr e'.typeIs slot_list_getitem.lookup (wpAny_getItem_list_slice e' ⟨_, e, rfl, rfl⟩ p1 p2 .none (by exact Ne.symm (Option.some_ne_none 0)) ?_ (by exact kmk_sz hi hl))
 have kp := qf (h := s.heap) (ob := { cls := .type "list", data := .seq (slicePick vs.toArray none (some (b : Int)) none) })
 have r : ∀ {ρ h} {ns : List Int} {vs : List Value}, IntsAre vs ns → VRs ρ h (ns.map .int) vs := by
  intro ρ h ns vs hi
  induction hi with
  | nil => exact rfl
  | cons _ _ _ ih => exact ⟨_, _, rfl, ⟨_, rfl⟩, ih⟩
 have hy : ∀ {ρ h}, VRs ρ h ((ns.take b).map .int) (slicePick vs.toArray none (some (b : Int)) none).toList := by
  intro ρ h
  rw [slicePick_upto', List.map_take]; exact (r hi).take b
 refine ⟨_, _, ρ ++ [s.heap.objs.size], h, H.alloc (d := s.drawn) (tk := s.toks) H.gi.bare (Nat.le_refl _) kp qe (Nat.le_refl _) ⟨(slicePick vs.toArray none (some (b : Int)) none).toList, ⟨0, by simpa using Heap.get?_push_size _ rfl⟩, hy⟩,
  Ext.alloc kp qe (Nat.le_refl _), s.heap.objs.size, by rw [← H.len]; exact List.getElem?_concat_length, rfl⟩
theorem qwc {k : Nat} {ns : List Int} (hk : os[k]? = some (.list (ns.map .int))) (h : K (.int ns.sum) os) : CG c n (.builtin "sum") [.ref k] os K := fun A hA ρ s vs H V => by
 refine qc (wq V) fun a r ha z182y V2 => ?_; subst z182y
 obtain rfl := q0 V2
 refine x_ea (qq H hk ha) fun ws e rs => ?_
 have hi := qer rs
 obtain ⟨xs, hx⟩ := hi.allInts.items
 have hxs : ns = xs.toList.map (·.1) := by rw [← nums_intItems, ← hx]; exact hi.numsOf.symm
 refine q6 (qr (sum_intListG hA.hd (by rw [← hx]; exact e.list) fun h' tk t' hk ht hz => ?_))
 rw [preSum_eq, List.take_of_length_le (by simp), ← hxs]
 exact ⟨_, os, ρ, h, H.keeps H.gi.bare ht hk hz, Ext.keeps hk hz, t', rfl⟩
theorem qda {x : List Nat} (hl : x.length ≤ sizeLine) (h : K (.ref os.length) (os ++ [.list ((x.map fun ch => S [ch]).map .str)])) : CG c n (.type "list") [.str (S x)] os K := fun A hA ρ s vs H V => by
 refine q9 (jl V) fun t r z181y V1 => ?_; subst z181y
 obtain rfl := q0 V1
 refine qr (call_list_str hA.hd (S x) t (hn := by assumption) fun h' tk acc' c' hk hS' hacc ht => ?_)
 have hz : s.heap.objs.size ≤ h'.objs.size := Nat.le_of_lt (Heap.lt_size hS')
 have hv : ∀ (ρ : List Addr) (h : Heap) (x : List Nat) (l : List Value), l.length = x.length → (∀ (j : Nat) (v : Value), l[j]? = some v → ∃ ch u, x[j]? = some ch ∧ v = .str ⟨#[ch]⟩ u) → VRs ρ h ((x.map fun ch => S [ch]).map AV.str) l := by
  intro ρ h x
  induction x with
  | nil => intro l hl ω; exact List.eq_nil_of_length_eq_zero hl
  | cons y x ih =>
   intro l hl hx
   cases l with
   | nil => simp at hl
   | cons v l =>
    refine q9 (hx 0 v rfl) fun ch u e1 z180y => ?_; subst z180y
    simp at e1; subst e1
    exact ⟨_, l, rfl, ⟨u, rfl⟩, ih l (by simpa using hl) fun j v hv => hx (j + 1) v hv⟩
 refine ⟨_, _, ρ ++ [s.heap.objs.size], h, H.alloc H.gi.bare ht hk hz (Nat.le_refl _) ⟨acc'.toList, ⟨c', by simpa using hS'⟩, hv _ _ _ _ (by simpa [S] using hacc.1) fun j v e => ?_⟩, Ext.alloc hk hz (Nat.le_refl _), s.heap.objs.size, by rw [← H.len]; exact List.getElem?_concat_length, rfl⟩
 refine q9 (hacc.2 j v (by simpa using e)) fun ch u e1 e2 => ?_
 exact (qho ch u (by simpa [S] using e1) e2)
end
section
variable {c : CX} {n : Nat} {A : Around} {e : EF} {loc : Loc} {os : List AO}
theorem qav {M : Model} {Γ : PySem.Ctx} {env : Env} {b : List Stmt} {Q : Flow → Pos → Shared → Prop} {E : Value → Pos → Shared → Prop} : ∀ (a : List Stmt) (p : Pos) (s : Shared), Sem.wp M Γ (execs a env) (fun f p' s' => match f with | .next => Sem.wp M Γ (execs b env) Q E p' s' | f => Q f p' s') E p s → Sem.wp M Γ (execs (a ++ b) env) Q E p s
 | [], p, s, h => h
 | st :: a, p, s, h => by
  rw [execs_cons, Sem.wp_bind'] at h
  rw [List.cons_append, execs_cons, Sem.wp_bind']
  refine Sem.wp_mono M Γ _ (fun f p' s' h' => ?_) (fun ω ω ω h' => h') _ _ h
  cases f with
  | next => exact qav a p' s' h'
  | _ => exact h'
theorem qnp {body1 body2 : List Stmt} {K1 : Loc → List AO → Prop} {K : AF → Loc → List AO → Prop} {ρ : List Addr} {s : Shared} (hA : AR A n) (F : FR c e loc os ρ s) (h1 : EXs c n e loc os body1 fun f l o => f = .next ∧ K1 l o)
  (h2 : ∀ loc' os' ρ' s', K1 loc' os' → FR c e loc' os' ρ' s' → Ext c.tabs [e.env.locals] ρ s ρ' s' → wpAny (MM c.w) A (execs body2 e.env) (PostF c e ρ' s' K) NoE s') :
  wpAny (MM c.w) A (execs (body1 ++ body2) e.env) (PostF c e ρ s K) NoE s := fun Γ p hΓ => by
 refine qav body1 p s (Sem.wp_mono _ Γ _ (fun f p' s' z => ?_) (fun ω ω ω h' => h') _ _ (h1 A hA ρ s F Γ p hΓ))
 obtain ⟨ω, l1, o1, ρ1, ⟨rfl, k1⟩, F1, E1, rfl⟩ := z
 exact Sem.wp_mono _ Γ _ (fun f p' s' z => PostF.from E1 z) (fun ω ω ω h' => h') _ _ (h2 l1 o1 ρ1 s' k1 F1 E1 Γ p' hΓ)
end
end Mine
end
section
open PySem PySem.W PyProof.Rows PySem.Calls PySem.Spec
namespace Mine
theorem qtx {c : CX} {os : List AO} {a : AV} {name : Str} {R : Value → Prop} (h : ∃ f, je c os a name f ∧ R f) : ∃ f, je c os a name f ∧ R f := h
section
variable {c : CX} {os : List AO} {x : Str} {R : Value → Prop}
theorem qoz (h : R (.builtin "str.join")) : ∃ f, je c os (.str x) (Str.ofString "join") f ∧ R f := (y_ea _ (qft (fun q => GM.join q)) h)
theorem qls (h : R (.builtin "str.count")) : ∃ f, je c os (.str x) (Str.ofString "count") f ∧ R f := (y_ea _ (qft (fun q => GM.count q)) h)
theorem qlt (h : R (.builtin "str.split")) : ∃ f, je c os (.str x) (Str.ofString "split") f ∧ R f := (y_ea _ (qft (fun q => GM.split q)) h)
theorem qg3 (h : R (.builtin "str.replace")) : ∃ f, je c os (.str x) (Str.ofString "replace") f ∧ R f := (y_ea _ (qft (fun q => GM.replace q)) h)
theorem qoy (h : R (.builtin "str.find")) : ∃ f, je c os (.str x) (Str.ofString "find") f ∧ R f := (y_ea _ (qft (fun q => GM.find q)) h)
theorem qc5 (h : R (.builtin "str.translate")) : ∃ f, je c os (.str x) (Str.ofString "translate") f ∧ R f := (y_ea _ qh7 h)
theorem yk {k : Nat} (hk : qmq os k) (h : R (.builtin "list.append")) : ∃ f, je c os (.ref k) (Str.ofString "append") f ∧ R f := (y_ea _ (ug hk) h)
end
end Mine
end
section
open PySem PySem.W PyProof.Rows PySem.Calls PySem.Spec
namespace Mine
inductive It where
 | star
 | txt (s : List Nat)
noncomputable def tx : List It → List (List Nat)
 | .txt s :: r => s :: tx r
 | _ => []
theorem qxm : ∀ (s : List Nat) (r : List It), tx (.txt s :: r) = s :: tx r := by intros; rfl
theorem qxn : tx [] = [] := by intros; rfl
theorem qxo : ∀ (r : List It), tx (.star :: r) = [] := by intros; rfl
noncomputable def aft : List It → List It
 | .txt _ :: r => aft r
 | l => l
theorem qu1 : ∀ (s : List Nat) (r : List It), aft (.txt s :: r) = aft r := by intros; rfl
theorem qu2 : aft [] = [] := by intros; rfl
theorem qu3 : ∀ (r : List It), aft (.star :: r) = .star :: r := by intros; rfl
noncomputable abbrev jg : List Nat := [46, 42]
noncomputable abbrev ja : List Nat := [40, 63, 62, 46, 42, 63]
noncomputable def grp : Nat → List It → List (List Nat)
 | n + 1, .star :: r => match r with
  | [] => [jg]
  | r => (match aft r with
   | [] => [jg, cat (tx r)]
   | r' => (ja ++ cat (tx r) ++ [41]) :: grp n r')
 | _, _ => []
noncomputable def joined (its : List It) : List Nat := [40, 63, 115, 58] ++ cat (tx its ++ grp its.length (aft its)) ++ [41, 92, 90]
noncomputable def noSS : List It → Prop
 | .star :: .star :: _ => False
 | _ :: r => noSS r
 | [] => True
noncomputable def It.wt : It → Nat
 | .star => 16
 | .txt s => s.length
theorem qdu : It.star.wt = 16 := by intros; rfl
theorem qdv : ∀ (s : List Nat), (It.txt s).wt = s.length := by intros; rfl
noncomputable def wts (its : List It) : Nat := (its.map It.wt).sum
theorem qbk : ∀ (l : List It), (aft l).length ≤ l.length
 | .txt _ :: r => Nat.le_trans (qbk r) (Nat.le_succ _)
 | .star :: r => Nat.le_refl _
 | [] => Nat.le_refl _
theorem qbj : ∀ (l : List It), aft l = [] ∨ ∃ r, aft l = .star :: r
 | .txt _ :: r => qbj r
 | .star :: r => .inr ⟨r, rfl⟩
 | [] => .inl rfl
theorem noSS.tail : ∀ {l : List It} {a : It}, noSS (a :: l) → noSS l
 | [], _, _ => trivial
 | .star :: r, .star, h => h.elim
 | .txt _ :: r, .star, h => h
 | .star :: r, .txt _, h => h
 | .txt _ :: r, .txt _, h => h
theorem qfk (a : It) (l : List It) : wts (a :: l) = a.wt + wts l := by rfl
theorem wm (xs : List (List Nat)) : (cat xs).length = (xs.map List.length).sum := by simp [cat, List.length_flatten]
end Mine
end
section
namespace Mine
inductive Tk where
 | star
 | q
 | c (ch : Nat)
 | br0
 | brw (s : List Nat)
 deriving DecidableEq
noncomputable def Tk.flat : Tk → List Nat
 | .star => [42]
 | .q => [63]
 | .c ch => [ch]
 | .br0 => [91, 33, 98, 45, 100, 93]
 | .brw s => 91 :: s ++ [93]
theorem y5 : Tk.star.flat = [42] := by intros; rfl
theorem y6 : Tk.q.flat = [63] := by intros; rfl
theorem za : ∀ (ch : Nat), (Tk.c ch).flat = [ch] := by intros; rfl
theorem zb : Tk.br0.flat = [91, 33, 98, 45, 100, 93] := by intros; rfl
theorem zc : ∀ (s : List Nat), (Tk.brw s).flat = 91 :: s ++ [93] := by intros; rfl
noncomputable abbrev qj (ts : List Tk) : List Nat := ts.flatMap Tk.flat
noncomputable abbrev w4 : List (List Nat) := [[32, 101], [9, 101], [10, 32, 101], [10, 9, 101]]
noncomputable def Tk.ok : Tk → Prop
 | .c ch => vq ch ∨ qaz ch
 | .brw s => s ∈ w4
 | _ => True
noncomputable def Tk.it : Tk → It
 | .star => .star
 | .q => .txt [46]
 | .c ch => .txt (escC ch)
 | .br0 => .txt [91, 94, 98, 45, 100, 93]
 | .brw s => .txt (91 :: s ++ [93])
theorem qbb : Tk.star.it = It.star := by intros; rfl
theorem qbc : Tk.q.it = It.txt [46] := by intros; rfl
theorem qbd : ∀ (ch : Nat), (Tk.c ch).it = It.txt (escC ch) := by intros; rfl
theorem qbe : Tk.br0.it = It.txt [91, 94, 98, 45, 100, 93] := by intros; rfl
theorem qbf : ∀ (s : List Nat), (Tk.brw s).it = It.txt (91 :: s ++ [93]) := by intros; rfl
noncomputable def j6 (its : List It) : Bool := match its.getLast? with
 | some .star => true
 | _ => false
noncomputable def qk (its : List It) (t : Tk) : List It := match t with
 | .star => if j6 its = true then its else its ++ [.star]
 | t => its ++ [t.it]
theorem j8 : ∀ (its : List It), qk its Tk.star = if j6 its = Bool.true then its else its ++ [It.star] := by intros; rfl
theorem j9 : ∀ its, qk its .q = its ++ [Tk.it .q] := by intros; rfl
theorem xc : ∀ its c, qk its (.c c) = its ++ [Tk.it (.c c)] := by intros; rfl
theorem xd : ∀ its, qk its .br0 = its ++ [Tk.it .br0] := by intros; rfl
theorem xe : ∀ its s, qk its (.brw s) = its ++ [Tk.it (.brw s)] := by intros; rfl
noncomputable def jt (ts : List Tk) : List It := ts.foldl qk []
theorem qli (ts : List Tk) (t : Tk) : jt (ts ++ [t]) = qk (jt ts) t := by simp [jt]
theorem qlb (ts : List Tk) (t : Tk) : qj (ts ++ [t]) = qj ts ++ t.flat := by simp
theorem qip (its : List It) (t : Tk) : (qk its t).length ≤ its.length + 1 := by
 unfold qk
 split
 ·split <;> simp
 ·simp
theorem qgv (ts : List Tk) : (jt ts).length ≤ ts.length := by
 have : ∀ (ts : List Tk) (a : List It), (ts.foldl qk a).length ≤ a.length + ts.length := by
  intro ts
  induction ts with
  | nil => intro a; simp
  | cons t ts ih =>
   intro a
   have h1 := ih (qk a t)
   have h2 := qip a t
   simp only [List.foldl_cons, List.length_cons]
   lia
 simpa [jt] using this ts []
theorem qj2 (t : Tk) : 0 < t.flat.length := by cases t <;> simp [y5, y6, za, zb, zc]
theorem qgg (ts : List Tk) : ts.length ≤ (qj ts).length := by
 induction ts with
 | nil => decide
 | cons t ts ih =>
  have := qj2 t
  simp only [qj, List.flatMap_cons, List.length_append, List.length_cons] at *
  lia
end Mine
end
section
namespace Mine
theorem ju (s : List Nat) : ∀ (l : List It), noSS l → noSS (l ++ [.txt s])
 | [], _ => trivial
 | [.star], _ => trivial
 | .txt _ :: r, h => ju s r h
 | .star :: .txt t :: r, h => ju s (.txt t :: r) h
theorem yx : ∀ (l : List It), noSS l → j6 l = false → noSS (l ++ [.star])
 | [], _, _ => trivial
 | [.star], _, h => by simp [j6] at h
 | [.txt _], _, _ => trivial
 | .txt _ :: b :: r, h, hl => yx (b :: r) h (by assumption)
 | .star :: .txt t :: r, h, hl => yx (.txt t :: r) h (by assumption)
theorem qgw {its : List It} (t : Tk) (h : noSS its) : noSS (qk its t) := by
 cases t with
 | star =>
  simp only [j8, j9, xc, xd, xe]
  split
  ·exact h
  ·rename_i hl
   exact yx its h (by simpa using hl)
 | q => exact ju _ its h
 | c ch => exact ju _ its h
 | br0 => exact ju _ its h
 | brw s => exact ju _ its h
theorem qlh (ts : List Tk) : noSS (jt ts) := by
 have : ∀ (ts : List Tk) (a : List It), noSS a → noSS (ts.foldl qk a) := by
  intro ts
  induction ts with
  | nil => intro a h; exact h
  | cons t ts ih => intro a h; exact ih _ (qgw t h)
 exact this ts [] trivial
theorem qi6 (a b : List It) : wts (a ++ b) = wts a + wts b := by simp [wts]
theorem qwt {t : Tk} (h : t.ok) : t.it.wt ≤ 16 := by
 cases t with
 | star => exact Nat.le_refl _
 | q => exact Nat.le_of_ble_eq_true rfl
 | c ch =>
  show (escC ch).length ≤ 16
  unfold escC; split <;> simp
 | br0 => exact Nat.le_of_ble_eq_true rfl
 | brw s =>
  have hB : s ∈ w4 := h
  simp only [w4, List.mem_cons, List.mem_nil_iff, or_false] at hB
  rcases hB with rfl | rfl | rfl | rfl <;> simp [qbb, qbc, qbd, qbe, qbf, qdu, qdv]
theorem qb4 {its : List It} {t : Tk} (h : t.ok) : wts (qk its t) ≤ wts its + 16 := by
 have hw := qwt h
 have e : wts (its ++ [t.it]) ≤ wts its + 16 := by rw [qi6]; simp [wts]; exact hw
 cases t with
 | star => simp only [j8, j9, xc, xd, xe]; split; simp; exact e
 | q => exact e
 | c ch => exact e
 | br0 => exact e
 | brw s => exact e
theorem qoj {ts : List Tk} (h : ∀ t ∈ ts, t.ok) : wts (jt ts) ≤ 16 * ts.length := by
 have : ∀ (ts : List Tk) (a : List It), (∀ t ∈ ts, t.ok) → wts (ts.foldl qk a) ≤ wts a + 16 * ts.length := by
  intro ts
  induction ts with
  | nil => intro a ω; simp
  | cons t ts ih =>
   intro a h
   have h1 := ih (qk a t) fun x hx => h x (.tail _ hx)
   have h2 := qb4 (its := a) (h t (.head _))
   simp only [List.foldl_cons, List.length_cons]
   lia
 simpa [jt, wts] using this ts [] h
end Mine
end
section
open PySem PySem.W PyProof.Rows PySem.Calls PySem.Spec
namespace Mine
section
variable {c : CX} {n : Nat} {os : List AO} {K : AF → Loc → List AO → Prop} {e : EF} {loc : Loc} {ρ : List Addr} {s s' : Shared} {Y : List Addr}
theorem FR.hide (F : FR c e loc os ρ s) {jh : Nat} {TO : Addr} (hj : os[jh]? = some .hid) (hr : ρ[jh]? = some TO) (y : OutY c Y ρ s.heap) (hL : e.env.locals ∉ Y) (hLo : e.env.locals ≠ TO)
  (keep : ∀ b o, s.heap.get? b = some o → b ∉ Y → b ≠ TO → s'.heap.get? b = some o) (hT' : ∃ u v, s'.heap.get? TO = some (xn [u, v])) (size : s.heap.objs.size ≤ s'.heap.objs.size) (bare : AllBare s'.gens) (hos : s'.os = s.os) (tk : s.toks ≤ s'.toks) :
  FR c e loc os ρ s' ∧ Ext c.tabs (Y ++ [e.env.locals]) ρ s ρ s' ∧ ImmK ρ s.heap s'.heap := by
 refine x_e2 hT' fun u' v' hT' => ?_
 have hmem : TO ∈ ρ := List.mem_of_getElem? hr
 refine x_ea (F.hr.objs jh _ hj) fun b e1 z274y => ?_; refine x_e2 z274y fun u v hT => ?_; clear z274y
 rw [hr] at e1; cases e1
 have sb : Heap.SameBut TO s.heap (s.heap.update TO fun ω => xn [u', v']) := Heap.SameBut.update ..
 have hm : (s.heap.update TO fun ω => xn [u', v']).get? TO = some (xn [u', v']) := Heap.get?_update_self _ hT rfl
 have H1 : c.HR ρ (os.set jh .hid) { s with heap := s.heap.update TO fun ω => xn [u', v'] } := F.hr.set (d := s.drawn) (tk := s.toks) F.hr.gi.bare (Nat.le_refl _) hr sb ⟨_, _, hm⟩
 have hso : os.set jh .hid = os := by
  apply List.ext_getElem?
  intro i
  by_cases h : jh = i
  ·subst h; rw [hj]; simp [(List.getElem?_eq_some_iff.mp hj).1]
  ·exact List.getElem?_set_ne h
 rw [hso] at H1
 have E1 : Ext c.tabs [] ρ s ρ { s with heap := s.heap.update TO fun ω => xn [u', v'] } := Ext.set (d := s.drawn) (tk := s.toks) hmem sb
 have F1 := F.ext E1 H1
 have y1 : OutY c Y ρ (s.heap.update TO fun ω => xn [u', v']) := ⟨y.out, y.new, fun a ha => by
  refine x_ea (y.obj a ha) fun o ho r => ?_
  exact (y_ea o ((sb.2 a fun q => y.out a ha (q ▸ hmem)).trans ho) r)⟩
 have O : Outs c Y ρ { s with heap := s.heap.update TO fun ω => xn [u', v'] } s' := ⟨fun b o hb hY => by
  by_cases q : b = TO
  ·lia
  ·exact keep b o ((sb.2 b q).symm.trans hb) hY q, by rw [show (s.heap.update TO fun ω => xn [u', v']).objs.size = s.heap.objs.size from sb.1]; exact size, bare, hos, tk⟩
 exact (y_a2 (O.fr y1 hL F1) ((E1.weaken fun ω h => nomatch h).trans (O.ext fun a h => List.mem_append_left _ h)) (fun b o hi hc hb => keep b o hb (fun q => by
  refine zh (y.obj b q) fun o' ho' ω z ω => ?_
  rw [hb] at ho'; cases ho'; exact z hi) fun q => by
  lia))
inductive ZI (c : CX) (e : EF) (I : Nat → Loc → List AO → Prop) (xs : List AV) (z TI TO it l : Addr) (ρ : List Addr) (s : Shared) (m : Nat) (s' : Shared) : Prop
 | mk (i : Nat) (loc' : Loc) (os' : List AO) (ρ' : List Addr) (hm : m = xs.length - 2 * i) (h1 : I i loc' os') (h2 : FR c e loc' os' ρ' s') (h3 : IsZip s'.heap z TI TO .none) (h4 : IsPair s'.heap TI (.ref it) (.ref it)) (h5 : s'.heap.IsListIter it l (2 * i)) (h6 : z ∉ ρ') (h7 : it ∉ ρ') (h8 : TI ∉ ρ') (h9 : Ext c.tabs ([z, it] ++ [e.env.locals]) ρ s ρ' s')
noncomputable def ZQ (c : CX) (e : EF) (K : AF → Loc → List AO → Prop) (z it : Addr) (ρ : List Addr) (s : Shared) (r : Except Value Flow) (s' : Shared) : Prop := match r with | .ok f => ∃ af loc' os' ρ', K af loc' os' ∧ FR c e loc' os' ρ' s' ∧ Ext c.tabs ([z, it] ++ [e.env.locals]) ρ s ρ' s' ∧ FlR ρ' s'.heap af f | .error _ => False
theorem qs9 (I : Nat → Loc → List AO → Prop) {t1 t2 : Str} {q1 q2 qt : Pos} {kq} {z TI TO it l : Addr} {k jh : Nat} {xs : List AV} {body orelse : List Stmt} (D : qfo z TI TO it l)
  (hI : ∀ i loc os, I i loc os → os[k]? = some (.list xs) ∧ os[jh]? = some .hid) (hev : xs.length % 2 = 0)
  (turn : ∀ i loc os x y, I i loc os → xs[2 * i]? = some x → xs[2 * i + 1]? = some y → ST c n e loc os (assign (.Tuple [.Name t1 q1, .Name t2 q2] kq qt) e.env) (.tup [x, y]) fun loc' os' => EXs c n e loc' os' body (Turn (I (i + 1)) K))
  (fin : ∀ i loc os, I i loc os → xs.length ≤ 2 * i → EXs c n e loc os orelse K)
  {A : Around} (hA : AR A n) (h0 : I 0 loc os) (F : FR c e loc os ρ s) (hk : ρ[k]? = some l) (hT : ρ[jh]? = some TO) (hz : IsZip s.heap z TI TO .none) (hTI : IsPair s.heap TI (.ref it) (.ref it)) (hit : s.heap.IsListIter it l 0)
  (zr : z ∉ ρ) (ir : it ∉ ρ) (tr : TI ∉ ρ) (zn : c.B.heap.objs.size ≤ z) (inw : c.B.heap.objs.size ≤ it) (zL : e.env.locals ≠ z) (iL : e.env.locals ≠ it) (tL : e.env.locals ≠ TI) (oL : e.env.locals ≠ TO) :
  codeAny (MM c.w) A (.forLoop (.Tuple [.Name t1 q1, .Name t2 q2] kq qt) (.ref z) body orelse e.env) (fun r s' => match r with | .ok f => ∃ af loc' os' ρ', K af loc' os' ∧ FR c e loc' os' ρ' s' ∧ Ext c.tabs ([z, it] ++ [e.env.locals]) ρ s ρ' s' ∧ FlR ρ' s'.heap af f | .error _ => False) s := by
 show codeAny _ _ _ (ZQ c e K z it ρ s) s
 refine codeAny_forLoop_any (ZI c e I xs z TI TO it l ρ s) ?_ xs.length ⟨0, loc, os, ρ, (by simp), h0, F, hz, hTI, hit, zr, ir, tr, Ext.refl ..⟩
 rintro m s1 ⟨i, loc1, os1, ρ1, rfl, i1, F1, z1, t1', l1, r1, r2, r3, E1⟩
 obtain ⟨hk1, hj1⟩ := hI i loc1 os1 i1
 have hkr := yb E1.pre hk
 have hjr := yb E1.pre hT
 refine x_ea (F1.hr.objs jh _ hj1) fun b e1 z271y => ?_; refine x_e2 z271y fun uT vT hTO => ?_; clear z271y
 rw [hjr] at e1; cases e1
 have up : ∀ {ρ ρ' s s'}, Ext c.tabs [e.env.locals] ρ s ρ' s' → Ext c.tabs ([z, it] ++ [e.env.locals]) ρ s ρ' s' := fun E => E.weaken fun a h => List.mem_append_right _ h
 have y1 : OutY c [z, it] ρ1 s1.heap := by
  refine ⟨fun a ha => ?_, fun a ha => ?_, fun a ha => ?_⟩
  ·simp at ha; rcases ha with rfl | rfl; exact r1; exact r2
  ·simp at ha; rcases ha with rfl | rfl; exact zn; exact inw
  ·simp at ha
   rcases ha with rfl | rfl
   ·exact (qar _ z1 ⟨(fun q => by cases q), (fun es ep q => by cases q)⟩ (qkb rfl (by decide)) (fun ws q x t => by cases q; exact not_eq_of_beq_eq_false rfl))
   ·refine xy l1 fun o ho hc hd => ?_; clear l1
    exact (qar _ ho ⟨(fun q => by lia), (fun es ep q => by rw [hd] at q; cases q)⟩ (qkb hc (by decide)) (fun ws q x t => by rw [hd] at q; cases q; exact not_eq_of_beq_eq_false rfl))
 have hLY : e.env.locals ∉ [z, it] := by simp; exact ⟨zL, iL⟩
 refine x_ea (qq F1.hr hk1 hkr) fun vs hl hvs => ?_
 have hlen := hvs.length
 by_cases hend : xs.length ≤ 2 * i
 ·refine q6 (qp1 hA.hd D z1 t1' hTO l1 hl.list (by simp; simp only [*]) fun h' kp hsz => ?_)
  refine x_a2 (F1.hide (s' := { s1 with heap := h' }) hj1 hjr y1 hLY oL (fun b o hb hY ω => kp b o (fun q => hY (by simp [q])) (fun q => hY (by simp [q])) hb) (y_e2 _ _ (kp _ _ D.b D.f hTO)) hsz F1.hr.gi.bare rfl (Nat.le_refl _)) fun F2 E2 ω => ?_
  refine we (fin i loc1 os1 i1 hend A hA ρ1 _ F2) fun f s3 af loc3 os3 ρ3 k3 F3 E3 r => ?_
  exact (qz af loc3 os3 ρ3 k3 F3 ((E1.trans E2).trans (up E3)) r)
 ·have hx : xs[2 * i]? = some xs[2 * i] := List.getElem?_eq_getElem (by exact Nat.lt_of_not_le hend)
  have hy : xs[2 * i + 1]? = some xs[2 * i + 1] := List.getElem?_eq_getElem (by lia)
  refine x_ea (hvs.get hx) fun vx gx rx => ?_
  refine x_ea (hvs.get hy) fun vy gy ry => ?_
  refine qp0 D z1 t1' hTO l1 hl.list (by simpa using gx) (by simpa using gy) fun h2 hz2 hTO2 hi2 hT2 hsz2 kp2 => ?_
  refine wpAny_letOwnedTupleGo_zip hz2 fun h3 hz3 sb3 => ?_
  have kp : ∀ b o, s1.heap.get? b = some o → b ∉ [z, it] → b ≠ TO → h3.get? b = some o := fun b o hb hY hbT => sb3.extBut _ _ (fun q => hY (by simp [q])) (kp2 b o (fun q => hY (by simp [q])) hbT (fun q => hY (by simp [q])) hb)
  have hsz3 : s1.heap.objs.size ≤ h3.objs.size := by rw [sb3.1, hsz2]; lia
  refine x_a2 (F1.hide (s' := { s1 with heap := h3 }) hj1 hjr y1 hLY oL kp (y_e2 _ _ (sb3.extBut _ _ D.b hTO2)) hsz3 F1.hr.gi.bare rfl (Nat.le_refl _)) fun F3 E3 im => ?_
  have hzlt := Heap.lt_size z1
  have tup : VR ρ1 h3 (.tup [xs[2 * i], xs[2 * i + 1]]) (.ref s1.heap.objs.size) := ⟨_, [vx, vy], rfl, sb3.extBut _ _ (Nat.ne_of_gt hzlt) hT2, (fun q => absurd (F1.hr.lt q) (Nat.lt_irrefl _)), vx, [vy], rfl, VR.imp (List.prefix_refl _) im _ _ rx, vy, [], rfl, VR.imp (List.prefix_refl _) im _ _ ry, rfl⟩
  refine wpAny_mono (turn i loc1 os1 _ _ i1 hx hy A hA ρ1 _ _ F3 tup) (fun ω s4 z => ?_) fun ω ω z => z.elim
  refine qw z fun loc4 os4 ρ4 k4 F4 E4 => ?_; clear z
  refine we (k4 A hA ρ4 s4 F4) fun f s5 af loc5 os5 ρ5 k5 F5 E5 r5 => ?_
  have E35 := E4.trans E5
  have E := (E1.trans E3).trans (up E35)
  have hz3' : h3.get? z = some _ := hz3
  have hi3 : h3.IsListIter it l (2 * (i + 1)) := hi2.at fun o ho => sb3.extBut _ _ D.c ho
  have ht3 : IsPair h3 TI (.ref it) (.ref it) := sb3.extBut _ _ D.a (kp2 _ _ D.a D.d D.e t1')
  have hz5 : IsZip s5.heap z TI TO .none := (E35.keep z _ hz3' r1 (fun q => zL (by simp at q; exact q.symm)) (F3.hr.gi.not_tab hz3' (fun q => by cases q))).of (fun es ep q => by cases q)
  have ht5 : IsPair s5.heap TI (.ref it) (.ref it) := (E35.keep TI _ ht3 r3 (fun q => tL (by simp at q; exact q.symm)) (F3.hr.gi.not_tab ht3 (fun q => by cases q))).of (fun es ep q => by cases q)
  have hi5 : s5.heap.IsListIter it l (2 * (i + 1)) := by
   refine xy hi3 fun o ho hc hd => ?_; clear hi3
   exact ⟨o, (E35.keep it _ ho r2 (fun q => iL (by simp at q; exact q.symm)) (F3.hr.gi.not_tab ho (fun q => by rw [hc] at q; cases q))).of (fun es ep q => by rw [hd] at q; cases q), hc, hd⟩
  have out5 : ∀ a o, s1.heap.get? a = some o → a ∉ ρ1 → a ∉ ρ5 := fun a o ho ha q => absurd (Nat.lt_of_lt_of_le (Heap.lt_size ho) hsz3) (Nat.not_lt.mpr (E35.new a q ha))
  have fin' : I (i + 1) loc5 os5 → ∃ m, m < xs.length - 2 * i ∧ ZI c e I xs z TI TO it l ρ s m s5 := fun k =>
   (y_ea (xs.length - 2 * (i + 1)) (by lia) ⟨i + 1, loc5, os5, ρ5, rfl, k, F5, hz5, ht5, hi5, out5 _ _ z1 r1, (by refine x_ea l1 fun o ho ω => ?_; clear l1; exact out5 _ _ ho r2), out5 _ _ t1' r3, E⟩)
  cases af with
  | next => cases (show f = .next from r5); exact fin' k5
  | cont => cases (show f = .cont from r5); exact fin' k5
  | brk => cases (show f = .brk from r5); exact (qz .next loc5 os5 ρ5 k5 F5 E rfl)
  | ret a => refine x_ea r5 fun u z270y r' => ?_; clear r5; subst z270y; exact ⟨.ret a, loc5, os5, ρ5, k5, F5, E, u, rfl, r'⟩
end
end Mine
end
section
open PySem PySem.W PyProof.Rows PySem.Calls PySem.Spec
namespace Mine
theorem qlm : ∀ (M : Model) (h : Heap), Looks M h (keeperOf (.type "zip")) .machine := fun M h => Looks.of_pure rfl
section
variable {c : CX} {n : Nat} {os : List AO} {K : AF → Loc → List AO → Prop} {e : EF} {loc : Loc} {ρ : List Addr} {s s' : Shared}
theorem qmk (I : Nat → Loc → List AO → Prop) {t1 t2 : Str} {q1 q2 qt : Pos} {kq} {k : Nat} {xs : List AV} {body orelse : List Stmt} {pz pi pp pc pl p2 pb ps p pf : Pos} {kk}
  (hz : EV c n e loc os (.Name "zip" pz) fun a o => a = .glob (.type "zip") ∧ os = o)
  (hi : EV c n e loc os (.Name "iter" pi) fun a o => a = .glob (.builtin "iter") ∧ os = o)
  (hp : EV c n e loc os (.Name "parts" pp) fun a o => a = .ref k ∧ os = o)
  (hk : os[k]? = some (.list xs)) (hev : xs.length % 2 = 0) (h0 : I 0 loc (os ++ [.hid]))
  (hI : ∀ i loc o, I i loc o → o[k]? = some (.list xs) ∧ o[os.length]? = some .hid)
  (turn : ∀ i loc os x y, I i loc os → xs[2 * i]? = some x → xs[2 * i + 1]? = some y → ST c n e loc os (assign (.Tuple [.Name t1 q1, .Name t2 q2] kq qt) e.env) (.tup [x, y]) fun loc' os' => EXs c n e loc' os' body (Turn (I (i + 1)) K))
  (fin : ∀ i loc os, I i loc os → xs.length ≤ 2 * i → EXs c n e loc os orelse K) :
  EX c n e loc os (.For (.Tuple [.Name t1 q1, .Name t2 q2] kq qt) (.Call (.Name "zip" pz) [.Starred (.BinOp (.List [.Call (.Name "iter" pi) [.Name "parts" pp] [] pc] pl) .Mult (.Constant (.int 2) kk p2) pb) ps] [] p) body orelse pf) K := fun A hA ρ s F => by
 have hlt : k < os.length := (List.getElem?_eq_some_iff.mp hk).1
 refine wpAny_For ?_ (fun ω => rfl)
 rw [show ∀ env, eval (.Call (.Name "zip" pz) [.Starred (.BinOp (.List [.Call (.Name "iter" pi) [.Name "parts" pp] [] pc] pl) .Mult (.Constant (.int 2) kk p2) pb) ps] [] p) env = (do callWith p (← eval (.Name "zip" pz) env) [] (backTo p (starEach [.Starred (.BinOp (.List [.Call (.Name "iter" pi) [.Name "parts" pp] [] pc] pl) .Mult (.Constant (.int 2) kk p2) pb) ps] env)) (backToKw p (keywordEach [] env))) from fun ω => rfl]
 refine wpAny_bind (qi (hz A hA ρ s F) fun vz s1 z0q z1q ρ1 z3q H1 E1 hvz => ?_)
 obtain ⟨rfl, rfl⟩ := z3q
 have hvz' : vz = .type "zip" := hvz
 subst hvz'
 have F1 := F.ext E1 H1
 refine ks_call (P := fun ω => True) rfl (fun h ω => (y_ea .machine (.inr (.inl rfl)) (qlm _ _))) (ks_lone ?_)
 refine wpAny_BinOp (wpAny_List_spliced ?_)
 show wpAny (MM c.w) A (spliced (backTo _ ((false, eval (.Call (.Name "iter" pi) [.Name "parts" pp] [] pc) e.env) :: starEach [] e.env))) _ NoE s1
 refine spliced_cons ?_
 refine Call_ (qi (hi A hA ρ1 s1 F1) fun vi s2 z0q z1q ρ2 z3q H2 E2 hvi => ?_) rfl
 obtain ⟨rfl, rfl⟩ := z3q
 have hvi' : vi = .builtin "iter" := hvi
 subst hvi'
 have F2 := F1.ext E2 H2
 refine cw (c := c) rfl ?_
 show wpAny (MM c.w) A (spliced (backTo _ ((false, eval (.Name "parts" pp) e.env) :: starEach [] e.env))) _ NoE s2
 refine spliced_cons (qi (hp A hA ρ2 s2 F2) fun vp s3 z0q z1q ρ3 z3q H3 E3 z6q => ?_)
 obtain ⟨rfl, rfl⟩ := z3q
 refine x_ea z6q fun l hl z276y => ?_; clear z6q; subst z276y
 refine wpAny_pure ⟨⟨.machine, fun A Q E h => wpAny_pure h⟩, ?_⟩
 refine x_ea (qq H3 hk hl) fun vs hL hvs => ?_
 refine qne hL.list ?_
 refine wpAny_pure ⟨by simp [sizeLine], ?_⟩
 refine wpAny_Constant_int ?_
 have hszI : ∀ (ob : Obj) (h : Heap), (h.push ob).objs.size = h.objs.size + 1 := fun ob h => Heap.size_push ..
 refine qka (vs := [.ref s3.heap.objs.size]) (m := 0) (Heap.get?_push_size _ rfl) (by simp) (by simp) (by exact Nat.le_of_ble_eq_true rfl) ?_
 simp only [hszI]
 unfold StarOf notIterableAtAll
 have gl : (((s3.heap.push { cls := .type "list_iterator", data := .fields #[.ref l, .int 0 0] }).push { cls := .type "list", data := .seq [.ref s3.heap.objs.size].toArray }).push (ux (List.replicate (2 : Int).toNat [.ref s3.heap.objs.size]).flatten 0)).get? (s3.heap.objs.size + 1 + 1) = some (ux [.ref s3.heap.objs.size, .ref s3.heap.objs.size] 0) := by
  have := Heap.get?_push_size ((s3.heap.push { cls := .type "list_iterator", data := .fields #[.ref l, .int 0 0] }).push { cls := .type "list", data := .seq [.ref s3.heap.objs.size].toArray }) (o := ux (List.replicate (2 : Int).toNat [.ref s3.heap.objs.size]).flatten 0) rfl
  rw [hszI, hszI] at this
  exact this
 refine wpAny_bind (wpAny_specialOf (T := "list") ⟨_, gl, rfl⟩ slot_list_iter.lookup (wpAny_pure ⟨rfl, ?_⟩))
 refine q6 (wpAny_collect_seq _ (.inl rfl) gl rfl rfl (fun h' hk' hz' => ?_) (by simp [sizeLine]))
 refine ⟨trivial, ?_⟩
 simp only [hszI] at hz'
 have kp5 : ∀ b o, s3.heap.get? b = some o → h'.get? b = some o := fun b o x => hk' _ _ (Heap.get?_push_of_some _ (Heap.get?_push_of_some _ (Heap.get?_push_of_some _ x)))
 have hit : h'.IsListIter s3.heap.objs.size l 0 := ⟨_, hk' _ _ (Heap.get?_push_of_some _ (Heap.get?_push_of_some _ (Heap.get?_push_size _ rfl))), rfl, rfl⟩
 have hll : @LT.lt Nat _ l s3.heap.objs.size := by obtain ⟨m, g⟩ := hL; exact Heap.lt_size g
 refine qnf (it := s3.heap.objs.size) (l := l) (k := 0) hit fun h6 hz hTI hTO hsz6 kp6 => ?_
 dsimp only at hz hTI hTO hsz6 ⊢
 refine wpAny_pyIter_zip hz ?_
 have kp : ∀ b o, s3.heap.get? b = some o → h6.get? b = some o := fun b o x => kp6 _ _ (kp5 b o x)
 have F3 := F2.ext E3 H3
 have H6 := H3.alloc (d := s3.drawn) (tk := s3.toks + 1) (a := h'.objs.size + 1) (ao := .hid) H3.gi.bare (Nat.le_succ _) kp (by lia) (by lia) ⟨_, _, hTO⟩
 have E6 : Ext c.tabs [] ρ3 s3 (ρ3 ++ [h'.objs.size + 1]) ⟨h6, s3.gens, s3.drawn, s3.toks + 1, s3.os⟩ := Ext.alloc kp (by lia) (by lia)
 have F6 := F3.ext E6 H6
 have hr3 : ∀ a, s3.heap.objs.size ≤ a → a ∉ ρ3 := fun a ha q => absurd (H3.lt q) (Nat.not_lt.mpr ha)
 have hL3 : e.env.locals < s3.heap.objs.size := by refine x_ea F3.ns fun m z275y ω => ?_; refine wf z275y fun o es ep ho ω => ?_; clear z275y; exact Heap.lt_size ho
 have hrl : ρ3.length = os.length := H3.len
 have hB := H3.gi.size
 refine codeAny_mono (qs9 (K := K) I (z := h'.objs.size + 2) (TI := h'.objs.size) (TO := h'.objs.size + 1) (it := s3.heap.objs.size) (l := l) (k := k) (jh := os.length) (xs := xs) ⟨Nat.ne_of_lt (show (_ : Nat) < _ by simp), Nat.ne_of_lt (show (_ : Nat) < _ by exact Nat.lt_add_one (h'.objs.size + 1)), Nat.ne_of_lt (show (_ : Nat) < _ by lia), Nat.ne_of_lt (show (_ : Nat) < _ by exact Nat.lt_add_one h'.objs.size), Nat.ne_of_gt (show (_ : Nat) < _ by exact Nat.lt_of_add_right_lt hz'), Nat.ne_of_gt (show (_ : Nat) < _ by lia), Nat.ne_of_lt (show (_ : Nat) < _ by lia), Nat.ne_of_lt (show (_ : Nat) < _ by lia), Nat.ne_of_lt (show (_ : Nat) < _ by assumption)⟩
  hI hev turn fin hA h0 F6 (by rw [List.getElem?_append_left (by exact place_lt hl)]; exact hl) (by rw [List.getElem?_append_right (by exact Nat.le_of_eq hrl)]; simp [hrl]) hz hTI (hit.at fun o x => kp6 _ _ x)
  (by simp; exact hr3 _ (by lia)) (by simp; exact ⟨hr3 _ (Nat.le_refl _), Nat.ne_of_lt (show (_ : Nat) < _ by lia)⟩) (by simp; exact hr3 _ (by lia)) (by lia) hB (Nat.ne_of_lt (Nat.lt_of_lt_of_le hL3 (by lia))) (Nat.ne_of_lt hL3) (Nat.ne_of_lt (Nat.lt_of_lt_of_le hL3 (by lia))) (Nat.ne_of_lt (Nat.lt_of_lt_of_le hL3 (by lia)))) fun r s7 z => ?_
 cases r with
 | error _ => exact z.elim
 | ok f =>
  refine v6 z fun af loc7 os7 ρ7 k7 F7 E7 r7 => ?_; clear z
  have E' : Ext c.tabs ([h'.objs.size + 2, s3.heap.objs.size] ++ [e.env.locals]) ρ3 s3 ρ7 s7 := (E6.weaken fun ω h => nomatch h).trans E7
  exact ⟨af, loc7, os7, ρ7, k7, F7, ((E1.trans E2).trans E3).up.trans (E'.news fun b hb => by simp at hb; rcases hb with rfl | rfl <;> lia), r7⟩
end
end Mine
end
section
set_option compiler.extract_closed false
open PySem PySem.W PyProof.Rows PySem.Calls PySem.Spec
namespace Mine
def ql8 (s : String) : Lean.Syntax :=
 ((s.splitOn " ").foldl (fun (st : List Lean.Syntax) w =>
  let nd (k : Lean.Name) (a : List Lean.Syntax) := Lean.Syntax.node .none k a.toArray
  let at_ (v : String) := Lean.Syntax.atom .none v
  let sq (l : List Lean.Syntax) := nd `Lean.Parser.Tactic.tacticSeq [nd `Lean.Parser.Tactic.tacticSeq1Indented [nd `null (l.take 1)]]
  if w.startsWith "'" then at_ (w.drop 1).toString :: st
  else if w == "_" then nd `Lean.Parser.Term.hole [at_ w] :: st
  else if w == "?" then nd `Lean.Parser.Term.syntheticHole [at_ w, at_ "_"] :: st
  else if w == "~" then nd `Lean.Parser.Term.hygienicLParen [at_ "(", nd `hygieneInfo [Lean.mkIdent .anonymous]] :: st
  else if w == "%" then sq st :: st.drop 1
  else if w == "&" then nd `group [at_ "|", sq st] :: st.drop 1
  else if w == "W" then nd `Lean.Parser.Tactic.withReducible [at_ "with_reducible", sq st] :: st.drop 1
  else if w == "R" then nd `Lean.Parser.Tactic.refine (at_ "refine" :: st.take 1) :: st.drop 1
  else if w.startsWith "@" then
   let n := (w.drop 1).toNat!
   nd `Lean.Parser.Term.app ((st.drop n).take 1 ++ [nd `null (st.take n).reverse]) :: st.drop (n + 1)
  else match w.splitOn "/" with
   | [k, n] => nd (if k.startsWith "." then `Lean.Parser.Tactic ++ (k.drop 1).toName else if k.startsWith "!" then `Lean.Parser.Term ++ (k.drop 1).toName else k.toName) (st.take n.toNat!).reverse :: st.drop n.toNat!
   | _ => Lean.mkIdent w.toName :: st) []).headD .missing
local macro_rules | `(tactic| k_updF) => return ql8 "'first 'exact StAt.a0 .exact/2 W & 'exact StAt.a1 .exact/2 W & 'exact StAt.a2 .exact/2 W & 'exact StAt.a3 .exact/2 W & 'exact StAt.a4 .exact/2 W & 'exact StAt.a5 .exact/2 W & 'exact StAt.a6 .exact/2 W & 'exact StAt.a7 .exact/2 W & 'exact StAt.a8 .exact/2 W & 'exact StAt.a9 .exact/2 W & 'exact StAt.a10 .exact/2 W & 'exact StAt.a11 .exact/2 W & 'exact StAt.a12 .exact/2 W & null/13 .first/2"
local macro_rules | `(tactic| dl_there) => return ql8 "'first 'exact LkAt.a0 .exact/2 W & 'exact LkAt.a1 .exact/2 W & 'exact LkAt.a2 .exact/2 W & 'exact LkAt.a3 .exact/2 W & 'exact LkAt.a4 .exact/2 W & 'exact LkAt.a5 .exact/2 W & 'exact LkAt.a6 .exact/2 W & 'exact LkAt.a7 .exact/2 W & 'exact LkAt.a8 .exact/2 W & 'exact LkAt.a9 .exact/2 W & 'exact LkAt.a10 .exact/2 W & 'exact LkAt.a11 .exact/2 W & 'exact LkAt.a12 .exact/2 W & null/13 .first/2"
local macro_rules | `(tactic| dl_open) => return ql8 "'first 'exact mem0 .exact/2 W & 'exact mem1 .exact/2 W & 'exact mem2 .exact/2 W & 'exact mem3 .exact/2 W & 'exact mem4 .exact/2 W & 'exact mem5 .exact/2 W & 'exact mem6 .exact/2 W & 'exact mem7 .exact/2 W & 'exact mem8 .exact/2 W & 'exact mem9 .exact/2 W & 'exact mem10 .exact/2 W & 'exact qw3 .exact/2 W & 'exact qw4 .exact/2 W & 'exact qw5 .exact/2 W & 'exact qw6 .exact/2 W & 'exact qw7 .exact/2 W & 'exact qw8 .exact/2 W & 'exact mem17 .exact/2 W & 'exact mem18 .exact/2 W & 'exact qw9 .exact/2 W & 'exact qxa .exact/2 W & 'exact qxb .exact/2 W & 'exact qxc .exact/2 W & 'exact qxd .exact/2 W & 'exact qxe .exact/2 W & 'exact qxf .exact/2 W & 'exact qxg .exact/2 W & 'exact mem27 .exact/2 W & null/28 .first/2"
local macro_rules | `(tactic| dl_mem) => return ql8 "'first 'assumption .assumption/1 & 'exact xf ~ 'by 'assumption .assumption/1 % !byTactic/2 ') !paren/3 @1 .exact/2 & '( 'simp null/0 .optConfig/1 null/0 'only null/1 '[ null/0 null/0 List.append_assoc .simpLemma/3 ', null/0 null/0 List.cons_append .simpLemma/3 ', null/0 null/0 List.nil_append .simpLemma/3 ', null/0 null/0 List.length_append .simpLemma/3 ', null/0 null/0 List.length_cons .simpLemma/3 ', null/0 null/0 List.length_nil .simpLemma/3 ', null/0 null/0 Nat.zero_add .simpLemma/3 ', null/0 null/0 List.getElem?_append .simpLemma/3 ', null/0 null/0 List.getElem?_cons .simpLemma/3 ', null/0 null/0 Nat.sub_self .simpLemma/3 ', null/0 null/0 Nat.add_sub_cancel_left .simpLemma/3 null/21 '] null/3 null/0 .simp/6 '; 'simp null/0 .optConfig/1 null/0 null/0 null/0 null/0 .simp/6 '; 'done .done/1 null/5 .tacticSeq1Indented/1 .tacticSeq/1 ') .paren/3 & '( 'simp null/0 .optConfig/1 null/0 null/0 '[ null/0 null/0 List.getElem?_append .simpLemma/3 ', '* .simpStar/1 null/3 '] null/3 null/0 .simp/6 '; 'done .done/1 null/3 .tacticSeq1Indented/1 .tacticSeq/1 ') .paren/3 & '( 'simp null/0 .optConfig/1 null/0 null/0 '[ null/0 null/0 List.getElem?_append .simpLemma/3 ', '* .simpStar/1 null/3 '] null/3 null/0 .simp/6 '; 'omega null/0 .optConfig/1 .omega/2 null/3 .tacticSeq1Indented/1 .tacticSeq/1 ') .paren/3 & null/5 .first/2"
local macro_rules | `(tactic| dl_step) => return ql8 "'try 'simp null/0 .optConfig/1 null/0 'only null/1 '[ null/0 null/0 List.append_assoc .simpLemma/3 ', null/0 null/0 List.cons_append .simpLemma/3 ', null/0 null/0 List.nil_append .simpLemma/3 ', null/0 null/0 List.length_append .simpLemma/3 ', null/0 null/0 List.length_cons .simpLemma/3 ', null/0 null/0 List.length_nil .simpLemma/3 ', null/0 null/0 Nat.zero_add .simpLemma/3 ', null/0 null/0 List.set_append .simpLemma/3 ', null/0 null/0 Nat.lt_irrefl .simpLemma/3 ', null/0 null/0 if_false .simpLemma/3 ', null/0 null/0 Nat.sub_self .simpLemma/3 ', null/0 null/0 List.set_cons_zero .simpLemma/3 ', null/0 null/0 List.set_cons_succ .simpLemma/3 ', null/0 null/0 List.length_map .simpLemma/3 ', null/0 null/0 Nat.add_sub_cancel_left .simpLemma/3 ', null/0 null/0 v7 .simpLemma/3 null/31 '] null/3 null/0 .simp/6 % .tacticTry_/2"
local macro_rules | `(tactic| x_close) => return ql8 "'first '( xz ? @1 R W % ') .paren/3 & '( qx ? @1 R W % ') .paren/3 & '( '( qcp '( hs ':= '? hs !syntheticHole/2 ') !namedArgument/5 ? @2 R W % ') .paren/3 '; '( 'case hs Lean.binderIdent/1 null/0 .caseArg/2 null/1 '=> '( 'intro u null/1 .intro/2 '; 'rfl .tacticRfl/1 null/3 .tacticSeq1Indented/1 .tacticSeq/1 ') .paren/3 % .case/4 % ') .paren/3 null/3 .tacticSeq1Indented/1 .tacticSeq/1 ') .paren/3 & '( '( 'show EX _ _ _ _ _ ~ Stmt.AugAssign ~ Expr.Name _ _ @2 ') !paren/3 _ _ _ @4 ') !paren/3 _ @7 .show/2 W % ') .paren/3 '; '( u9 ~ 'by 'dl_there PyProof.Rows.tacticDl_there/1 % !byTactic/2 ') !paren/3 ? @2 R W % ') .paren/3 null/3 .tacticSeq1Indented/1 .tacticSeq/1 ') .paren/3 & '( qs7 ? @1 R W % ') .paren/3 & '( '( qmj '( hs ':= '? hs !syntheticHole/2 ') !namedArgument/5 ? @2 R W % ') .paren/3 '; '( 'case hs Lean.binderIdent/1 null/0 .caseArg/2 null/1 '=> '( 'intro u null/1 .intro/2 '; 'rfl .tacticRfl/1 null/3 .tacticSeq1Indented/1 .tacticSeq/1 ') .paren/3 % .case/4 % ') .paren/3 null/3 .tacticSeq1Indented/1 .tacticSeq/1 ') .paren/3 & '( qml ? @1 R W % ') .paren/3 & '( qmi ? @1 R W % ') .paren/3 & '( qqa ? @1 R W % ') .paren/3 & '( qhz ? @1 R W % ') .paren/3 & '( qur ? @1 R W % ') .paren/3 & '( qus ? @1 R W % ') .paren/3 & '( qs6 ? @1 R W % ') .paren/3 & '( qs4 ? @1 R W % ') .paren/3 & '( '( 'fail_if_success '( 'fail_if_success '( qvb ? @1 R W % ') .paren/3 % .failIfSuccess/2 % ') .paren/3 % .failIfSuccess/2 % ') .paren/3 '; 'first '( qmg ~ 'by 'dl_there PyProof.Rows.tacticDl_there/1 % !byTactic/2 ') !paren/3 ? @2 R W % ') .paren/3 & '( zv ~ 'by 'dl_there PyProof.Rows.tacticDl_there/1 % !byTactic/2 ') !paren/3 ? @2 R W % ') .paren/3 & '( EV_gS ~ 'by 'assumption .assumption/1 % !byTactic/2 ') !paren/3 ~ 'by 'dl_open PyProof.Rows.tacticDl_open/1 % !byTactic/2 ') !paren/3 ~ 'by 'dl_open PyProof.Rows.tacticDl_open/1 % !byTactic/2 ') !paren/3 ? @4 R W % ') .paren/3 & '( EV_g ~ 'by 'assumption .assumption/1 % !byTactic/2 ') !paren/3 ~ 'by 'dl_open PyProof.Rows.tacticDl_open/1 % !byTactic/2 ') !paren/3 ~ 'by 'dl_open PyProof.Rows.tacticDl_open/1 % !byTactic/2 ') !paren/3 ? @4 R W % ') .paren/3 & null/4 .first/2 null/3 .tacticSeq1Indented/1 .tacticSeq/1 ') .paren/3 & '( qp6 ? @1 R W % ') .paren/3 & '( qku ? @1 R W % ') .paren/3 & '( qds ? @1 R W % ') .paren/3 & '( '( qjg '( hx ':= '? hx !syntheticHole/2 ') !namedArgument/5 ? @2 R W % ') .paren/3 '; '( 'case hx Lean.binderIdent/1 null/0 .caseArg/2 null/1 '=> 'rfl .tacticRfl/1 % .case/4 % ') .paren/3 null/3 .tacticSeq1Indented/1 .tacticSeq/1 ') .paren/3 & '( '( qkr '? hm !syntheticHole/2 ? @2 R W % ') .paren/3 '; '( 'case hm Lean.binderIdent/1 null/0 .caseArg/2 null/1 '=> 'with_unfolding_all 'rfl .tacticRfl/1 % .withUnfoldingAll/2 % .case/4 % ') .paren/3 null/3 .tacticSeq1Indented/1 .tacticSeq/1 ') .paren/3 & '( quo ? @1 R W % ') .paren/3 & '( '( 'show EB _ _ _ _ _ ~ Expr.Call _ _ _ _ @4 ') !paren/3 _ @7 .show/2 W % ') .paren/3 '; zt ? @1 R null/3 .tacticSeq1Indented/1 .tacticSeq/1 ') .paren/3 & '( '( 'show EB _ _ _ _ _ ~ Expr.Name _ _ @2 ') !paren/3 _ @7 .show/2 W % ') .paren/3 '; zt ? @1 R null/3 .tacticSeq1Indented/1 .tacticSeq/1 ') .paren/3 & '( '( 'show EB _ _ _ _ _ ~ Expr.Attribute _ _ _ @3 ') !paren/3 _ @7 .show/2 W % ') .paren/3 '; zt ? @1 R null/3 .tacticSeq1Indented/1 .tacticSeq/1 ') .paren/3 & '( '( 'show EB _ _ _ _ _ ~ Expr.Subscript _ _ _ @3 ') !paren/3 _ @7 .show/2 W % ') .paren/3 '; zt ? @1 R null/3 .tacticSeq1Indented/1 .tacticSeq/1 ') .paren/3 & '( qme ? @1 R W % ') .paren/3 & '( qfr ? @1 R W % ') .paren/3 & '( qhw ? @1 R W % ') .paren/3 & '( qhx ? @1 R W % ') .paren/3 & '( qks ? @1 R W % ') .paren/3 & '( qp7 ? @1 R W % ') .paren/3 & '( quq ? @1 R W % ') .paren/3 & '( qp8 ? @1 R W % ') .paren/3 & '( '( qwa '? hx !syntheticHole/2 ? @2 R W % ') .paren/3 '; '( 'case hx Lean.binderIdent/1 null/0 .caseArg/2 null/1 '=> 'decide null/0 .optConfig/1 .decide/2 % .case/4 % ') .paren/3 null/3 .tacticSeq1Indented/1 .tacticSeq/1 ') .paren/3 & '( '( qmf '( hp ':= '? hp !syntheticHole/2 ') !namedArgument/5 '( he ':= '? he !syntheticHole/2 ') !namedArgument/5 ? @3 R W % ') .paren/3 '; '( 'case hp Lean.binderIdent/1 null/0 .caseArg/2 null/1 '=> '( 'intro u null/1 .intro/2 '; 'rfl .tacticRfl/1 null/3 .tacticSeq1Indented/1 .tacticSeq/1 ') .paren/3 % .case/4 % ') .paren/3 '; '( 'case he Lean.binderIdent/1 null/0 .caseArg/2 null/1 '=> '( 'intro u null/1 .intro/2 '; 'rfl .tacticRfl/1 null/3 .tacticSeq1Indented/1 .tacticSeq/1 ') .paren/3 % .case/4 % ') .paren/3 null/5 .tacticSeq1Indented/1 .tacticSeq/1 ') .paren/3 & '( '( qs3 '( hp ':= '? hp !syntheticHole/2 ') !namedArgument/5 '( he ':= '? he !syntheticHole/2 ') !namedArgument/5 ? @3 R W % ') .paren/3 '; '( 'case hp Lean.binderIdent/1 null/0 .caseArg/2 null/1 '=> '( 'intro u null/1 .intro/2 '; 'rfl .tacticRfl/1 null/3 .tacticSeq1Indented/1 .tacticSeq/1 ') .paren/3 % .case/4 % ') .paren/3 '; '( 'case he Lean.binderIdent/1 null/0 .caseArg/2 null/1 '=> '( 'intro u null/1 .intro/2 '; 'rfl .tacticRfl/1 null/3 .tacticSeq1Indented/1 .tacticSeq/1 ') .paren/3 % .case/4 % ') .paren/3 null/5 .tacticSeq1Indented/1 .tacticSeq/1 ') .paren/3 & '( '( qcr '( hw ':= '? hw !syntheticHole/2 ') !namedArgument/5 '( hs ':= '? hs !syntheticHole/2 ') !namedArgument/5 ? @3 R W % ') .paren/3 '; '( 'case hw Lean.binderIdent/1 null/0 .caseArg/2 null/1 '=> 'rfl .tacticRfl/1 % .case/4 % ') .paren/3 '; '( 'case hs Lean.binderIdent/1 null/0 .caseArg/2 null/1 '=> 'rfl .tacticRfl/1 % .case/4 % ') .paren/3 null/5 .tacticSeq1Indented/1 .tacticSeq/1 ') .paren/3 & '( '( qcq '( hw ':= '? hw !syntheticHole/2 ') !namedArgument/5 '( hs ':= '? hs !syntheticHole/2 ') !namedArgument/5 ? @3 R W % ') .paren/3 '; '( 'case hw Lean.binderIdent/1 null/0 .caseArg/2 null/1 '=> '( 'intro u null/1 .intro/2 '; 'rfl .tacticRfl/1 null/3 .tacticSeq1Indented/1 .tacticSeq/1 ') .paren/3 % .case/4 % ') .paren/3 '; '( 'case hs Lean.binderIdent/1 null/0 .caseArg/2 null/1 '=> '( 'intro u null/1 .intro/2 '; 'rfl .tacticRfl/1 null/3 .tacticSeq1Indented/1 .tacticSeq/1 ') .paren/3 % .case/4 % ') .paren/3 null/5 .tacticSeq1Indented/1 .tacticSeq/1 ') .paren/3 & '( '( qs2 '( he ':= '? he !syntheticHole/2 ') !namedArgument/5 ? @2 R W % ') .paren/3 '; '( 'case he Lean.binderIdent/1 null/0 .caseArg/2 null/1 '=> '( 'intro u null/1 .intro/2 '; 'with_unfolding_all 'rfl .tacticRfl/1 % .withUnfoldingAll/2 null/3 .tacticSeq1Indented/1 .tacticSeq/1 ') .paren/3 % .case/4 % ') .paren/3 null/3 .tacticSeq1Indented/1 .tacticSeq/1 ') .paren/3 & '( qm1 ? @1 R W % ') .paren/3 & '( qkz ? @1 R W % ') .paren/3 & '( qm6 ? @1 R W % ') .paren/3 & '( qm5 ? @1 R W % ') .paren/3 & '( qqt '⟨ _ ', rfl ', ? null/5 '⟩ !anonymousCtor/3 @1 R W % ') .paren/3 & '( qqp '⟨ _ ', rfl ', ? null/5 '⟩ !anonymousCtor/3 @1 R W % ') .paren/3 & '( qqo '⟨ _ ', rfl ', ? null/5 '⟩ !anonymousCtor/3 @1 R W % ') .paren/3 & '( qjn '⟨ _ ', rfl ', ? null/5 '⟩ !anonymousCtor/3 @1 R W % ') .paren/3 & '( qqu '⟨ _ ', rfl ', ? null/5 '⟩ !anonymousCtor/3 @1 R W % ') .paren/3 & '( qqn '⟨ _ ', rfl ', ? null/5 '⟩ !anonymousCtor/3 @1 R W % ') .paren/3 & '( qjo '⟨ _ ', rfl ', ? null/5 '⟩ !anonymousCtor/3 @1 R W % ') .paren/3 & '( qid '⟨ _ ', rfl ', ? null/5 '⟩ !anonymousCtor/3 @1 R W % ') .paren/3 & '( qic '⟨ _ ', rfl ', ? null/5 '⟩ !anonymousCtor/3 @1 R W % ') .paren/3 & '( qib '⟨ _ ', rfl ', ? null/5 '⟩ !anonymousCtor/3 @1 R W % ') .paren/3 & '( qqs '⟨ _ ', rfl ', ? null/5 '⟩ !anonymousCtor/3 @1 R W % ') .paren/3 & '( '⟨ Kp.builtin ', CS_g ? @1 null/3 '⟩ !anonymousCtor/3 R W % ') .paren/3 & '( '⟨ Kp.type ', CS_g ? @1 null/3 '⟩ !anonymousCtor/3 R W % ') .paren/3 & '( '⟨ Kp.bm ', ? null/3 '⟩ !anonymousCtor/3 R W % ') .paren/3 & '( '( '⟨ Kp_g ~ 'by 'assumption .assumption/1 % !byTactic/2 ') !paren/3 '? hk !syntheticHole/2 @2 ', CS_g ? @1 null/3 '⟩ !anonymousCtor/3 R W % ') .paren/3 '; '( 'case hk Lean.binderIdent/1 null/0 .caseArg/2 null/1 '=> 'kernel_rfl tacticKernel_rfl/1 % .case/4 % ') .paren/3 null/3 .tacticSeq1Indented/1 .tacticSeq/1 ') .paren/3 & '( '( yk '? hm !syntheticHole/2 ? @2 R W % ') .paren/3 '; '( 'case hm Lean.binderIdent/1 null/0 .caseArg/2 null/1 '=> 'exact '⟨ _ ', ~ 'by 'dl_mem PyProof.Rows.tacticDl_mem/1 % !byTactic/2 ') !paren/3 null/3 '⟩ !anonymousCtor/3 .exact/2 % .case/4 % ') .paren/3 null/3 .tacticSeq1Indented/1 .tacticSeq/1 ') .paren/3 & '( qoz ? @1 R W % ') .paren/3 & '( qls ? @1 R W % ') .paren/3 & '( qlt ? @1 R W % ') .paren/3 & '( qg3 ? @1 R W % ') .paren/3 & '( qoy ? @1 R W % ') .paren/3 & '( meth_isspace ? @1 R W % ') .paren/3 & '( qc5 ? @1 R W % ') .paren/3 & '( '⟨ Kp.builtin ', ? null/3 '⟩ !anonymousCtor/3 R W % ') .paren/3 & '( '( '⟨ Kp_g ~ 'by 'assumption .assumption/1 % !byTactic/2 ') !paren/3 '? hk !syntheticHole/2 @2 ', ? null/3 '⟩ !anonymousCtor/3 R W % ') .paren/3 '; '( 'case hk Lean.binderIdent/1 null/0 .caseArg/2 null/1 '=> 'kernel_rfl tacticKernel_rfl/1 % .case/4 % ') .paren/3 null/3 .tacticSeq1Indented/1 .tacticSeq/1 ') .paren/3 & '( '( 'fail_if_success '( 'fail_if_success '( qv2 ? @1 R W % ') .paren/3 % .failIfSuccess/2 % ') .paren/3 % .failIfSuccess/2 % ') .paren/3 '; '( qrz ~ 'by 'k_updF PySem.W.tacticK_updF/1 % !byTactic/2 ') !paren/3 ? @2 R W % ') .paren/3 null/3 .tacticSeq1Indented/1 .tacticSeq/1 ') .paren/3 & '( '( 'fail_if_success '( qtx ? @1 R W % ') .paren/3 % .failIfSuccess/2 % ') .paren/3 '; '( '⟨ _ ', rfl ', ? null/5 '⟩ !anonymousCtor/3 R W % ') .paren/3 null/3 .tacticSeq1Indented/1 .tacticSeq/1 ') .paren/3 & null/70 .first/2"
section
theorem i63 {x : Nat} (h : x ≤ 1000000) : -2 ^ 63 ≤ (x : Int) ∧ (x : Int) < 2 ^ 63 := by lia
theorem zl {a : Nat} (h : a ≤ 1000000) : a ≤ sizeLine := Nat.le_trans h (by decide)
theorem lt2 {a b n : Nat} (h : a < n) (k : b < n) : a < n + 1 ∧ b < n + 1 := ⟨Nat.lt_succ_of_lt h, Nat.lt_succ_of_lt k⟩
theorem joinOk_of {sep : Str} {xs : List Str} (h : (xs.map (·.length)).sum + xs.length * sep.length ≤ sizeLine) : JoinOk sep xs = true := by
 exact PyProof.Rows.joinOk_of h
section
variable {c : CX} {n : Nat} {os : List AO} {K : AV → List AO → Prop}
theorem qh2 {k : Nat} {xs : List (List Nat)} (hk : os[k]? = some (.list (sls xs))) (hj : (cat xs).length ≤ sizeLine) (h : K (.str (S (cat xs))) os) : CG c n (.builtin "str.join") [.str (Str.ofString ""), .ref k] os K := by
 have e0 : Str.ofString "" = S [] := rfl
 refine qr8 (xs := xs.map S) (by rw [hk, qhi]) (joinOk_of ?_) ?_
 ·rw [e0, jb]; simp [jb, Function.comp_def]; rw [← wm]; exact hj
 ·show K (.str (Builtin.Str.glued (Str.ofString "") (xs.map S))) os
  rw [StrLaws.glued_eq_join, e0, qal]; exact h
noncomputable def It.av (st : Nat) : It → AV
 | .star => .ref st
 | .txt s => .str (S s)
theorem qa5 : ∀ (st : Nat), It.av st It.star = AV.ref st := by intros; rfl
theorem qa6 : ∀ (st : Nat) (s : List Nat), It.av st (It.txt s) = AV.str (S s) := by intros; rfl
theorem qgt {st : Nat} {its ds r : List It} {a : It} {j : Int} (he : its = ds ++ a :: r) (hj : (ds.length : Int) = j) : (its.map (It.av st))[j.toNat]? = some (a.av st) := by
 subst he; subst hj; simp
theorem qtn (n : Nat) (s : List Nat) (r : List It) {T : List (List Nat)} (h1 : tx (.txt s :: r) = T) (h2 : aft (.txt s :: r) = []) : grp (n + 1) (.star :: .txt s :: r) = [jg, cat T] := by
 rw [show grp (n + 1) (.star :: .txt s :: r) = (match aft (.txt s :: r) with | [] => [jg, cat (tx (.txt s :: r))] | r' => (ja ++ cat (tx (.txt s :: r)) ++ [41]) :: grp n r') from rfl, h1, h2]
theorem qto (n : Nat) (s : List Nat) (r : List It) {T : List (List Nat)} {A : List It} (h1 : tx (.txt s :: r) = T) (h2 : aft (.txt s :: r) = .star :: A) : grp (n + 1) (.star :: .txt s :: r) = (ja ++ cat T ++ [41]) :: grp n (.star :: A) := by
 rw [show grp (n + 1) (.star :: .txt s :: r) = (match aft (.txt s :: r) with | [] => [jg, cat (tx (.txt s :: r))] | r' => (ja ++ cat (tx (.txt s :: r)) ++ [41]) :: grp n r') from rfl, h1, h2]
inductive JWka (k st : Nat) (os : List AO) (its : List It) (f : AF) (loc : Loc) (os' : List AO) : Prop
 | mk (h1 : f = .next) (ds : List (List Nat)) (rs : List It) (h2 : its = ds.map .txt ++ rs) (h3 : (rs = [] ∨ ∃ r, rs = .star :: r)) (h4 : loc = [some (.ref k), some (.ref st), some (.ref os.length), some (.bm "list.append" (.ref os.length)), some (.int ds.length), some (.int its.length), none]) (h5 : os' = os ++ [.list (sls ds)])
inductive JWkb (k st : Nat) (os : List AO) (its : List It) (total : List (List Nat)) (f : AF) (loc : Loc) (os' : List AO) : Prop
 | mk (h1 : f = .next) (fx : Option AV) (h2 : loc = [some (.ref k), some (.ref st), some (.ref os.length), some (.bm "list.append" (.ref os.length)), some (.int its.length), some (.int its.length), fx]) (h3 : os' = os ++ [.list (sls total)]) (h4 : (total.map List.length).sum ≤ wts its)
inductive JWkc (k st : Nat) (os : List AO) (its : List It) (dn : List It) (acc : List (List Nat)) (s : List Nat) (r : List It) (f : AF) (loc : Loc) (os' : List AO) : Prop
 | mk (h1 : f = .next) (es : List (List Nat)) (rs : List It) (h2 : .txt s :: r = es.map .txt ++ rs) (h3 : (rs = [] ∨ ∃ r, rs = .star :: r)) (h4 : loc = [some (.ref k), some (.ref st), some (.ref os.length), some (.bm "list.append" (.ref os.length)), some (.int (dn.length + 1 + es.length : Nat)), some (.int its.length), some (.ref (os.length + 1))]) (h5 : os' = os ++ [.list (sls acc), .list (sls es)])
inductive JWia (k st : Nat) (os : List AO) (its : List It) (m : Nat) (loc : Loc) (os' : List AO) : Prop
 | mk (ds : List (List Nat)) (rs : List It) (h1 : its = ds.map .txt ++ rs) (h2 : m = rs.length) (h3 : loc = [some (.ref k), some (.ref st), some (.ref os.length), some (.bm "list.append" (.ref os.length)), some (.int ds.length), some (.int its.length), none]) (h4 : os' = os ++ [.list (sls ds)])
inductive JWib (k st : Nat) (os : List AO) (its : List It) (total : List (List Nat)) (m : Nat) (loc : Loc) (os' : List AO) : Prop
 | mk (dn rs : List It) (acc : List (List Nat)) (fuel : Nat) (fx : Option AV) (h1 : its = dn ++ rs) (h2 : m = rs.length) (h3 : (rs = [] ∨ ∃ r, rs = .star :: r)) (h4 : noSS rs) (h5 : rs.length ≤ fuel) (h6 : acc ++ grp fuel rs = total) (h7 : (acc.map List.length).sum + wts rs ≤ wts its) (h8 : acc.length + 2 * rs.length ≤ 2 * its.length) (h9 : (fx = none ∨ ∃ s, fx = some (.str s))) (h10 : loc = [some (.ref k), some (.ref st), some (.ref os.length), some (.bm "list.append" (.ref os.length)), some (.int dn.length), some (.int its.length), fx]) (h11 : os' = os ++ [.list (sls acc)])
inductive JWic (k st : Nat) (os : List AO) (its : List It) (dn : List It) (acc : List (List Nat)) (s : List Nat) (r : List It) (m : Nat) (loc : Loc) (os' : List AO) : Prop
 | mk (es : List (List Nat)) (rs : List It) (h1 : .txt s :: r = es.map .txt ++ rs) (h2 : m = rs.length) (h3 : loc = [some (.ref k), some (.ref st), some (.ref os.length), some (.bm "list.append" (.ref os.length)), some (.int (dn.length + 1 + es.length : Nat)), some (.int its.length), some (.ref (os.length + 1))]) (h4 : os' = os ++ [.list (sls acc), .list (sls es)])
set_option maxHeartbeats 4000000 in
theorem qok (C : c.Std) {k st : Nat} {its : List It} (hk : os[k]? = some (.list (its.map (It.av st)))) (hst : os[st]? = some .opq) (hu : AOs.Un os.length os) (hno : noSS its) (hw : wts its + its.length ≤ 100000)
  (h : K (.str (S (joined its))) os) : CG c (n + 2) (.ref 76) [.ref k, .ref st] os K := by
 have hkl : k < os.length := (List.getElem?_eq_some_iff.mp hk).1
 have hstl : st < os.length := (List.getElem?_eq_some_iff.mp hst).1
 have hz : sizeLine = 16777216 := rfl
 refine wh C.ok (y4 C.hK) (dargs := []) (fun s G vs hv => ?_) fun L => ?_
 ·refine x_e2 (len2 hv) fun ω ω z198y => ?_; subst z198y
  exact ⟨[], fun ω ω => rfl, BindsTo.of_eq rfl⟩
 show EXs c (n + 1) _ [some (.ref k), some (.ref st), none, none, none, none, none] os _ _
 conv => arg 6; whnf
 x_close
 x_close
 refine qjf ?_
 x_close
 refine ⟨by simp, ?_⟩
 repeat x_close
 refine qjc (xs := []) (by exact List.getElem?_concat_length) ?_
 x_close
 refine qjh (k := os.length) (xs := []) (by exact List.getElem?_concat_length) ?_
 dl_step
 repeat x_close
 refine w7 (xs := its.map (It.av st)) (by dl_mem) (by simp; exact zl (by lia)) ?_
 x_close
 refine ⟨by exact (fun {α} {l} {i} => List.getElem?_eq_none_iff.mp) rfl, _, _, _, _, rfl, by k_updF, by k_updF, ?_⟩
 x_close
 refine EX.mono (K := JWka k st os its) ?_ ?_
 ·refine zw (JWia k st os its)
   its.length ⟨[], its, rfl, rfl, by simp, rfl⟩ ?_
  rintro m loc os' q82x; obtain ⟨ds, rs, he, rfl, rfl, rfl⟩ := q82x
  have hl : its.length = ds.length + rs.length := by rw [he]; simp
  repeat x_close
  refine ⟨fun hlt => ?_, fun hlt => ⟨fun q => (by cases q), fun ω => ?_⟩⟩
  ·repeat x_close
   rcases rs with _ | ⟨a | s, r⟩
   ·simp at hlt; simp at hl; lia
   ·refine xu (x := .ref st) (by dl_mem) (by exact i63 (by lia)) (.inl ⟨by simp, qgt he (by simp)⟩) ?_
    repeat x_close
    exact ⟨fun q => (by cases q), fun ω => ⟨fun q => (by cases q), fun ω => xz ⟨rfl, ds, _, he, .inr ⟨r, rfl⟩, rfl, rfl⟩⟩⟩
   ·refine xu (x := .str (S s)) (by dl_mem) (by exact i63 (by lia)) (.inl ⟨by simp, qgt he (by simp)⟩) ?_
    repeat x_close
    refine ⟨fun ω => ?_, fun q => (by cases q)⟩
    repeat x_close
    refine ⟨fun ω => ?_, fun q => (by cases q)⟩
    repeat x_close
    refine xu (x := .str (S s)) (by dl_mem) (by exact i63 (by lia)) (.inl ⟨by simp, qgt he (by simp)⟩) ?_
    repeat x_close
    refine jo (xs := sls ds) (by exact List.getElem?_concat_length) (by simp; exact zl (by lia)) ?_
    repeat x_close
    refine ⟨r.length, by exact Nat.lt_add_one r.length, ds ++ [s], r, by rw [he]; simp, rfl, by simp, by simp⟩
  ·rcases rs with _ | ⟨a, r⟩
   ·exact xz ⟨rfl, ds, [], he, .inl rfl, rfl, rfl⟩
   ·simp at hl hlt; lia
 rintro ω loc os' q83x; obtain ⟨rfl, ds, rs, he, hrs, rfl, rfl⟩ := q83x
 have tot : tx its = ds ∧ aft its = rs := by
  rw [he]
  clear he
  induction ds with
  | nil => rcases hrs with rfl | ⟨r, rfl⟩ <;> exact ⟨rfl, rfl⟩
  | cons d ds ih => exact ⟨congrArg (d :: ·) ih.1, ih.2⟩
 have hl : its.length = ds.length + rs.length := by rw [he]; simp
 have hno' : noSS rs := by
  have : ∀ (ds : List (List Nat)), noSS (ds.map .txt ++ rs) → noSS rs := by
   intro ds
   induction ds with
   | nil => exact id
   | cons d ds ih => assumption
  exact this ds (he ▸ hno)
 have hwt : wts its = (ds.map List.length).sum + wts rs := by rw [he]; simp [wts, qdu, qdv, Function.comp_def]
 generalize htot : tx its ++ grp its.length (aft its) = total
 x_close
 refine EX.mono (K := JWkb k st os its total) ?_ ?_
 ·refine zw (JWib k st os its total)
   rs.length ⟨ds.map .txt, rs, ds, its.length, none, he, rfl, hrs, hno', by lia, by rw [← htot, tot.1, tot.2], by exact Nat.le_of_eq (id (Eq.symm hwt)), by lia, .inl rfl, by simp, rfl⟩ ?_
  clear hrs hno' he hwt tot hl
  rintro m loc os' q84x; obtain ⟨dn, rs, acc, fuel, fx, he, rfl, hrs, hno', hfu, ht, hw1, hl1, hfx, rfl, rfl⟩ := q84x
  have hl : its.length = dn.length + rs.length := by rw [he]; exact List.length_append
  repeat x_close
  refine ⟨fun hlt => ?_, fun hlt => ?_⟩
  rotate_left
  ·rcases hrs with rfl | ⟨r, rfl⟩
   ·refine xz ⟨rfl, fx, by simp at hl; rw [hl], ?_, ?_⟩
    ·have : grp fuel [] = [] := by cases fuel <;> rfl
     rw [← ht, this, List.append_nil]
    ·have : grp fuel [] = [] := by cases fuel <;> rfl
     rw [← ht, this, List.append_nil]; assumption
   ·simp at hl hlt; lia
  rcases hrs with rfl | ⟨r, rfl⟩
  ·simp at hl hlt; lia
  obtain ⟨fuel, rfl⟩ : ∃ f, fuel = f + 1 := ⟨fuel - 1, by simp at hfu; lia⟩
  refine qs8 fun K1 hK => ?_
  refine EXs.forget ?_
  repeat x_close
  refine xu (x := .ref st) (by dl_mem) (by exact i63 (by lia)) (.inl ⟨by simp, qgt he rfl⟩) ?_
  repeat x_close
  refine ⟨rfl, ?_⟩
  repeat x_close
  refine ⟨fun heq => ?_, fun hne => ?_⟩
  ·have hr : r = [] := by
    simp at heq hl
    rcases r with _ | _
    ·rfl
    ·simp at hl; lia
   subst hr
   repeat x_close
   refine jo (xs := sls acc) (by exact List.getElem?_concat_length) (by simp; exact zl (by lia)) ?_
   repeat x_close
   have et : total = acc ++ [jg] := by rw [← ht]; rfl
   refine ⟨os ++ [.list (sls total)], [], _, ?_, by simp, qbm (more := [.list (sls total)]) hu ⟨jf _, trivial⟩ (by simp), LocSub.refl _, ?_, trivial, hK _ _ _ ⟨rfl, fx, ?_, rfl, ?_⟩⟩
   ·dl_step; rw [et]; simp; try rfl
   ·rcases hfx with rfl | ⟨s, rfl⟩ <;> simp [qdw, qdx, qdy, zi, zj, zk, zm, zo, zp, zq] <;> lia
   ·simp at heq hl ⊢; assumption
   ·rw [et]; simp [wts, qdu, qdv] at hw1 ⊢; lia
  obtain ⟨s, r, rfl⟩ : ∃ s r', r = .txt s :: r' := by
   rcases r with _ | ⟨_ | s, r⟩
   ·simp at hl hne; lia
   ·exact hno'.elim
   ·exact ⟨s, r, rfl⟩
  repeat x_close
  have he2 : its = (dn ++ [.star]) ++ .txt s :: r := by rw [he]; exact List.append_cons dn It.star (It.txt s :: r)
  refine xu (x := .str (S s)) (by dl_mem) (by simp at hl; exact i63 (by lia)) (.inl ⟨by exact Int.zero_le_ofNat (dn.length + 1), qgt he2 (by simp)⟩) ?_
  repeat x_close
  refine ⟨rfl, ?_⟩
  repeat x_close
  refine j7 ?_
  repeat x_close
  refine ⟨by simp, ?_⟩
  repeat x_close
  dl_step
  refine EX.mono (K := JWkc k st os its dn acc s r) ?_ ?_
  ·refine zw (JWic k st os its dn acc s r)
    (r.length + 1) ⟨[], .txt s :: r, rfl, by rfl, by simp, rfl⟩ ?_
   rintro m loc os' q85x; obtain ⟨es, rs, he3, rfl, rfl, rfl⟩ := q85x
   have he4 : its = (dn ++ [.star] ++ es.map .txt) ++ rs := by rw [he2, he3]; exact Eq.symm (List.append_assoc (dn ++ [It.star]) (List.map It.txt es) rs)
   have hl4 : its.length = dn.length + 1 + es.length + rs.length := by rw [he4]; simp; lia
   repeat x_close
   refine ⟨fun hlt => ?_, fun hlt => ⟨fun q => (by cases q), fun ω => ?_⟩⟩
   ·repeat x_close
    rcases rs with _ | ⟨a | s', r'⟩
    ·simp at hlt; simp at hl4; lia
    ·refine xu (x := .ref st) (by dl_mem) (by exact i63 (by lia)) (.inl ⟨by exact Int.natCast_nonneg (dn.length + 1 + es.length), qgt he4 (by simp; lia)⟩) ?_
     repeat x_close
     exact ⟨fun q => (by cases q), fun ω => ⟨fun q => (by cases q), fun ω => xz ⟨rfl, es, _, he3, .inr ⟨_, rfl⟩, rfl, rfl⟩⟩⟩
    ·refine xu (x := .str (S s')) (by dl_mem) (by simp at hl4; exact i63 (by lia)) (.inl ⟨by exact Int.natCast_nonneg (dn.length + 1 + es.length), qgt he4 (by simp; lia)⟩) ?_
     repeat x_close
     refine ⟨fun ω => ?_, fun q => (by cases q)⟩
     repeat x_close
     refine ⟨fun ω => ?_, fun q => (by cases q)⟩
     repeat x_close
     refine ⟨_, ug ⟨sls es, by simp⟩, ?_⟩
     repeat x_close
     refine xu (x := .str (S s')) (by dl_mem) (by simp at hl4; exact i63 (by lia)) (.inl ⟨by exact Int.natCast_nonneg (dn.length + 1 + es.length), qgt he4 (by simp; lia)⟩) ?_
     repeat x_close
     refine zx (xs := sls es) (by simp) (by simp; exact zl (by lia)) ?_
     repeat x_close
     dl_step
     refine ⟨r'.length, by simp, es ++ [s'], r', by rw [he3]; simp, rfl, by simp; rfl, by simp; intro; lia⟩
   ·rcases rs with _ | ⟨a, r'⟩
    ·exact xz ⟨rfl, es, [], he3, .inl rfl, rfl, rfl⟩
    ·simp at hl4 hlt; lia
  rintro ω loc os' q86x; obtain ⟨rfl, es, rs, he3, hrs, rfl, rfl⟩ := q86x
  have he4 : its = (dn ++ [.star] ++ es.map .txt) ++ rs := by rw [he2, he3]; exact Eq.symm (List.append_assoc (dn ++ [It.star]) (List.map It.txt es) rs)
  have hl4 : its.length = dn.length + 1 + es.length + rs.length := by rw [he4]; simp; lia
  have tot : tx (.txt s :: r) = es ∧ aft (.txt s :: r) = rs := by
   rw [he3]
   clear he3 he4 hl4
   induction es with
   | nil => rcases hrs with rfl | ⟨r, rfl⟩ <;> exact ⟨rfl, rfl⟩
   | cons d ds ih => exact ⟨congrArg (d :: ·) ih.1, ih.2⟩
  have hno4 : noSS rs := by
   have : ∀ (ds : List (List Nat)), noSS (ds.map .txt ++ rs) → noSS rs := by
    intro ds
    induction ds with
    | nil => exact id
    | cons d ds ih => assumption
   exact this es (he3 ▸ hno'.tail)
  have hw4 : wts (.star :: .txt s :: r) = 16 + ((es.map List.length).sum + wts rs) := by
   rw [qfk, he3]; simp [wts, qdu, qdv, Function.comp_def]
  have hcat : (cat es).length = (es.map List.length).sum := wm es
  repeat x_close
  refine qh2 (k := os.length + 1) (xs := es) (by simp) (by rw [hcat]; exact zl (by lia)) ?_
  repeat x_close
  refine ⟨fun heq => ?_, fun hne => ?_⟩
  ·have hr : rs = [] := by
    simp at heq
    rcases rs with _ | _
    ·rfl
    ·simp at hl4; lia
   subst hr
   have et : total = acc ++ [jg, cat es] := by rw [← ht, qtn fuel s r tot.1 tot.2]
   repeat x_close
   refine jo (xs := sls acc) (by dl_mem) (by simp; exact zl (by lia)) ?_
   repeat x_close
   dl_step
   refine jo (xs := sls (acc ++ [jg])) (by simp; rfl) (by simp; exact zl (by lia)) ?_
   repeat x_close
   refine ⟨os ++ [.list (sls total)], [.list (sls es)], _, ?_, by simp, qbm (more := [.list (sls total)]) hu ⟨jf _, trivial⟩ (by simp), LocSub.refl _, ?_, trivial, ?_⟩
   ·dl_step; rw [et]; simp; try rfl
   ·simp [qdw, qdx, qdy, zi, zj, zk, zm, zo, zp, zq]; exact lt2 (by assumption) (by assumption)
   ·exact hK _ _ _ ⟨0, by exact Nat.zero_lt_succ (It.txt s :: r).length, dn ++ [.star] ++ es.map .txt, [], total, 0, some (.str (S (cat es))), by assumption, rfl, .inl rfl, trivial, by simp, by simp [grp], by rw [et]; simp only [List.map_append, List.sum_append, List.map_cons, List.map_nil, List.sum_cons, List.sum_nil, hcat, show ja.length = 6 from rfl, show jg.length = 2 from rfl, List.length_cons, List.length_nil]; simp only [show wts [] = 0 from rfl] at hw4 ⊢; lia, by rw [et]; simp only [List.length_append, List.length_cons, List.length_nil] at hl1 hl hl4 ⊢; lia, .inr ⟨_, rfl⟩, by simp; lia, rfl⟩
  ·obtain ⟨r', rfl⟩ : ∃ r', rs = .star :: r' := by
    rcases hrs with rfl | h
    ·simp at hl4 hne; lia
    ·exact h
   repeat x_close
   refine ⟨by rw [jb, hcat, show (Str.ofString "(?>.*?").length = 6 from rfl, show (Str.ofString ")").length = 1 from rfl]; exact zl (by lia), ?_⟩
   repeat x_close
   refine jo (xs := sls acc) (by dl_mem) (by simp; exact zl (by lia)) ?_
   repeat x_close
   have ef : (Str.ofString "(?>.*?" ++ S (cat es) ++ Str.ofString ")") = S (ja ++ cat es ++ [41]) := by
    rw [show Str.ofString "(?>.*?" = S ja from rfl, show Str.ofString ")" = S [41] from rfl, v7, v7]
   refine ⟨os ++ [.list (sls (acc ++ [ja ++ cat es ++ [41]]))], [.list (sls es)], _, ?_, by simp, qbm (more := [.list (sls (acc ++ [ja ++ cat es ++ [41]]))]) hu ⟨jf _, trivial⟩ (by simp), LocSub.refl _, ?_, trivial, ?_⟩
   ·dl_step; rw [ef]; simp
   ·simp [qdw, qdx, qdy, zi, zj, zk, zm, zo, zp, zq]; exact lt2 (by assumption) (by assumption)
   ·exact hK _ _ _ ⟨(It.star :: r').length, by lia, dn ++ [.star] ++ es.map .txt, .star :: r', acc ++ [ja ++ cat es ++ [41]], fuel, some (.str (S (cat es))), he4, rfl, .inr ⟨_, rfl⟩, hno4, by lia, by rw [← ht, qto fuel s r tot.1 tot.2]; exact Eq.symm (List.append_cons acc (ja ++ cat es ++ [41]) (grp fuel (It.star :: r'))),
     by simp only [List.map_append, List.sum_append, List.map_cons, List.map_nil, List.sum_cons, List.sum_nil, List.length_append, hcat, show ja.length = 6 from rfl, show jg.length = 2 from rfl, List.length_cons, List.length_nil]; lia, by simp only [List.length_append, List.length_cons, List.length_nil] at hl1 hl hl4 ⊢; lia, .inr ⟨_, rfl⟩, by simp; lia, rfl⟩
 rintro ω loc os' q87x; obtain ⟨rfl, fx, rfl, rfl, hwt'⟩ := q87x
 repeat x_close
 refine ⟨by exact beq_int_true rfl, ?_⟩
 repeat x_close
 refine qh2 (k := os.length) (xs := total) (by exact List.getElem?_concat_length) (by rw [wm]; exact zl (by lia)) ?_
 repeat x_close
 refine ⟨by rw [jb, wm, show (Str.ofString "(?s:").length = 4 from rfl, show (Str.ofString ")\\Z").length = 3 from rfl]; exact zl (by lia), ?_⟩
 refine ⟨os, [.list (sls total)], rfl, Nat.le_refl _, hu, trivial, ?_⟩
 rw [show Str.ofString "(?s:" = S [40, 63, 115, 58] from rfl, show Str.ofString ")\\Z" = S [41, 92, 90] from rfl, v7, v7]
 subst htot
 exact h
end
end
section
section
variable {c : CX} {n : Nat} {os : List AO} {K : AV → List AO → Prop} {ρ : List Addr} {s : Shared}
theorem qig (C : c.Std) {ch : Nat} (hc : vq ch ∨ qaz ch) (hu : AOs.Un os.length os) (h : K (.str (S (escC ch))) os) : CG c (n + 1) (.ref 62) [.str (S [ch])] os K := by
 refine wh C.ok (qql C.hK) (dargs := []) (fun s G vs hv => ?_) fun L => ?_
 ·obtain ⟨ω, rfl⟩ := len1 hv
  exact (y_ea [] (fun ω ω => rfl) (BindsTo.of_eq rfl))
 conv => arg 6; whnf
 show EXs c n _ [some (.str (S [ch]))] os _ _
 generalize hx : S [ch] = x
 repeat x_close
 refine qtb ?_
 refine qa4 ⟨fun ω => ?_, fun q => (by cases q)⟩
 repeat x_close
 subst hx
 refine qh4 C hc ?_
 exact ⟨os, [], (List.append_nil _).symm, Nat.le_refl _, hu, trivial, h⟩
end
end
section
section
variable {c : CX} {n : Nat} {os : List AO} {K : AV → List AO → Prop} {ρ : List Addr} {s : Shared}
theorem AOs.Un.at {k : Nat} {os : List AO} {i : Nat} {o : AO} (h : AOs.Un k os) (e : os[i]? = some o) : o.Un k := h.mem _ (List.mem_of_getElem? e)
theorem AOs.Un_set {k : Nat} {o : AO} (ho : o.Un k) : ∀ {os : List AO} {i : Nat}, AOs.Un k os → AOs.Un k (os.set i o)
 | [], _, h => h
 | _ :: _, 0, h => ⟨ho, h.2⟩
 | _ :: _, _ + 1, h => ⟨h.1, AOs.Un_set ho h.2⟩
theorem AVs.Un_app {k : Nat} : ∀ {a b : List AV}, AVs.Un k (a ++ b) ↔ AVs.Un k a ∧ AVs.Un k b
 | [], b => by simp [qja, qjb]
 | o :: a, b => by simp [qja, qjb, AVs.Un_app (a := a), and_assoc]
theorem CX.Std.kinG (C : c.Std) (G : c.GI s) : (KF c.w.params).In s.heap := C.hK ▸ gi_k G C.ok
theorem qt6 (C : c.Std) {k dn : Nat} {es : List (Str × AV)} {xs : List AV} (y : AccAt os k dn es xs) (h : K (.int xs.length) os) :
  ∀ A' ρ' s' a, c.HR ρ' os s' → ρ'[k]? = some a → codeAny (MM c.w) A' (.builtin "list.__len__" ⟨[.ref a], []⟩) (fun r s'' => match r with | .ok (.ret v) => Post c ρ' s' K v s'' | _ => False) s' := by
 intro A' ρ' s' a H ha
 refine xg (xm C H y ha) fun d vs m ds m' hdn hg rv hgd D I L => ?_
 have hlen := rv.length
 refine codeAny_builtin (b := Builtin.«list.__len__») (entryFor_of_tree (by kernel_rfl)) ?_
 show wpAny _ _ (seqSize a >>= fun n => retInt n) _ _ _
 unfold seqSize
 refine wpAny_bind (wpAny_bind (wpAny_loadPart hg (wpAny_pure ?_)))
 show wpAny _ _ (mkInt _ >>= fun v => ret v) _ _ _
 refine wpAny_bind (wpAny_mkInt (wpAny_pure ?_))
 have e : ((vs.toArray.size : Nat) : Int) = (xs.length : Int) := by exact (fun {m n} => Int.ofNat_inj.mpr) hlen
 show Post c ρ' s' K (.int ((vs.toArray.size : Nat) : Int) s'.toks) _
 rw [e]
 exact Post.ret _ (Nat.le_succ _) H h ⟨_, rfl⟩
theorem qrr (C : c.Std) {k dn : Nat} {es : List (Str × AV)} (y : AccAt os k dn es []) (h : K .none (os.set k (.acc 238 dn []))) :
  ∀ A' ρ' s' a, c.HR ρ' os s' → ρ'[k]? = some a → codeAny (MM c.w) A' (.builtin "list.__init__" ⟨[.ref a], []⟩) (fun r s'' => match r with | .ok (.ret v) => Post c ρ' s' K v s'' | _ => False) s' := by
 intro A' ρ' s' a H ha
 refine xg (xm C H y ha) fun d vs m ds m' hdn hg rv hgd D I L => ?_
 obtain rfl : vs = [] := rv
 refine codeAny_builtin F.entry_list_init ?_
 unfold Builtin.«list.__init__»
 refine wpAny_bind (m := Builtin.List.listItems (.ref a)) ?_
 unfold Builtin.List.listItems
 refine wpAny_bind (wpAny_seqItems hg rfl (wpAny_pure ?_))
 refine wpAny_bind (m := updateSeq a _) (wpAny_updateSeq hg rfl ?_ (by decide) (by exact Nat.le_add_left #[].size (sizeLine.add 0).succ))
 refine wpAny_bind (wpAny_letGo (wpAny_pure ?_))
 obtain ⟨m2, hm2⟩ := qev hg (fun ω => #[])
 exact Post.putA (r := .none) (tk := s'.toks) H ha hdn (Heap.SameBut.update ..) (Nat.le_refl _) (ws := []) (ys := []) hm2 rfl rfl h
theorem qt7 (C : c.Std) {k dn : Nat} {es : List (Str × AV)} {xs : List AV} {x : AV} (y : AccAt os k dn es (xs ++ [x])) (hl : xs.length ≤ 100000) (h : K x (os.set k (.acc 238 dn xs))) :
  ∀ A' ρ' s' a, c.HR ρ' os s' → ρ'[k]? = some a → codeAny (MM c.w) A' (.builtin "list.pop" ⟨[.ref a], []⟩) (fun r s'' => match r with | .ok (.ret v) => Post c ρ' s' K v s'' | _ => False) s' := by
 intro A' ρ' s' a H ha
 refine xg (xm C H y ha) fun d vs m ds m' hdn hg rv hgd D I L => ?_
 refine qc rv.last fun ws v z245y r1 rx => ?_; subst z245y
 have hlen := r1.length
 have hsl : sizeLine = 16777216 := rfl
 refine codeAny_builtin F.entry_list_pop ?_
 unfold Builtin.«list.pop»
 refine wpAny_bind (wpAny_pure ?_)
 show wpAny _ _ (Builtin.List.listItems (.ref a) >>= _) _ _ _
 unfold Builtin.List.listItems
 refine wpAny_bind (wpAny_bind (wpAny_seqItems hg rfl (wpAny_pure ?_)))
 rw [if_neg (by simp)]
 have hi : seqIndex? (-1) (ws ++ [v]).toArray.size = some ws.length := by rw [seqIndex_neg (by decide) (by simp; exact (fun a b => (Z.leB_iff a b).mp) 1 (↑ws.length + 1) rfl)]; simp; lia
 have hv : (ws ++ [v]).toArray[ws.length]? = some v := by simp
 rw [hi]
 simp only [Option.bind_some, hv, Option.map_some]
 refine wpAny_bind (m := updateSeq a _) (wpAny_updateSeq hg rfl ?_ (by simp; lia) (by simp [List.eraseIdx_append_of_length_le]; lia))
 refine wpAny_pure ?_
 obtain ⟨m2, hm2⟩ := qev hg (fun xs => xs.eraseIdxIfInBounds ws.length)
 exact Post.putA (r := x) (tk := s'.toks) H ha hdn (Heap.SameBut.update ..) (Nat.le_refl _) (ws := ws) (ys := xs) (by simpa [List.eraseIdx_append_of_length_le] using hm2) r1 rx h
noncomputable def XAt (c : CX) (n : Nat) (e : EF) (body : List Stmt) (loc : Loc) (os : List AO) (sts : List Stmt) (K : AF → Loc → List AO → Prop) : Prop :=
 ∀ A, AR A n → ∀ ρ s, FR c e loc os ρ s → _root_.PySem.wpAt (MM c.w) A (.func body e.env) (execs sts e.env) (PostF c e ρ s K) NoE s
section
variable {e : EF} {loc : Loc} {body : List Stmt} {K : AF → Loc → List AO → Prop}
theorem qjp {st : Stmt} {rest : List Stmt} (h : EX c n e loc os st fun f l o => match f with | .next => XAt c n e body l o rest K | f => K f l o) : XAt c n e body loc os (st :: rest) K := fun A hA ρ s F => by
 refine ks_wpAt_execs_cons (_root_.PySem.wpAt_of_wpAny (wpAny_mono (h A hA ρ s F) (fun f s1 y => ?_) fun ω ω z => z))
 obtain ⟨af, loc1, os1, ρ1, k, F1, E1, r⟩ := y
 cases af with
 | next => cases (show f = .next from r); exact _root_.PySem.wpAt_mono (k A hA ρ1 s1 F1) (fun v s3 y => PostF.from E1 y) fun ω ω z => z
 | brk => cases (show f = .brk from r); exact ⟨_, loc1, os1, ρ1, k, F1, E1, r⟩
 | cont => cases (show f = .cont from r); exact ⟨_, loc1, os1, ρ1, k, F1, E1, r⟩
 | ret a => refine x_ea r fun v z244y r' => ?_; clear r; subst z244y; exact ⟨_, loc1, os1, ρ1, k, F1, E1, v, rfl, r'⟩
end
theorem wu (C : c.Std) {k dn : Nat} {es : List (Str × AV)} {xs : List AV} (y : AccAt os k dn es xs) (hu : AOs.Un os.length os) (h : K (.int xs.length) os) : CG c (n + 1) (.ref 235) [.ref k] os K := by
 refine qmc C.ok (vm C.hK) (dargs := []) (fun s G vs hv => ?_) fun L A ρ s hA F => ?_
 ·obtain ⟨ω, rfl⟩ := len1 hv
  exact (y_ea [] (fun ω ω => rfl) (BindsTo.of_eq rfl))
 refine ks_wpAt_execs_cons (ks_wpAt_Return_some ?_)
 refine _root_.PySem.wpAt_mono (qaq (K := fun a o => a = .int xs.length ∧ o = os) C (vm C.hK) qq0 (by rfl) rfl rfl rfl (.head _) (qz 234 _ _ _ rfl (by rw [C.hK]; rfl) rfl rfl) (by rfl) F .here y (qt6 C y ⟨rfl, rfl⟩)) (fun v s' z => ?_) fun ω ω z => z
 obtain ⟨ω, ω, ρ1, ⟨rfl, rfl⟩, H1, E1, r1⟩ := z
 exact ⟨.ret (.int xs.length), _, _, ρ1, ⟨_, [], (List.append_nil _).symm, Nat.le_refl _, hu, trivial, h⟩, F.ext E1 H1, E1.up, v, rfl, r1⟩
theorem qd3 (C : c.Std) {k dn : Nat} (y : AccAt os k dn [] []) (hu : AOs.Un os.length os) (h : K .none ((os.set dn (.dict accE)).set k (.acc 238 dn []))) : CGc c (n + 1) (.ref 175) [.ref k, .int 0] os K := by
 have hk := (List.getElem?_eq_some_iff.mp y.1).1
 have hdl := (List.getElem?_eq_some_iff.mp y.2).1
 refine qje C.ok (qdb C.hK) (dargs := []) (fun s G vs hv => ?_) fun L => ?_
 ·refine x_e2 (len2 hv) fun ω ω z243y => ?_; subst z243y
  exact (y_ea [] (fun ω ω => rfl) (binds_K (K := KF c.w.params) (C.kinG G) rfl rfl rfl rfl rfl))
 have hne : k ≠ dn := fun q => by subst q; have := y.1.symm.trans y.2; lia
 have y2 : AccAt (os.set dn (.dict accE)) k dn accE [] := ⟨by simp [List.getElem?_set, hne.symm, y.1], by exact List.getElem?_set_self hdl⟩
 have hu2 : AOs.Un os.length ((os.set dn (.dict accE)).set k (.acc 238 dn [])) := AOs.Un_set (o := .acc 238 dn []) ⟨hdl, trivial⟩ (AOs.Un_set (o := .dict accE) ⟨trivial, trivial⟩ hu)
 suffices hx : XAt c n (efOf qbq L 175 qb7 qbz) (qu (qy 16 0)) [some (.ref k), some (.int 0)] os (qu (qy 16 0)) (Ret os.length K) from fun A ρ s hA F => hx A hA ρ s F
 refine qjp ?_
 refine qo C ?_
 repeat x_close
 refine (w5 k 238 dn [] rfl zd y.own y.2 (by kernel_rfl) (by simp) ?_)
 show XAt _ _ _ _ _ _ _ _
 intro A hA ρ s F
 refine ks_wpAt_execs_cons (ks_wpAt_Expr_any ?_)
 refine _root_.PySem.wpAt_mono (qaq (K := fun a o => a = .none ∧ o = (os.set dn (.dict accE)).set k (.acc 238 dn [])) C (qdb C.hK) qnj (by rfl) rfl rfl rfl (.head _) (qz 174 _ _ _ rfl (by rw [C.hK]; rfl) rfl rfl) (by rfl) F .here y2 (qrr C y2 ⟨rfl, rfl⟩)) (fun v s' z => ?_) fun ω ω z => z
 obtain ⟨ω, ω, ρ1, ⟨rfl, rfl⟩, H1, E1, r1⟩ := z
 refine _root_.PySem.wpAt_of_wpAny (wpAny_execs_nil ?_)
 exact ⟨.next, _, _, ρ1, ⟨_, [], by simp, by simp, by simpa using hu2, trivial, h⟩, F.ext E1 H1, E1.up, rfl⟩
theorem qas (C : c.Std) {k dn : Nat} {xs : List AV} {x : AV} (y : AccAt os k dn accE (xs ++ [x])) (hl : xs.length ≤ 100000) (hu : AOs.Un os.length os) (h : K x (os.set k (.acc 238 dn xs))) : CG c (n + 2) (.ref 198) [.ref k] os K := by
 have hk := (List.getElem?_eq_some_iff.mp y.1).1
 refine qmc C.ok (qmx C.hK) (dargs := []) (fun s G vs hv => ?_) fun L => ?_
 ·obtain ⟨ω, rfl⟩ := len1 hv
  exact (y_ea [] (fun ω ω => rfl) (BindsTo.of_eq rfl))
 have hu2 : AOs.Un os.length (os.set k (.acc 238 dn xs)) ∧ x.Un os.length := by
  have hq := hu.at y.1
  have := AVs.Un_app.mp hq.2
  exact ⟨AOs.Un_set (o := .acc 238 dn xs) ⟨hq.1, this.1⟩ hu, this.2.1⟩
 suffices hx : XAt c (n + 1) (efOf qj1 L 198 qj8 qj5) (qu (qy 16 3)) [some (.ref k)] os (qu (qy 16 3)) (Ret os.length K) from fun A ρ s hA F => hx A hA ρ s F
 refine qjp ?_
 repeat x_close
 refine (y_ea _ (M_fn (f := 235) C zd y.own y.2 (by kernel_rfl) (by kernel_rfl) (by rfl)) ?_)
 repeat x_close
 repeat x_close
 refine wu C y hu ?_
 repeat x_close
 refine ⟨fun q => by simp at q; lia, fun ω => ?_⟩
 repeat x_close
 show XAt _ _ _ _ _ _ _ _
 intro A hA ρ s F
 refine ks_wpAt_execs_cons (ks_wpAt_Return_some ?_)
 refine _root_.PySem.wpAt_mono (qaq (K := fun a o => a = x ∧ o = os.set k (.acc 238 dn xs)) C (qmx C.hK) qq1 (by rfl) rfl rfl rfl (.head _) (qz 197 _ _ _ rfl (by rw [C.hK]; rfl) rfl rfl) (by rfl) F .here y (qt7 C y hl ⟨rfl, rfl⟩)) (fun v s' z => ?_) fun ω ω z => z
 obtain ⟨ω, ω, ρ1, ⟨rfl, rfl⟩, H1, E1, r1⟩ := z
 exact ⟨.ret _, _, _, ρ1, ⟨_, [], by simp, by simp, by simpa using hu2.1, by simpa [AF.val] using hu2.2, h⟩, F.ext E1 H1, E1.up, v, rfl, r1⟩
end
end
section
section
variable {c : CX} {n : Nat} {os : List AO} {K : AV → List AO → Prop} {ρ : List Addr} {s : Shared}
theorem qsc (C : c.Std) {k dn : Nat} {xs : List AV} (y : AccAt os k dn accE xs) : je c os (.ref k) "push" (.ref 182) := M_fn C zd y.own y.2 (by kernel_rfl) (by kernel_rfl) (by rfl)
theorem qmr (C : c.Std) {k dn : Nat} {xs : List AV} (y : AccAt os k dn accE xs) : je c os (.ref k) "pop_from" (.ref 190) := M_fn C zd y.own y.2 (by kernel_rfl) (by kernel_rfl) (by rfl)
theorem qjl (C : c.Std) {k dn : Nat} {xs : List AV} (y : AccAt os k dn accE xs) : je c os (.ref k) "pop" (.ref 198) := M_fn C zd y.own y.2 (by kernel_rfl) (by kernel_rfl) (by rfl)
theorem qms (C : c.Std) {k dn : Nat} {xs : List AV} (y : AccAt os k dn accE xs) : je c os (.ref k) "reset" (.ref 220) := M_fn C zd y.own y.2 (by kernel_rfl) (by kernel_rfl) (by rfl)
theorem qqg (C : c.Std) {k dn : Nat} {xs : List AV} (y : AccAt os k dn accE xs) : je c os (.ref k) "is_onlyws" (.ref 227) := M_fn C zd y.own y.2 (by kernel_rfl) (by kernel_rfl) (by rfl)
theorem qh6 (C : c.Std) {k dn : Nat} {xs : List AV} (y : AccAt os k dn accE xs) : je c os (.ref k) "part_count" (.ref 235) := M_fn C zd y.own y.2 (by kernel_rfl) (by kernel_rfl) (by rfl)
theorem qdo (C : c.Std) {k dn : Nat} {xs : List AV} {a b : List Nat} (y : AccAt os k dn accE xs) (hl : xs.length ≤ 100000) (hu : AOs.Un os.length os) (h : K .none (os.set k (.acc 238 dn (xs ++ [.tup [.str (S a), .str (S b)]])))) :
  CGc c (n + 1) (.ref 182) [.ref k, .str (S a), .str (S b)] os K := by
 have hk := (List.getElem?_eq_some_iff.mp y.1).1
 have hq := hu.at y.1
 refine qmd C.ok (qqi C.hK) (dargs := []) (fun s G vs hv => ?_) fun L => ?_
 ·refine x_e3 (len3 hv) fun ω ω ω z261y => ?_; subst z261y
  exact (y_ea [] (fun ω ω => rfl) (BindsTo.of_eq rfl))
 show EXs c n _ [some (.ref k), some (.str (S a)), some (.str (S b))] os _ _
 conv => arg 6; whnf
 repeat x_close
 refine (y_ea _ (qh5 C y (by rfl)) ?_)
 repeat x_close
 refine zu ?_
 repeat x_close
 refine ⟨by simp [sizeLine], ?_⟩
 repeat x_close
 refine qh1 (a := .tup [.str (S a), .str (S b)]) C y hl ?_
 repeat x_close
 refine ⟨os.set k (AO.acc 238 dn (xs ++ [AV.tup [AV.str (S a), AV.str (S b)]])), [], (List.append_nil _).symm, by simp, ?_, trivial, h⟩
 simp only [List.length_set]
 exact AOs.Un_set (o := AO.acc 238 dn (xs ++ [AV.tup [AV.str (S a), AV.str (S b)]])) ⟨hq.1, AVs.Un_app.mpr ⟨hq.2, ⟨trivial, trivial, trivial⟩, trivial⟩⟩ hu
theorem qha (C : c.Std) {k dn : Nat} {xs : List AV} {a b : List Nat} (y : AccAt os k dn accE xs) (hl : xs.length ≤ 100000) (hu : AOs.Un os.length os) (h : K .none (os.set k (.acc 238 dn (xs ++ [.tup [.str (S a), .str (S b)]])))) :
  CG c (n + 1) (.ref 182) [.ref k, .str (S a), .str (S b)] os K := (qdo C y hl hu h).cg
theorem qe2 (C : c.Std) {k dn : Nat} {xs : List AV} {i : Nat} (y : AccAt os k dn accE xs) (hl : xs.length ≤ 100000) (hu : AOs.Un os.length os) (h : K (.ref os.length) (os.set k (.acc 238 dn (xs.take i)) ++ [.list (xs.drop i)])) :
  CG c (n + 1) (.ref 190) [.ref k, .int i] os K := by
 have hk := (List.getElem?_eq_some_iff.mp y.1).1
 have hq := hu.at y.1
 have hd := (List.getElem?_eq_some_iff.mp y.2).1
 have hsl : sizeLine = 16777216 := rfl
 refine wh C.ok (qfu C.hK) (dargs := []) (fun s G vs hv => ?_) fun L => ?_
 ·refine x_e2 (len2 hv) fun ω ω z260y => ?_; subst z260y
  exact (y_ea [] (fun ω ω => rfl) (binds_K (K := KF c.w.params) (C.kinG G) rfl rfl rfl rfl rfl))
 show EXs c n _ [some (.ref k), some (.int i), none] os _ _
 conv => arg 6; whnf
 repeat x_close
 refine qmz C y (by lia) ?_
 repeat x_close
 refine ye ?_
 refine j7 ?_
 repeat x_close
 refine ⟨by simp [sizeLine], ?_⟩
 repeat x_close
 dl_step
 have y2 : AccAt (os ++ [.list (xs.drop i), .list []]) k dn accE xs := ⟨xf y.1, xf y.2⟩
 refine qcj C (ns := []) y2 (by simp) (by assumption) (qt9 (i := i)) ?_
 repeat x_close
 have eq1 : xs.take i ++ [] = xs.take i := List.append_nil _
 rw [eq1]
 have hu2 : AOs.Un (os.length + 1) (os.set k (.acc 238 dn (xs.take i)) ++ [.list (xs.drop i)]) := by
  have e : xs = xs.take i ++ xs.drop i := (List.take_append_drop i xs).symm
  have h2 : AVs.Un os.length (xs.take i ++ xs.drop i) := e ▸ hq.2
  have h3 := AVs.Un_app.mp h2
  refine AOs.Un_app.mpr ⟨AOs.Un.le (Nat.le_succ _) _ (AOs.Un_set (o := .acc 238 dn (xs.take i)) ⟨hq.1, h3.1⟩ hu), AVs.Un.le (Nat.le_succ _) _ h3.2, trivial⟩
 refine ⟨os.set k (AO.acc 238 dn (xs.take i)) ++ [AO.list (xs.drop i)], [AO.list []], ?_, by simp, by simpa using hu2, by show AV.Un _ (.ref os.length); simp [zi, zj, zk, zm, zo, zp, zq], h⟩
 rw [List.set_append_left _ _ hk]; simp
theorem qjq : putE "_initial_size" (.int 0) accE = accE := by rfl
end
end
section
section
variable {c : CX} {n : Nat} {os : List AO} {K : AV → List AO → Prop} {e : EF} {loc : Loc} {ρ : List Addr} {s s₂ : Shared} {t : Tab}
theorem qil (C : c.Std) (G : c.GI s) (ht : t ∈ c.tabs) (k : ∀ b o, b ≠ t.P → s.heap.get? b = some o → s₂.heap.get? b = some o) {A : Around} {E : Value → Shared → Prop} {cenv : Env} {x : Str} {p : Pos} {v : Value} {Q : Value → Shared → Prop}
  (hk : cenv.scope.kind = .function) (hg : cenv.globals = mainGlobals) (hb : cenv.builtins = builtinsNs) (hx : cenv.kindOf x = some .globalImplicit) (hd : (x == ("__debug__" : Str)) = false) (hv : (x, v) ∈ GT) (h : Q v s₂) : wpAny (MM c.w) A (eval (.Name x p) cenv) Q E s₂ := by
 refine qc C.ok.glob fun mg mb h1 h2 h3 => ?_
 refine xy ((G.tab t ht).now) fun ps ω z263y ω => ?_; obtain ⟨ω, tP⟩ := z263y
 have mv : ∀ {a m}, s.heap.Ns a m → s₂.heap.Ns a m := fun {a m} hn => hn.at' fun o e => k _ _ (fun q => by
  refine qw hn fun o' es ep ho hd' ω => ?_; clear hn
  rw [q, tP] at ho; cases ho; cases hd') e
 have h1' := mv (qdi G h1).ns
 have h2' := mv (qdi G h2).ns
 refine wpAny_Name ?_ hd
 rw [qiq hk hx]
 unfold loadGlobal
 rw [hg, hb]
 refine wpAny_bind (wpAny_nsGet h1' ?_)
 rcases h3 x v (by rw [C.hG]; exact hv) with q | ⟨q, q'⟩
 ·rw [q]; exact wpAny_pure h
 ·rw [q]
  refine wpAny_bind (wpAny_nsGet h2' ?_)
  rw [q']; exact wpAny_pure h
theorem qj7 {w : World} {A : Around} {E : Value → Shared → Prop} {s : Shared} {env : Env} {x : Str} {p0 p1 p2 : Pos} {y : Str} {tk : Tok} {Q : Value → Shared → Prop} (hy : y.length ≤ sizeLine)
  (hl : ∀ Q, Q (.builtin "len") s → wpAny (MM w) A (eval (.Name "len" p0) env) Q E s) (hx : ∀ Q, Q (.str y tk) s → wpAny (MM w) A (eval (.Name x p1) env) Q E s)
  (h : ∀ t', Q (.int y.length t') { s with toks := s.toks + 1 + 1 }) : wpAny (MM w) A (eval (.Call (.Name "len" p0) [.Name x p1] [] p2) env) Q E s := by
 refine Call_ (hl _ ?_) rfl
 refine cw (c := ⟨w, s, [], [], []⟩) ?hp ?_
 case hp => rfl
 refine spliced_cons (hx _ (wpAny_pure ?_))
 have : sizeLine = 2 ^ 24 := rfl
 exact ⟨⟨.machine, fun A Q E h => wpAny_pure h⟩, len_str (by lia) (h _)⟩
theorem qr1 {w : World} {A : Around} {E : Value → Shared → Prop} {s : Shared} {a : Addr} {fp wr : List Addr} {GG : Array GenState → Array GenState → Prop} {m : Nat} {P : Nat → Value → Prop} {St : Nat → Shared → Prop} {Q : Value → Shared → Prop} {tz : Tok}
  (W : WalksS PG w A.in1 a fp wr GG m P St) (st : St 0 s) (hfp : ∀ b ∈ fp, b < s.heap.objs.size) (val : Nat → Int) (hval : ∀ i v, P i v → ∃ t, v = .int (val i) t) (h : ∀ s' t', Moved wr GG s s' → Q (.int (preSum val m) t') s') :
  wpAny (MM w) A (call (.builtin "sum") [.ref a, .int 0 tz]) Q E s := by
 refine call_function_tree F.kind_sum F.plain_sum F.entry_sum (by unfold argsOk; kernel_rfl) ?_
 delta Builtin.«sum»
 dsimp only [List.length_cons, List.length_nil]
 rw [if_neg (by exact Nat.lt_irrefl 2)]
 refine wpAny_bind (wpAny_of_eq (show Builtin.Builtins.bindParams "sum" ["start"] 0 { pos := [Value.int 0 tz] } = pure [some (.int 0 tz)] from rfl) ?_)
 refine wpAny_bind (W.self 0 _ _ _ st ?_)
 dsimp only
 ·refine wpAny_bind (wpAny_rule (wpAny_bind (wpAny_mkInt ?_)))
  refine wpAny_bind (wpAny_pure ?_)
  simp only [List.forIn_cons, List.forIn_nil]
  refine wpAny_bind (wpAny_bind (wpAny_bind (wpAny_isInstance (T := "int") (b := false) (typeIs_int _ _ _) _root_.PySem.sub_int_str ?_)))
  rw [if_neg (by exact Bool.false_ne_true)]
  refine wpAny_pure (wpAny_bind (wpAny_bind (wpAny_isInstance (T := "int") (b := false) (typeIs_int _ _ _) _root_.PySem.sub_int_bytes ?_)))
  rw [if_neg (by exact Bool.false_ne_true)]
  refine wpAny_pure (wpAny_bind (wpAny_bind (wpAny_isInstance (T := "int") (b := false) (typeIs_int _ _ _) _root_.PySem.sub_int_bytearray ?_)))
  rw [if_neg (by exact Bool.false_ne_true)]
  refine wpAny_pure (wpAny_pure ?_)
  refine wpAny_bind (wpAny_newObj_type ?_)
  have hSf : s.heap.objs.size ∉ fp := fun hm => Nat.lt_irrefl _ (hfp _ hm)
  refine wpAny_pure ⟨plainId_quiet F.plain_sum_loop _, codeAny_sum_loopAnyS W val hval s.heap.objs.size hSf m 0 _ s.toks 0 0 (.inl rfl) rfl (Nat.zero_le _)
   (W.frame 0 s _ _ st (Nat.le_succ _) fun b ω o e => Heap.get?_push_of_some _ e) (Heap.get?_push_size _ rfl) fun s' t' hm => ?_⟩
  exact h s' t' (hm.drop_new (Nat.le_succ _))
theorem vc : ∀ {l : List Nat} {x : Nat}, x ∈ l → x ≤ l.sum
 | y :: l, x, h => by
  rw [List.sum_cons]
  rcases List.mem_cons.mp h with rfl | h
  ·simp
  ·have := vc h; exact Nat.le_add_left_of_le this
noncomputable def qg (xs : List (List Nat × List Nat)) : Nat := (xs.map fun p => p.1.length + p.2.length).sum
theorem qdn (xs : List (List Nat × List Nat)) : ∀ m, m ≤ xs.length → preSum (fun i => (((xs[i]?.map fun p => p.1.length + p.2.length).getD 0 : Nat) : Int)) m = ((qg (xs.take m) : Nat) : Int)
 | 0, _ => by rfl
 | m + 1, h => by
  have hm : m < xs.length := by assumption
  rw [preSum, qdn xs m (by exact Nat.le_of_succ_le h)]
  have e : xs.take (m + 1) = xs.take m ++ [xs[m]] := by exact List.take_succ_eq_append_getElem hm
  rw [e]
  simp only [qg, List.map_append, List.sum_append, List.map_cons, List.map_nil, List.sum_cons, List.sum_nil, List.getElem?_eq_getElem hm, Option.map_some, Option.getD_some]
  rfl
end
section
variable {c : CX} {n : Nat} {os : List AO} {K : AV → List AO → Prop} {ρ : List Addr} {s : Shared}
theorem wk (C : c.Std) {k dn : Nat} {xs : List (List Nat × List Nat)} (y : AccAt os k dn accE (prs xs)) (hl : qg xs ≤ 100000) (hu : AOs.Un os.length os) (h : K (.int (qg xs)) os) : CG c (n + 1) (.ref 205) [.ref k] os K := by
 have ht : (⟨204, 200, []⟩ : Tab) ∈ c.tabs := by rw [C.hT]; exact .head _
 have hsl : sizeLine = 16777216 := rfl
 have part : ∀ (i : Nat) (hi : i < xs.length), xs[i].1.length ≤ 100000 ∧ xs[i].2.length ≤ 100000 := fun i hi => by
  have h1 : xs[i].1.length + xs[i].2.length ≤ qg xs := vc (List.mem_map.mpr (y_ea (xs[i]) (List.getElem_mem hi) rfl))
  lia
 refine wh C.ok (qmv C.hK) (dargs := []) (fun s G vs hv => ?_) fun L => ?_
 ·obtain ⟨ω, rfl⟩ := len1 hv
  exact (y_ea [] (fun ω ω => rfl) (BindsTo.of_eq rfl))
 show EXs c n _ [some (.ref k)] os _ _
 conv => arg 6; whnf
 x_close
 x_close
 refine EV.mono (K := fun a o => a = .int (qg xs) ∧ o = os) ?_ ?_
 rotate_left
 ·rintro ω ω q119x; obtain ⟨rfl, rfl⟩ := q119x
  exact ⟨_, [], (List.append_nil _).symm, Nat.le_refl _, hu, trivial, h⟩
 intro A hA ρ s F
 refine Call_ (wpAny_Name (uv C.ok F (x := "sum") (v := .builtin "sum") (.head _) (by rw [C.hG]; exact mem_of_lookup_some rfl) ?_) (F.ok.gs _ (.head _)).2) rfl
 refine cw ?hp ?_
 case hp => rfl
 refine spliced_cons ?_
 let val : Nat → Int := fun i => (((xs[i]?.map fun p => p.1.length + p.2.length).getD 0 : Nat) : Int)
 refine qn3 C ht hA F rfl y .here rfl rfl (by decide) (by rfl) (by rfl) (by rfl) (by decide) rfl (fun i v => ∃ t, v = .int (val i) t) ?_ ?_
 ·rintro CC code A' E' i va vb s₂ m₂ hA' q120x; obtain ⟨hi, u, v, rfl, rfl⟩ := q120x; rintro hn₂ hma hmb hk
  have hp := part i hi
  refine wpAny_BinOp (qj7 (by rw [jb]; lia) (fun Q q => qil C F.hr.gi ht hk rfl F.ok.glob rfl rfl (by rfl) (.head _) q) (fun Q q => ldG hn₂ hma q) fun t1 => ?_)
  refine qj7 (by rw [jb]; lia) (fun Q q => qil (s₂ := { s₂ with toks := s₂.toks + 1 + 1 }) C F.hr.gi ht hk rfl F.ok.glob rfl rfl (by rfl) (.head _) q) (fun Q q => ldG (s := { s₂ with toks := s₂.toks + 1 + 1 }) hn₂ hmb q) fun t2 => ?_
  have e : ((S xs[i].1).length : Int) + (S xs[i].2).length = val i := by simp [val, hi, jb]
  refine add_int ?_
  rw [e]
  exact ⟨⟨_, rfl⟩, ⟨s₂.heap, _, rfl, fun ω ω e => e⟩⟩
 ·intro a fp wr g St s' gr W st hT ha hfp hwr
  have H' := gr.hr C F.hr ht
  have F' := F.ext (gr.ext ht) H'
  refine x_ea F'.ns fun mm hn' hm' => ?_
  obtain ⟨hl', v', hv', a', ha', rfl⟩ := (LkAt.here : LkAt qdj [some (.ref k)] "self" (.ref k)).get hm'
  refine xg (xm C H' y ha') fun d vs m1 ds m2 hdn hg rv hgd D I L => ?_
  refine x_ea (qej (m := m2) C zd (name := "_initial_size") (by kernel_rfl) D (x := .int 0) rfl) fun u hf z262y => ?_; obtain ⟨t0, rfl⟩ := z262y
  refine spliced_cons (Attribute_any_ (wpAny_Name (wpAny_loadName_local F'.ok.kind (F'.ok.ls "self" hl').1 hn' hv' ?_) (F'.ok.ls "self" hl').2) (by with_unfolding_all rfl))
  refine qj4 (C.kin H') I hf rfl (wpAny_pure ?_)
  refine ⟨⟨.machine, fun A Q E h => wpAny_pure h⟩, ?_⟩
  refine q6 (qr1 (tz := t0) W.in4_1 (W.frame 0 s' s'.heap (s'.toks + 1) st (Nat.le_succ _) fun ω ω ω e => e) hfp val (fun i v hv => hv) fun s3 t3 hm3 hz3 => ?_)
  have hb3 : AllBare s3.gens := AllBare.movedS (s := { s' with toks := s'.toks + 1 }) H'.gi.bare hm3
  have hm4 : Moved wr (GenOnlyQ g) s' s3 := ⟨hm3.heap, hm3.gens, hm3.drawn, hm3.os, Nat.le_trans (Nat.le_succ _) hm3.toks⟩
  have g3 := gr.moved F.hr.gi ht hm4 hwr hb3 hz3
  refine ⟨.int (qg xs), os, ρ, ⟨rfl, rfl⟩, g3.hr C F.hr ht, g3.ext ht, t3, ?_⟩
  rw [qdn xs _ (Nat.le_refl _), List.take_length]
end
end
section
noncomputable def qa (xs : List (List Nat × List Nat)) : List Nat := cat (xs.map fun p => p.1 ++ p.2)
theorem qdd (xs : List (List Nat × List Nat)) : (qa xs).length = qg xs := by
 unfold qa qg
 rw [wm]; simp [Function.comp_def]
section
variable {c : CX} {n : Nat} {os : List AO} {K : AV → List AO → Prop} {ρ : List Addr} {s : Shared}
theorem wl (C : c.Std) {k dn : Nat} {xs : List (List Nat × List Nat)} (y : AccAt os k dn accE (prs xs)) (hl : qg xs ≤ 100000) (hz : xs.length ≤ 100000) (hu : AOs.Un os.length os) (h : K (.str (S (qa xs))) os) : CG c (n + 1) (.ref 212) [.ref k] os K := by
 have ht : (⟨211, 207, []⟩ : Tab) ∈ c.tabs := by rw [C.hT]; exact .tail _ (.head _)
 have hsl : sizeLine = 16777216 := rfl
 have e0 : (Str.ofString "").length = 0 := rfl
 have part : ∀ (i : Nat) (hi : i < xs.length), xs[i].1.length + xs[i].2.length ≤ 100000 := fun i hi => by
  have h1 : xs[i].1.length + xs[i].2.length ≤ qg xs := vc (List.mem_map.mpr (y_ea (xs[i]) (List.getElem_mem hi) rfl))
  exact Nat.le_trans h1 hl
 refine wh C.ok (qmw C.hK) (dargs := []) (fun s G vs hv => ?_) fun L => ?_
 ·obtain ⟨ω, rfl⟩ := len1 hv
  exact (y_ea [] (fun ω ω => rfl) (BindsTo.of_eq rfl))
 show EXs c n _ [some (.ref k)] os _ _
 conv => arg 6; whnf
 x_close
 x_close
 refine EV.mono (K := fun a o => a = .str (S (qa xs)) ∧ o = os) ?_ ?_
 rotate_left
 ·rintro ω ω q121x; obtain ⟨rfl, rfl⟩ := q121x
  exact ⟨_, [], (List.append_nil _).symm, Nat.le_refl _, hu, trivial, h⟩
 intro A hA ρ s F
 refine methodCall_KW (pl := do return (← importBound (.Name "EMPTYSTRING" _) _).getD true) (wpAny_Name (uv C.ok F (x := "EMPTYSTRING") (v := .str "" 559) (.head _) (by rw [C.hG]; decide) ?_) (F.ok.gs _ (.head _)).2) rfl
 refine GM.join ?_
 refine cw ?hp ?_
 case hp => rfl
 refine spliced_cons ?_
 let tx : Nat → Str := fun i => S ((xs[i]?.map fun p => p.1 ++ p.2).getD [])
 refine qn3 C ht hA F rfl y .here rfl rfl (by decide) (by rfl) (by rfl) (by rfl) (by decide) rfl (fun i v => ∃ t, v = .str (tx i) t) ?_ ?_
 ·rintro CC code A' E' i va vb s₂ m₂ hA' q122x; obtain ⟨hi, u, v, rfl, rfl⟩ := q122x; rintro hn₂ hma hmb hk
  have hp := part i hi
  refine methodCall_KW (pl := do return (← importBound (.Name "EMPTYSTRING" _) _).getD true) (qil C F.hr.gi ht hk rfl F.ok.glob rfl rfl (by rfl) (v := .str "" 559) (by decide) ?_) rfl
  refine GM.join ?_
  refine cw (c := c) ?hp ?_
  case hp => rfl
  refine spliced_cons (wpAny_Tuple_spliced (x1 := 0) (spliced_cons (ldG hn₂ hma (spliced_cons (ldG hn₂ hmb (wpAny_pure ?_))))))
  refine ⟨by simp [sizeLine], wpAny_pure ⟨⟨.machine, fun A Q E h => wpAny_pure h⟩, ?_⟩⟩
  have kp := qf (h := s₂.heap) (ob := xn [.str (S xs[i].1) u, .str (S xs[i].2) v])
  refine join_tuple (ys := [S xs[i].1, S xs[i].2]) (items := [.str (S xs[i].1) u, .str (S xs[i].2) v].toArray) ⟨_, Heap.get?_push_size _ rfl, rfl, 0, rfl⟩ (.cons _ _ (.cons _ _ .nil)) (by rw [e0]; simp [jb]; lia) fun t' kk => ?_
  have e : Txt.join (Str.ofString "") [S xs[i].1, S xs[i].2] = tx i := by
   show Builtin.Str.glued _ _ = _
   rw [StrLaws.glued_eq_join, show Str.ofString "" = S [] from rfl]
   have := qal [xs[i].1, xs[i].2]
   simp only [List.map_cons, List.map_nil] at this
   rw [this]; simp [tx, hi, cat]
  exact ⟨⟨t', by rw [← e]⟩, ⟨_, _, rfl, kp⟩⟩
 ·intro a fp wr g St s' gr W st hT ha hfp hwr
  refine wpAny_pure ⟨⟨.machine, fun A Q E h => wpAny_pure h⟩, ?_⟩
  have H' := gr.hr C F.hr ht
  refine qr (q6 (SC.joinGen W.in4_2 hT st hfp ha (fun i v hv => let ⟨t, e⟩ := hv; (y_e2 _ t e)) (fun s3 lt hm3 hacc => ?_) (by lia)))
  have hlt : lt.map (·.1) = (xs.map fun p => p.1 ++ p.2).map S := by
   apply List.ext_getElem?
   intro j
   have hsz : lt.length = xs.length := by simpa [strValues] using hacc.1
   by_cases hj : j < xs.length
   ·have hj' : j < lt.length := hsz ▸ hj
    obtain ⟨u, hv⟩ := hacc.2 j (.str lt[j].1 lt[j].2) (by simp [strValues, List.getElem?_eq_getElem hj'])
    injection hv with h1 _
    simp [List.getElem?_eq_getElem hj', hj, h1, tx]
   ·rw [List.getElem?_eq_none (by simpa [hsz] using Nat.le_of_not_lt hj), List.getElem?_eq_none (by simpa using Nat.le_of_not_lt hj)]
  rw [hlt]
  have hcl : (qa xs).length = ((xs.map fun p => p.1 ++ p.2).map List.length).sum := by unfold qa; exact wm (List.map (fun p => p.fst ++ p.snd) xs)
  refine ⟨joinOk_of ?_, fun t' k hz3 htk => ?_⟩
  ·have e2 : (((xs.map fun p => p.1 ++ p.2).map S).map (·.length)).sum = qg xs := by simp [qg, jb, Function.comp_def]
   rw [e2, e0]; lia
  have hb3 : AllBare s3.gens := AllBare.movedS H'.gi.bare hm3
  have hm4 : Moved wr (GenOnlyQ g) s' { s3 with toks := k } := ⟨hm3.heap, hm3.gens, hm3.drawn, hm3.os, htk⟩
  have g3 := gr.moved F.hr.gi ht hm4 hwr hb3 hz3
  refine ⟨.str (S (qa xs)), os, ρ, ⟨rfl, rfl⟩, g3.hr C F.hr ht, g3.ext ht, t', ?_⟩
  show Value.str (Builtin.Str.glued _ _) _ = _
  rw [StrLaws.glued_eq_join]
  have := qal (xs.map fun p => p.1 ++ p.2)
  rw [show (Str.ofString "" : Str) = S [] from rfl, this]; rfl
end
end
section
section
variable {c : CX} {n : Nat} {os : List AO} {K : AV → List AO → Prop} {ρ : List Addr} {s : Shared}
theorem qwh {a : AV} (h : TB1 c n truthy a os fun b o => K (.bool (!b)) o) : TV1 c n (unaryOp .Not) a os K := fun A hA ρ s v H hv => by
 unfold unaryOp
 refine wpAny_holding ?_
 show wpAny (MM c.w) A (truthy v >>= fun b => pure (Value.bool (!b))) _ _ _
 refine wpAny_bind (wpAny_mono (h A hA ρ s v H hv) (fun b s1 z => ?_) fun ω ω z => z)
 obtain ⟨os1, ρ1, k1, H1, E1⟩ := z
 exact wpAny_pure ⟨_, os1, ρ1, k1, H1, E1, rfl⟩
theorem set_same {os : List AO} {k : Nat} {x : AO} (h : os[k]? = some x) : os.set k x = os := by
 exact X.set_same h
theorem qiw (C : c.Std) {k dn : Nat} {xs : List (List Nat × List Nat)} (y : AccAt os k dn accE (prs xs)) (hl : qg xs ≤ 100000) (hz : xs.length ≤ 100000) (hp : qg xs ≠ 0) (hs : Txt.isspace (S (qa xs)) = false) (hu : AOs.Un os.length os) (h : K (.bool false) os) : CG c (n + 4) (.ref 227) [.ref k] os K := by
 refine wh C.ok (qd0 C.hK) (dargs := []) (fun s G vs hv => ?_) fun L => ?_
 ·obtain ⟨ω, rfl⟩ := len1 hv
  exact (y_ea [] (fun ω ω => rfl) (BindsTo.of_eq rfl))
 show EXs c (n + 3) _ [some (.ref k)] os _ _
 conv => arg 6; whnf
 x_close
 x_close
 refine qs1 ?_
 refine qkt (hm := by with_unfolding_all rfl) ?_
 repeat x_close
 refine qjd C y (by kernel_rfl) (x := .int 0) rfl rfl ?_
 repeat x_close
 refine qjn ?_
 refine qa4 ⟨fun ω => ?_, fun q => (by cases q)⟩
 refine qup ?_
 repeat x_close
 refine qwh ?_
 refine qv8 C y ?_
 refine wk C y hl hu ?_
 refine (qar _ rfl (by simp) (by lia) ?_)
 have e : (((qg xs : Nat) : Int) != 0) = true := by simp; exact hp
 rw [e]
 refine qa4 ⟨fun ω => ?_, fun q => (by cases q)⟩
 repeat x_close
 refine qmo C y ?_
 refine wl C y hl hz hu ?_
 refine (y_ea _ rfl ?_)
 generalize hg : S (qa xs) = g at hs ⊢
 refine (y_ea _ (qft (fun q => GM.isspace q)) ?_)
 refine qds ⟨Kp.builtin, ?_⟩
 refine qfs ?_
 rw [hs]
 exact ⟨os, [], (List.append_nil _).symm, Nat.le_refl _, hu, trivial, h⟩
theorem qiy (C : c.Std) {k dn : Nat} {xs : List AV} (y : AccAt os k dn accE xs) (hl : xs.length ≤ 100000) (hu : AOs.Un os.length os) (h : K .none (os.set k (.acc 238 dn []))) : CG c (n + 1) (.ref 220) [.ref k] os K := by
 have hk := (List.getElem?_eq_some_iff.mp y.1).1
 have hq := hu.at y.1
 refine wh C.ok (qfv C.hK) (dargs := [.none]) (fun s G vs hv => ?_) fun L => ?_
 ·obtain ⟨ω, rfl⟩ := len1 hv
  exact (y_ea [.none] (fun ω ω => ⟨_, _, rfl, rfl, rfl⟩) (binds_K (K := KF c.w.params) (C.kinG G) rfl rfl rfl rfl rfl))
 show EXs c n _ [some (.ref k), some .none] os _ _
 conv => arg 6; whnf
 repeat x_close
 refine qba (b := true) (fun ρ h v r => qb3 r) (y_ea _ rfl ?_)
 refine ⟨fun ω => ?_, fun q => (by cases q)⟩
 repeat x_close
 refine j7 ?_
 repeat x_close
 refine ⟨by simp [sizeLine], ?_⟩
 repeat x_close
 refine ye ?_
 repeat x_close
 have y2 : AccAt (os ++ [.list []]) k dn accE xs := ⟨xf y.1, xf y.2⟩
 refine qcj C (ns := []) (zs := []) y2 (by exact List.getElem?_concat_length) (by assumption) qsy ?_
 repeat x_close
 refine qo C ?_
 repeat x_close
 rw [List.set_append_left _ _ hk]
 have hne : k ≠ dn := fun q => by subst q; have := y.1.symm.trans y.2; cases this
 have y3 : AccAt (os.set k (.acc 238 dn []) ++ [.list []]) k dn accE [] := ⟨xf (by exact List.getElem?_set_self hk), xf (by rw [List.getElem?_set_ne hne]; exact y.2)⟩
 refine (w5 k 238 dn accE rfl zd y3.own y3.2 (by kernel_rfl) (by decide) ?_)
 repeat x_close
 rw [qjq, set_same y3.2]
 refine ⟨os.set k (.acc 238 dn []), [.list []], rfl, by simp, by simpa using AOs.Un_set (o := AO.acc 238 dn []) ⟨hq.1, trivial⟩ hu, trivial, h⟩
theorem qiz (C : c.Std) {k j dn : Nat} {xs ns : List AV} (y : AccAt os k dn accE xs) (hj : os[j]? = some (.list ns)) (hl : xs.length + ns.length ≤ 100000) (hu : AOs.Un os.length os) (h : K .none (os.set k (.acc 238 dn ns))) : CG c (n + 1) (.ref 220) [.ref k, .ref j] os K := by
 have hk := (List.getElem?_eq_some_iff.mp y.1).1
 have hq := hu.at y.1
 have hqj := hu.at hj
 refine wh C.ok (qfv C.hK) (dargs := []) (fun s G vs hv => ?_) fun L => ?_
 ·refine x_e2 (len2 hv) fun ω ω z264y => ?_; subst z264y
  exact (y_ea [] (fun ω ω => rfl) (binds_K (K := KF c.w.params) (C.kinG G) rfl rfl rfl rfl rfl))
 show EXs c n _ [some (.ref k), some (.ref j)] os _ _
 conv => arg 6; whnf
 repeat x_close
 refine qba (b := false) (fun ρ h v r => qlg r) (y_ea _ rfl ?_)
 refine ⟨fun q => (by cases q), fun ω => ?_⟩
 repeat x_close
 refine ye ?_
 repeat x_close
 refine qcj C (zs := ns) y hj hl qsy ?_
 repeat x_close
 refine qo C ?_
 repeat x_close
 have hne : k ≠ dn := fun q => by subst q; have := y.1.symm.trans y.2; cases this
 have y3 : AccAt (os.set k (.acc 238 dn ns)) k dn accE ns := ⟨by exact List.getElem?_set_self hk, by rw [List.getElem?_set_ne hne]; exact y.2⟩
 refine (w5 k 238 dn accE rfl zd y3.own y3.2 (by kernel_rfl) (by decide) ?_)
 repeat x_close
 rw [qjq, set_same y3.2]
 refine ⟨os.set k (.acc 238 dn ns), [], (List.append_nil _).symm, by simp, by simpa using AOs.Un_set (o := AO.acc 238 dn ns) ⟨hq.1, hqj⟩ hu, trivial, h⟩
end
end
section
section
variable {c : CX} {n : Nat} {os : List AO} {K : AV → List AO → Prop} {ρ : List Addr} {s : Shared}
theorem AR.typeCall {A : Around} (h : AR A (n + 1)) (a : Addr) (r : List Value) : AR (A.under (.builtin "type.__call__" ⟨.ref a :: r, []⟩)) n := by
 refine ⟨h.hd, ?_, ?_⟩
 ·have := h.depth; have e := depth_under_kw A a r []; lia
 ·have e : (A.under (.builtin "type.__call__" ⟨.ref a :: r, []⟩)).units = A.units + (Code.builtin "type.__call__" ⟨.ref a :: r, []⟩).cUnits := rfl
  have e2 : (Code.builtin "type.__call__" ⟨.ref a :: r, []⟩).cUnits ≤ 10 := by
   have : (Code.builtin "type.__call__" ⟨.ref a :: r, []⟩).cUnits = 1 := by kernel_rfl
   exact Nat.le_of_ble_eq_true rfl
  have := h.units; lia
theorem qpu {os : List AO} {ao : AO} {s : Shared} {ob : Obj} (H : c.HR ρ os s) (hob : ∀ h' ρ', (h'.get? (s.heap.objs.size + 1) = some ob) → ρ'[os.length]? = some s.heap.objs.size → OR c.w ρ' h' (s.heap.objs.size + 1) ao) (hf : ob.isFreed = false) :
  c.HR (ρ ++ [s.heap.objs.size] ++ [s.heap.objs.size + 1]) (os ++ [.dict []] ++ [ao]) { s with heap := (s.heap.push emptyDict).push ob } ∧ Ext c.tabs [] ρ s (ρ ++ [s.heap.objs.size] ++ [s.heap.objs.size + 1]) { s with heap := (s.heap.push emptyDict).push ob } := by
 have kp := qf (h := s.heap) (ob := emptyDict)
 have H1 : c.HR (ρ ++ [s.heap.objs.size]) (os ++ [.dict []]) { s with heap := s.heap.push emptyDict } := H.alloc (d := s.drawn) (tk := s.toks) H.gi.bare (Nat.le_refl _) kp qe (Nat.le_refl _) ⟨[], 0, Heap.get?_push_size _ rfl, rfl⟩
 have E1 : Ext c.tabs [] ρ s (ρ ++ [s.heap.objs.size]) { s with heap := s.heap.push emptyDict } := Ext.alloc (d := s.drawn) kp qe (Nat.le_refl _)
 have hsz : (s.heap.push emptyDict).objs.size = s.heap.objs.size + 1 := Heap.size_push ..
 have kp2 := qf (h := s.heap.push emptyDict) (ob := ob)
 have hl := H.len
 have hg : ((s.heap.push emptyDict).push ob).get? (s.heap.objs.size + 1) = some ob := by rw [← hsz]; exact Heap.get?_push_size _ hf
 exact ⟨H1.alloc (d := s.drawn) (tk := s.toks) H1.gi.bare (Nat.le_refl _) kp2 qe (Nat.le_of_eq hsz) (hob _ _ hg (by simp [← hl])), E1.trans (Ext.alloc (d := s.drawn) kp2 qe (Nat.le_of_eq hsz))⟩
theorem qvp (C : c.Std) {args : List AV} (h : CGc c n (.ref 95) (.ref (os.length + 1) :: args) (os ++ [.dict [], .inst 154 os.length]) fun a o => a = .none ∧ K (.ref (os.length + 1)) o) : CG c (n + 1) (.ref 154) args os K := fun A hA ρ s vs H V => by
 have X := C.kin H
 obtain ⟨H2, E2⟩ := qpu (ao := .inst 154 os.length) (ob := instObj 154 s.heap.objs.size) H (fun h' ρ' e e' => ⟨_, e', e⟩) rfl
 have hlen : ρ.length = os.length := H.len
 have hat : (ρ ++ [s.heap.objs.size] ++ [s.heap.objs.size + 1])[os.length + 1]? = some (s.heap.objs.size + 1) := by rw [← hlen]; simp
 have go := h _ (hA.typeCall 154 vs) _ _ (.ref (s.heap.objs.size + 1) :: vs) (by simpa using H2) ⟨_, _, rfl, ⟨_, hat, rfl⟩, VRs.impN E2.pre E2.new (H.tups E2 fun ω h => nomatch h) _ _ V⟩
 refine wpAny_call ?_
 obtain ⟨hh, g, d, t, oss⟩ := s
 refine make_core (init := .ref 95) (makes_of X (by kernel_rfl)) (looks_findIn X (by kernel_rfl)) (fun self => bind_fn X self (by kernel_rfl)) (.inl rfl) ?_
 refine codeAny_mono go fun r s' z => ?_
 rcases r with er | (v | _ | _ | _) <;> first | exact z.elim | skip
 obtain ⟨ω, os1, ρ1, ⟨rfl, k⟩, H1, E1, r1⟩ := z
 exact ⟨r1, _, os1, ρ1, k, H1, E2.trans E1, _, yb E1.pre hat, rfl⟩
theorem qvq (C : c.Std) (hu : AOs.Un os.length os) (h : K (.ref (os.length + 1)) (os ++ [.dict accE, .acc 238 os.length []])) : CG c (n + 2) (.ref 238) [.int 0] os K := fun A hA ρ s vs H V => by
 have X := C.kin H
 refine q9 (wo V) fun tk r z265y V1 => ?_; subst z265y
 obtain rfl := q0 V1
 obtain ⟨H2, E2⟩ := qpu (ao := .acc 238 os.length []) (ob := xl 238 s.heap.objs.size [] 0) H (fun h' ρ' e e' => ⟨_, [], 0, e', e, rfl⟩) rfl
 have hlen : ρ.length = os.length := H.len
 have hat : (ρ ++ [s.heap.objs.size] ++ [s.heap.objs.size + 1])[os.length + 1]? = some (s.heap.objs.size + 1) := by rw [← hlen]; simp
 have hu2 : AOs.Un (os ++ [AO.dict [], AO.acc 238 os.length []]).length (os ++ [.dict [], .acc 238 os.length []]) := by
  refine AOs.Un_app.mpr ⟨AOs.Un.le (by simp) _ hu, trivial, ⟨by simp, trivial⟩, trivial⟩
 have y : AccAt (os ++ [.dict [], .acc 238 os.length []]) (os.length + 1) os.length [] [] := ⟨by simp, by simp⟩
 have go := qd3 (n := n) (K := fun a o => a = .none ∧ K (.ref (os.length + 1)) o) C y hu2 ⟨rfl, by simpa using h⟩ _ (hA.typeCall 238 [.int 0 tk]) _ _ [.ref (s.heap.objs.size + 1), .int 0 tk] (by simpa using H2) ⟨_, _, rfl, ⟨_, hat, rfl⟩, _, _, rfl, ⟨tk, rfl⟩, rfl⟩
 refine wpAny_call ?_
 obtain ⟨hh, g, d, t, oss⟩ := s
 refine qrj X ?_
 refine codeAny_mono go fun r s' z => ?_
 rcases r with er | (v | _ | _ | _) <;> first | exact z.elim | skip
 obtain ⟨ω, os1, ρ1, ⟨rfl, k⟩, H1, E1, r1⟩ := z
 exact ⟨r1, _, os1, ρ1, k, H1, E2.trans E1, _, yb E1.pre hat, rfl⟩
end
end
section
noncomputable abbrev vfE (m : Int) (ws sc : Str) (l a : Nat) : List (Str × AV) := [("_maxlen", .int m), ("_continuation_ws", .str ws), ("_continuation_ws_len", .int ws.length), ("_splitchars", .str sc), ("_lines", .ref l), ("_current_line", .ref a)]
section
variable {c : CX} {n : Nat} {os : List AO} {K : AV → List AO → Prop} {ρ : List Addr} {s : Shared}
theorem ua {x : Str} {a : AV} : ∀ {es : List (Str × AV)}, es.lookup x = none → putE x a es = es ++ [(x, a)]
 | [], _ => rfl
 | (k, b) :: r, h => by
  simp only [List.lookup] at h
  split at h
  ·cases h
  ·rename_i hk
   have : (k == x) = false := by
    have := beq_eq_false_iff_ne.mp hk
    exact beq_eq_false_iff_ne.mpr fun z => this z.symm
   unfold putE
   rw [this]
   rw [if_neg (by exact Bool.false_ne_true)]
   rw [ua h]; rfl
set_option maxHeartbeats 1000000 in
theorem qhm (C : c.Std) {m : Int} {ws sc : Str} {b : Nat} (hb : os.length = b) (hw : ws.length ≤ 1000) (hu : AOs.Un os.length os) (h : K .none (os ++ [.dict (vfE m ws sc (b + 2) (b + 4)), .inst 154 b, .list [], .dict accE, .acc 238 (b + 3) []])) :
  CGc c (n + 4) (.ref 95) [.ref (b + 1), .int 0, .int m, .str ws, .str sc] (os ++ [.dict [], .inst 154 b]) K := by
 have hsl : sizeLine = 16777216 := rfl
 refine qmd C.ok (qkw C.hK) (dargs := []) (fun s G vs hv => ?_) fun L => ?_
 ·refine x_e5 (len5 hv) fun ω ω ω ω ω z266y => ?_; subst z266y
  exact (y_ea [] (fun ω ω => rfl) (BindsTo.of_eq rfl))
 show EXs c (n + 3) _ [some (.ref (b + 1)), some (.int 0), some (.int m), some (.str ws), some (.str sc)] _ _ _
 conv => arg 6; whnf
 subst hb
 have at0 : ∀ (e : List (Str × AV)) (r : List AO), Own (os ++ .dict e :: .inst 154 os.length :: r) (os.length + 1) 154 os.length ∧ (os ++ .dict e :: .inst 154 os.length :: r)[os.length]? = some (.dict e) ∧ ∀ x, (os ++ .dict e :: .inst 154 os.length :: r).set os.length x = os ++ x :: .inst 154 os.length :: r := fun e r => (y_a2 (.inl (by simp)) (by simp) (fun x => by simp))
 x_close
 refine qo C ?_
 repeat x_close
 refine (w5 _ 154 os.length [] rfl uk ((at0 _ _).1) ((at0 _ _).2.1) (by kernel_rfl) (by simp) ?_)
 rw [(at0 _ _).2.2, ua (by rfl)]
 repeat x_close
 refine qo C ?_
 repeat x_close
 refine (w5 _ 154 os.length _ rfl uk ((at0 _ _).1) ((at0 _ _).2.1) (by kernel_rfl) (by simp) ?_)
 rw [(at0 _ _).2.2, ua (by rfl)]
 repeat x_close
 refine qo C ?_
 repeat x_close
 refine uf (by lia) ?_
 repeat x_close
 refine (w5 _ 154 os.length _ rfl uk ((at0 _ _).1) ((at0 _ _).2.1) (by kernel_rfl) (by simp) ?_)
 rw [(at0 _ _).2.2, ua (by rfl)]
 repeat x_close
 refine qo C ?_
 repeat x_close
 refine (w5 _ 154 os.length _ rfl uk ((at0 _ _).1) ((at0 _ _).2.1) (by kernel_rfl) (by simp) ?_)
 rw [(at0 _ _).2.2, ua (by rfl)]
 repeat x_close
 refine qo C ?_
 refine j7 ?_
 repeat x_close
 refine ⟨by simp [sizeLine], ?_⟩
 repeat x_close
 simp only [List.append_assoc, List.cons_append, List.nil_append, List.length_append, List.length_cons, List.length_nil]
 refine (w5 _ 154 os.length _ rfl uk ((at0 _ _).1) ((at0 _ _).2.1) (by kernel_rfl) (by simp) ?_)
 rw [(at0 _ _).2.2, ua (by rfl)]
 repeat x_close
 refine qo C ?_
 repeat x_close
 refine qvq C ?_ ?_
 ·simp only [List.length_append, List.length_cons, List.length_nil]
  exact AOs.Un_app.mpr ⟨AOs.Un.le (by exact Nat.le_add_right os.length (0 + 1 + 1 + 1)) _ hu, ⟨trivial, trivial, trivial, trivial, by simp [zi, zj, zk, zm, zo, zp, zq], trivial⟩, by simp [qhp, qhq, qhr, qhs, qht, qhu, qhv], trivial, trivial⟩
 repeat x_close
 simp only [List.append_assoc, List.cons_append, List.nil_append, List.length_append, List.length_cons, List.length_nil]
 refine (w5 _ 154 os.length _ rfl uk ((at0 _ _).1) ((at0 _ _).2.1) (by kernel_rfl) (by simp) ?_)
 rw [(at0 _ _).2.2, ua (by rfl)]
 repeat x_close
 refine ⟨_, [], (List.append_nil _).symm, by simp, ?_, trivial, h⟩
 simp only [List.length_append, List.length_cons, List.length_nil]
 exact AOs.Un_app.mpr ⟨AOs.Un.le (by exact Nat.le_add_right os.length (0 + 1 + 1 + 1 + 1 + 1)) _ hu, ⟨trivial, trivial, trivial, trivial, by simp [zi, zj, zk, zm, zo, zp, zq], by simp [zi, zj, zk, zm, zo, zp, zq], trivial⟩, by simp [qhp, qhq, qhr, qhs, qht, qhu, qhv], trivial, ⟨trivial, trivial⟩, ⟨by simp, trivial⟩, trivial⟩
theorem qss (C : c.Std) {m : Int} {ws sc : Str} (hw : ws.length ≤ 1000) (hu : AOs.Un os.length os) (h : K (.ref (os.length + 1)) (os ++ [.dict (vfE m ws sc (os.length + 2) (os.length + 4)), .inst 154 os.length, .list [], .dict accE, .acc 238 (os.length + 3) []])) :
  CG c (n + 5) (.ref 154) [.int 0, .int m, .str ws, .str sc] os K := qvp C (qhm C rfl hw hu ⟨rfl, h⟩)
end
end
section
structure VFat (os : List AO) (k dn l a d : Nat) (m : Int) (ws sc : Str) (lines : List (List Nat)) (cur : List (List Nat × List Nat)) : Prop where
 k_ : os[k]? = some (.inst 154 dn)
 dn_ : os[dn]? = some (.dict (vfE m ws sc l a))
 l_ : os[l]? = some (.list (sls lines))
 acc : AccAt os a d accE (prs cur)
section
variable {c : CX} {n : Nat} {os : List AO} {K : AV → List AO → Prop} {ρ : List Addr} {s : Shared} {k dn l a d : Nat} {m : Int} {ws sc : Str} {lines : List (List Nat)} {cur : List (List Nat × List Nat)}
theorem VFat.ne (V : VFat os k dn l a d m ws sc lines cur) : l ≠ a ∧ l ≠ d ∧ l ≠ dn ∧ l ≠ k ∧ a ≠ d ∧ a ≠ dn ∧ a ≠ k ∧ d ≠ dn ∧ d ≠ k ∧ dn ≠ k := by
 have h1 := V.k_; have h2 := V.dn_; have h3 := V.l_; have h4 := V.acc.1; have h5 := V.acc.2
 refine (y_a5 ?_ ?_ ?_ ?_ ?_ (y_a4 ?_ ?_ ?_ ?_ ?_)) <;> (rintro rfl; simp_all)
theorem VFat.setA (V : VFat os k dn l a d m ws sc lines cur) (cur' : List (List Nat × List Nat)) : VFat (os.set a (.acc 238 d (prs cur'))) k dn l a d m ws sc lines cur' := by
 refine x_a5 V.ne fun h1 h2 h3 h4 h5 z268y => ?_; refine x_a4 z268y fun h6 h7 h8 h9 h10 => ?_; clear z268y
 have hl := (List.getElem?_eq_some_iff.mp V.acc.1).1
 exact ⟨by rw [List.getElem?_set_ne h7]; exact V.k_, by rw [List.getElem?_set_ne h6]; exact V.dn_, by rw [List.getElem?_set_ne h1.symm]; exact V.l_, by exact List.getElem?_set_self hl, by rw [List.getElem?_set_ne h5]; exact V.acc.2⟩
theorem VFat.setL (V : VFat os k dn l a d m ws sc lines cur) (lines' : List (List Nat)) : VFat (os.set l (.list (sls lines'))) k dn l a d m ws sc lines' cur := by
 refine x_a5 V.ne fun h1 h2 h3 h4 h5 z267y => ?_; refine x_a4 z267y fun h6 h7 h8 h9 h10 => ?_; clear z267y
 have hl := (List.getElem?_eq_some_iff.mp V.l_).1
 exact ⟨by rw [List.getElem?_set_ne h4]; exact V.k_, by rw [List.getElem?_set_ne h3]; exact V.dn_, by exact List.getElem?_set_self hl, by rw [List.getElem?_set_ne h1]; exact V.acc.1, by rw [List.getElem?_set_ne h2]; exact V.acc.2⟩
theorem VFat.app (V : VFat os k dn l a d m ws sc lines cur) (g : List AO) : VFat (os ++ g) k dn l a d m ws sc lines cur := ⟨xf V.k_, xf V.dn_, xf V.l_, xf V.acc.1, xf V.acc.2⟩
theorem qqv (C : c.Std) (V : VFat os k dn l a d m ws sc lines cur) {name : Str} {x : AV} (hn : findIn (KF c.w.params) (.ref 154) name = some none) (hx : (vfE m ws sc l a).lookup name = some x) (hp : x.plain = true) (h : K x os) : TV1 c n (fun v => getAttr v name true) (.ref k) os K :=
 qum C (.inl V.k_) V.dn_ hn hx hp h
theorem wj (C : c.Std) (V : VFat os k dn l a d m ws sc lines cur) (h : K (.ref a) os) : TV1 c n (fun v => getAttr v "_current_line" true) (.ref k) os K := qqv C V (by kernel_rfl) (by rfl) rfl h
theorem qie (C : c.Std) (V : VFat os k dn l a d m ws sc lines cur) (h : K (.ref l) os) : TV1 c n (fun v => getAttr v "_lines" true) (.ref k) os K := qqv C V (by kernel_rfl) (by rfl) rfl h
theorem qwi (C : c.Std) (V : VFat os k dn l a d m ws sc lines cur) (h : K (.int m) os) : TV1 c n (fun v => getAttr v "_maxlen" true) (.ref k) os K := qqv C V (by kernel_rfl) (by rfl) rfl h
theorem qm7 (C : c.Std) (V : VFat os k dn l a d m ws sc lines cur) (h : K (.str sc) os) : TV1 c n (fun v => getAttr v "_splitchars" true) (.ref k) os K := qqv C V (by kernel_rfl) (by rfl) rfl h
theorem V_fn (C : c.Std) (V : VFat os k dn l a d m ws sc lines cur) {f : Addr} {name : Str} (hn : findIn (KF c.w.params) (.ref 154) name = some (some (.ref f))) (ht : typeIn (KF c.w.params) (.ref f) = some (.type "function")) (hx : (vfE m ws sc l a).lookup name = none) : je c os (.ref k) name (.ref f) :=
 M_fn C uk (.inl V.k_) V.dn_ hn ht hx
theorem qe3 (xs : List (List Nat × List Nat)) (f p : List Nat) : prs (xs ++ [(f, p)]) = prs xs ++ [.tup [.str (S f), .str (S p)]] := by simp
theorem qcb {j : Nat} : ∀ (xs : List (List Nat × List Nat)), AVs.Un j (prs xs)
 | [] => trivial
 | x :: xs => ⟨⟨trivial, trivial, trivial⟩, qcb xs⟩
theorem zy (xs : List (List Nat × List Nat)) (f p : List Nat) : qg (xs ++ [(f, p)]) = qg xs + (f.length + p.length) := by simp [qg]
theorem d_lt (V : VFat os k dn l a d m ws sc lines cur) : d < os.length := (List.getElem?_eq_some_iff.mp V.acc.2).1
set_option maxHeartbeats 1000000 in
theorem qg4 (C : c.Std) {cs : List (List Nat × List Nat)} {f p : List Nat} (V : VFat os k dn l a d m ws sc lines (cs ++ [(f, p)])) (hfa : asc f) (hpa : asc p) (hne : p ≠ []) (hz : cs.length ≤ 10000) (hlz : lines.length ≤ 10000)
  (hl : qg (cs ++ [(f, p)]) ≤ 100000) (hs : Txt.isspace (S (qa (cs ++ [(f, p)]))) = false) (hu : AOs.Un os.length os)
  (h : K .none ((os.set l (.list (sls (lines ++ [qa (cs ++ [(f, p)])])))).set a (.acc 238 d []))) : CG c (n + 6) (.ref 116) [.ref k] os K := by
 have hsl : sizeLine = 16777216 := rfl
 have hal := (List.getElem?_eq_some_iff.mp V.acc.1).1
 refine wh C.ok (qh9 C.hK) (dargs := []) (fun s G vs hv => ?_) fun L => ?_
 ·obtain ⟨ω, rfl⟩ := len1 hv
  exact (y_ea [] (fun ω ω => rfl) (BindsTo.of_eq rfl))
 show EXs c (n + 5) _ [some (.ref k), none] os _ _
 conv => arg 6; whnf
 repeat x_close
 refine wj C V ?_
 refine (y_ea _ (qjl C V.acc) ?_)
 repeat x_close
 refine qas (xs := prs cs) C (by rw [← qe3]; exact V.acc) (by simp; lia) hu ?_
 have V1 := V.setA cs
 have hu1 : AOs.Un (os.set a (.acc 238 d (prs cs))).length (os.set a (.acc 238 d (prs cs))) := by
  rw [List.length_set]; exact AOs.Un_set (o := AO.acc 238 d (prs cs)) ⟨d_lt V, qcb cs⟩ hu
 repeat x_close
 refine zu ?_
 repeat x_close
 refine ⟨by decide, ?_⟩
 refine uh (.tup (.cons (.str _) (.cons (.str _) .nil))) (.tup (.cons (.str _) (.cons (.str _) .nil))) ?_ (by decide +kernel) (y_ea _ rfl ?_)
 ·simp [SeqAt.shaped, PyData.canLay0, PyData.canLayAll0, PyData.depth, PyData.depthAll, qi3 hfa, qi3 hpa]
 have hb : (!PyData.eqv (.tuple [.str (S f), .str (S p)]) (.tuple [.str (Str.ofString " "), .str (Str.ofString "")])) = true := by
  have h2 : (S p == Str.ofString "") = false := by
   rw [show Str.ofString "" = S [] from rfl, qfz]; exact beq_false_of_ne hne
  simp only [PyData.eqv, PyData.eqvAll, h2, Bool.and_true, Bool.and_false, Bool.false_and, Bool.not_false]
 rw [hb]
 refine ⟨fun ω => ?_, fun q => (by cases q)⟩
 repeat x_close
 refine qhy C ?_
 repeat x_close
 refine wj C V1 ?_
 refine (u7 a d (prs cs) rfl V1.acc ?_)
 repeat x_close
 refine ⟨by simp, ?_⟩
 refine qdo C V1.acc (by simp; lia) hu1 ?_
 rw [List.set_set, ← qe3, set_same V.acc.1]
 repeat x_close
 refine wj C V ?_
 repeat x_close
 refine qr9 C V.acc ?_
 refine wk C V.acc hl hu ?_
 refine (qar _ rfl (by simp) (by lia) ?_)
 repeat x_close
 refine ⟨fun ω => ?_, fun q => ?_⟩
 rotate_left
 ·have := zy cs f p
  have : 0 < p.length := List.length_pos_iff.mpr hne
  simp at q; lia
 repeat x_close
 refine wj C V ?_
 refine (y_ea _ (qqg C V.acc) ?_)
 repeat x_close
 have hpos : qg (cs ++ [(f, p)]) ≠ 0 := by
  have := zy cs f p
  have : 0 < p.length := List.length_pos_iff.mpr hne
  lia
 refine qiw C V.acc hl (by simp; lia) hpos hs hu ?_
 refine qa4 ⟨fun q => (by cases q), fun ω => ⟨fun q => (by cases q), fun ω => ?_⟩⟩
 repeat x_close
 refine qie C V ?_
 refine (y_ea _ (ug ⟨sls lines, V.l_⟩) ?_)
 repeat x_close
 refine wj C V ?_
 repeat x_close
 refine qmo C V.acc ?_
 refine wl C V.acc hl (by simp; lia) hu ?_
 refine (y_ea _ rfl ?_)
 repeat x_close
 refine zx (xs := sls lines) V.l_ (by simp; lia) ?_
 have e3 : sls lines ++ [.str (S (qa (cs ++ [(f, p)])))] = sls (lines ++ [qa (cs ++ [(f, p)])]) := by simp
 rw [e3]
 have V2 := V.setL (lines ++ [qa (cs ++ [(f, p)])])
 have hu2 : AOs.Un os.length (os.set l (.list (sls (lines ++ [qa (cs ++ [(f, p)])])))) := AOs.Un_set (o := AO.list (sls (lines ++ [qa (cs ++ [(f, p)])]))) (jf _) hu
 repeat x_close
 refine wj C V2 ?_
 refine (y_ea _ (qms C V2.acc) ?_)
 repeat x_close
 refine qiy C V2.acc (by simp; lia) (by simpa using hu2) ?_
 repeat x_close
 refine ⟨_, [], (List.append_nil _).symm, by simp, ?_, trivial, h⟩
 simp only [List.length_set]
 exact AOs.Un_set (o := AO.acc 238 d []) ⟨d_lt V, trivial⟩ hu2
end
end
section
section
variable {c : CX} {n : Nat} {os : List AO} {K : AV → List AO → Prop} {ρ : List Addr} {s : Shared} {k dn l a d : Nat} {m : Int} {ws : Str} {lines : List (List Nat)} {cur : List (List Nat × List Nat)}
noncomputable abbrev chs : List Nat := [59, 44, 32, 9]
noncomputable abbrev SC : Str := ";, \t"
theorem qwg : SC = S chs := by rfl
theorem qng {ch : Nat} (h : ch ∈ chs) : Txt.isspace (S [ch]) = (ch == 32 || ch == 9) := by
 simp only [chs, List.mem_cons, List.mem_nil_iff, or_false] at h
 rcases h with rfl | rfl | rfl | rfl <;> decide +kernel
theorem qgq {x : Nat} {r : List Nat} : (seqIndex? 0 (S (x :: r)).length).bind ((S (x :: r)).cps[·]?) = some x := by
 rw [qof (by exact Int.zero_le_ofNat 0) (by exact Int.ofNat_succ_pos r.length)]; rfl
theorem qrc {x : Nat} {r : List Nat} : (seqIndex? (-1) (S (r ++ [x])).length).bind ((S (r ++ [x])).cps[·]?) = some x := by
 rw [seqIndex_neg (by decide) (by rw [jb]; simp; exact (fun a b => (Z.leB_iff a b).mp) 1 (↑r.length + 1) rfl), jb]
 have : (-1 + ((r ++ [x]).length : Int)).toNat = r.length := by simp; lia
 rw [this]; simp [S]
theorem qm9 {xs : List (List Nat × List Nat)} {i : Nat} {q : List Nat × List Nat} (h : xs[i]? = some q) : q.1.length + q.2.length ≤ qg xs := by
 induction xs generalizing i with
 | nil => simp at h
 | cons x xs ih =>
  cases i with
  | zero => simp at h; subst h; exact Nat.le.intro rfl
  | succ i => have := ih (i := i) (by simpa using h); simp [qg] at this ⊢; exact Nat.le_add_left_of_le (ih h)
theorem qf9 (L : Nat) : Builtin.Range.rangeSize (L : Int) 0 (-1) = (L : Int) := by
 rw [qpj]; split <;> lia
theorem um {L i : Nat} {x : AV} (h : (if (i : Int) < Builtin.Range.rangeSize (L : Nat) 0 (-1) then some (AV.int ((L : Nat) + i * -1)) else none) = some x) : ∃ v : Nat, v + i = L ∧ 1 ≤ v ∧ v ≤ L ∧ x = .int v := by
 rw [qf9] at h
 by_cases hi : (i : Int) < (L : Int)
 ·rw [if_pos hi] at h
  injection h with h
  exact ⟨L - i, by lia, by lia, by simp, by lia⟩
 ·rw [if_neg hi] at h; cases h
theorem qf8 {L i : Nat} (h : (if (i : Int) < Builtin.Range.rangeSize (L : Nat) 0 (-1) then some (AV.int ((L : Nat) + i * -1)) else none) = none) : L ≤ i := by
 rw [qf9] at h
 by_cases hi : (i : Int) < (L : Int)
 ·rw [if_pos hi] at h; cases h
 ·lia
set_option maxHeartbeats 2000000 in
theorem qac (C : c.Std) (V : VFat os k dn l a d m ws SC lines cur) {f p : List Nat} {w : Nat} (hw : w = 32 ∨ w = 9) (hz : cur.length ≤ 10000) (hlz : lines.length ≤ 10000) (hl : qg (cur ++ [(f, p)]) ≤ 100000) (hu : AOs.Un os.length os)
  (hF : ∀ v, 1 ≤ v → v ≤ cur.length → ∃ q, (cur ++ [(f, p)])[v]? = some q ∧ q.1 = [w]) (hP : ∀ v, v < cur.length → ∃ q, (cur ++ [(f, p)])[v]? = some q ∧ ∀ x ∈ chs, q.2.getLast? ≠ some x)
  (h1 : (qg (cur ++ [(f, p)]) : Int) ≤ m ∨ cur = [] → K .none (os.set a (.acc 238 d (prs (cur ++ [(f, p)])))))
  (h2 : ¬ (qg (cur ++ [(f, p)]) : Int) ≤ m → cur ≠ [] → K .none ((os.set l (.list (sls (lines ++ [qa cur])))).set a (.acc 238 d (prs [(f, p)])))) : CG c (n + 6) (.ref 151) [.ref k, .str (S f), .str (S p)] os K := by
 have hsl : sizeLine = 16777216 := rfl
 have V1 := V.setA (cur ++ [(f, p)])
 have hu1 : AOs.Un os.length (os.set a (.acc 238 d (prs (cur ++ [(f, p)])))) := AOs.Un_set (o := AO.acc 238 d (prs (cur ++ [(f, p)]))) ⟨d_lt V, qcb _⟩ hu
 have hlen1 : (os.set a (.acc 238 d (prs (cur ++ [(f, p)])))).length = os.length := by exact List.length_set
 have back1 : os.set a (.acc 238 d (prs (cur ++ [(f, p)]))) = os.set a (.acc 238 d (prs (cur ++ [(f, p)]))) := rfl
 refine wh C.ok (qaa C.hK) (dargs := []) (fun s G vs hv => ?_) fun L => ?_
 ·refine x_e3 (len3 hv) fun ω ω ω z208y => ?_; subst z208y
  exact ⟨[], fun ω ω => rfl, BindsTo.of_eq rfl⟩
 show EXs c (n + 5) _ [some (.ref k), some (.str (S f)), some (.str (S p)), none, none, none, none, none] os _ _
 conv => arg 6; whnf
 repeat x_close
 refine wj C V ?_
 refine ⟨_, qsc C V.acc, ?_⟩
 repeat x_close
 refine qha C V.acc (by simp; lia) hu ?_
 rw [← qe3]
 generalize hos1 : os.set a (.acc 238 d (prs (cur ++ [(f, p)]))) = os1 at V1 hu1 hlen1 h1
 repeat x_close
 refine wj C V1 ?_
 repeat x_close
 refine qr9 C V1.acc ?_
 refine wk C V1.acc hl (by rw [hlen1]; exact hu1) ?_
 refine ⟨_, rfl, by simp, by lia, ?_⟩
 repeat x_close
 refine qwi C V1 ?_
 repeat x_close
 refine ⟨fun hgt => ?_, fun hle => ?_⟩
 rotate_left
 ·have hle' : (qg (cur ++ [(f, p)]) : Int) ≤ m := by simpa using hle
  repeat x_close
  exact ⟨os1, [], (List.append_nil _).symm, by exact Nat.le_of_eq (id (Eq.symm hlen1)), by rw [hlen1]; exact hu1, trivial, h1 (.inl hle')⟩
 have hgt' : ¬ (qg (cur ++ [(f, p)]) : Int) ≤ m := by simpa using hgt
 x_close
 refine EX.mono (K := fun fl l o => os1 = o ∧ ((fl = .ret .none ∧ cur = []) ∨ (fl = .next ∧ cur ≠ [] ∧ ∃ fx cx px, l = [some (.ref k), fx, some (.str (S p)), cx, some (.int (cur.length : Nat)), px, none, none]))) ?_ ?_
 rotate_left
 ·rintro fl l o q88x; obtain ⟨rfl, ⟨rfl, hc⟩ | ⟨rfl, hc, fx, cx, px, rfl⟩⟩ := q88x
  ·exact ⟨os1, [], (List.append_nil _).symm, by exact Nat.le_of_eq (id (Eq.symm hlen1)), by rw [hlen1]; exact hu1, trivial, h1 (.inr hc)⟩
  ·dsimp only [Then]
   repeat x_close
   refine wj C V1 ?_
   refine ⟨_, qmr C V1.acc, ?_⟩
   repeat x_close
   refine qe2 C V1.acc (by simp; lia) (by rw [hlen1]; exact hu1) ?_
   have t1 : (prs (cur ++ [(f, p)])).take cur.length = prs cur := by simp
   have t2 : (prs (cur ++ [(f, p)])).drop cur.length = prs [(f, p)] := by simp
   rw [t1, t2, hlen1]
   have V2 := (V1.setA cur).app [AO.list (prs [(f, p)])]
   have hu2 : AOs.Un (os1.set a (.acc 238 d (prs cur)) ++ [AO.list (prs [(f, p)])]).length (os1.set a (.acc 238 d (prs cur)) ++ [AO.list (prs [(f, p)])]) := by
    have q1 : AOs.Un os.length (os1.set a (.acc 238 d (prs cur))) := AOs.Un_set (o := AO.acc 238 d (prs cur)) ⟨d_lt V, qcb cur⟩ hu1
    refine AOs.Un.le (by simp [hlen1]) _ (AOs.Un_app.mpr ⟨q1, qcb [(f, p)], trivial⟩)
   have hj2 : (os1.set a (.acc 238 d (prs cur)) ++ [AO.list (prs [(f, p)])])[os.length]? = some (.list (prs [(f, p)])) := by
    rw [List.getElem?_append_right (by simp [hlen1])]; simp [hlen1]
   generalize ho2 : os1.set a (.acc 238 d (prs cur)) ++ [AO.list (prs [(f, p)])] = os2 at V2 hu2 hj2 ⊢
   repeat x_close
   refine qie C V2 ?_
   refine ⟨_, ug ⟨sls lines, V2.l_⟩, ?_⟩
   repeat x_close
   refine wj C V2 ?_
   repeat x_close
   refine qmo C V2.acc ?_
   have hlc := zy cur f p
   refine wl C V2.acc (by lia) (by lia) hu2 ?_
   refine ⟨_, rfl, ?_⟩
   repeat x_close
   refine zx (xs := sls lines) V2.l_ (by simp; lia) ?_
   have e3 : sls lines ++ [.str (S (qa cur))] = sls (lines ++ [qa cur]) := by simp
   rw [e3]
   have V3 := V2.setL (lines ++ [qa cur])
   have hu3 : AOs.Un os2.length (os2.set l (.list (sls (lines ++ [qa cur])))) := AOs.Un_set (o := AO.list (sls (lines ++ [qa cur]))) (jf _) hu2
   have hj3 : (os2.set l (.list (sls (lines ++ [qa cur]))))[os.length]? = some (.list (prs [(f, p)])) := by
    rw [List.getElem?_set_ne]; exact hj2
    have := (List.getElem?_eq_some_iff.mp V.l_).1
    exact Nat.ne_of_lt this
   repeat x_close
   refine wj C V3 ?_
   refine ⟨_, qms C V3.acc, ?_⟩
   repeat x_close
   refine qiz C V3.acc hj3 (by simp; lia) (by simpa using hu3) ?_
   repeat x_close
   refine x_a5 V.ne fun v1 v2 v3 v4 v5 ω => ?_
   have hl_ := (List.getElem?_eq_some_iff.mp V.l_).1
   have ha_ := (List.getElem?_eq_some_iff.mp V.acc.1).1
   refine ⟨(os.set l (.list (sls (lines ++ [qa cur])))).set a (.acc 238 d (prs [(f, p)])), [AO.list (prs [(f, p)])], ?_, by simp, ?_, trivial, h2 hgt' hc⟩
   ·rw [← ho2, ← hos1, List.set_set, List.set_append_left _ _ (by simpa using hl_), List.set_append_left _ _ (by simpa using ha_), List.set_comm _ _ v1.symm, List.set_set]
   ·simp only [List.length_set]
    exact AOs.Un_set (o := AO.acc 238 d (prs [(f, p)])) ⟨d_lt V, qcb _⟩ (AOs.Un_set (o := AO.list (sls (lines ++ [qa cur]))) (jf _) hu)
 refine qc9 ?_
 repeat x_close
 refine qm7 C V1 ?_
 refine ⟨_, 4, fun j lc o => os1 = o ∧ (∃ fx cx ix px, lc = [some (.ref k), fx, some (.str (S p)), cx, ix, px, none, none]) ∧ ∀ j', j' < j → chs[j']? = some w → cur = [], ⟨rfl, ⟨_, _, _, _, rfl⟩, fun j' h => absurd h (Nat.not_lt_zero _)⟩, ?_, qrd (x := SC) (by decide +kernel) (fun it v => rfl), ?_, ?_⟩
 ·intro i x hx
  cases hq : SC.cps[i]? with
  | none => rw [hq] at hx; cases hx
  | some y => exact (List.getElem?_eq_some_iff.mp (show (SC.cps.toList)[i]? = some y by simpa using hq)).1
 ·rintro i x lc o q89x; refine x_a2 q89x fun z206y z207y hj => ?_; clear q89x; subst z206y; obtain ⟨fx, cx, ix, px, rfl⟩ := z207y; rintro hX
  obtain ⟨ch, hch, rfl⟩ : ∃ ch, chs[i]? = some ch ∧ x = .str (S [ch]) := by
   have hX' : (SC.cps[i]?).map (fun c => AV.str ⟨#[c]⟩) = some x := hX
   rw [qwg] at hX'
   cases hq : chs[i]? with
   | none => simp [S, hq] at hX'
   | some y => exact ⟨y, rfl, by simp [S, hq] at hX'; exact hX'.symm⟩
  have hmem : ch ∈ chs := List.mem_of_getElem? hch
  have hsp := qng hmem
  have hcw : (S [w] == S [ch]) = decide (w = ch) := by rw [qfz]; by_cases q : w = ch <;> simp [q]
  have hcx : ∀ r : List Nat, r.getLast? ≠ some ch → ∀ x : Nat, r.getLast? = some x → (S [x] == S [ch]) = false := fun r hr x hx => by
   rw [qfz]; simp; rintro rfl; exact hr hx
  generalize S [ch] = chS at hsp hcw hcx ⊢
  refine xt (by k_updF) ?_
  x_close
  refine qc9 ?_
  repeat x_close
  refine wj C V1 ?_
  refine ⟨_, qh6 C V1.acc, ?_⟩
  repeat x_close
  refine wu C V1.acc (by rw [hlen1]; exact hu1) ?_
  repeat x_close
  refine qjj (by decide) (by decide) ?_
  have e1 : (((prs (cur ++ [(f, p)])).length : Int) - 1) = (cur.length : Nat) := by simp
  rw [e1]
  refine ⟨_, cur.length + 1, fun i' lc o => os1 = o ∧ (∃ fx ix px, lc = [some (.ref k), fx, some (.str (S p)), some (.str chS), ix, px, none, none]) ∧ (ch = w → i' = 0), ⟨rfl, ⟨_, _, _, rfl⟩, fun ω => rfl⟩, ?_, qai (a := (cur.length : Nat)) (b := 0) (st := -1) (ql7 (by simp) (by lia)) (fun it v => rfl), ?_, ?_⟩
  ·intro i' x hx
   refine x_ea (um hx) fun v hv ω => ?_
   lia
  ·rintro i' x lc o q90x; refine x_a2 q90x fun z204y z205y hi0 => ?_; clear q90x; subst z204y; obtain ⟨fx, ix, px, rfl⟩ := z205y; rintro hx
   refine zh (um hx) fun v hv hv1 hv2 z203y => ?_; subst z203y
   refine x_ea (hF v hv1 hv2) fun q hq hq1 => ?_
   refine x_ea (hP (v - 1) (by exact Nat.sub_one_lt_of_le hv1 hv2)) fun q' hq' hq2 => ?_
   have ql' := qm9 hq'
   have at1 : (prs (cur ++ [(f, p)]))[((v : Nat) : Int).toNat]? = some (.tup [.str (S [w]), .str (S q.2)]) := by
    rw [Int.toNat_natCast, List.getElem?_map, hq, ← hq1]; rfl
   have at2 : (prs (cur ++ [(f, p)]))[(((v : Nat) : Int) - 1).toNat]? = some (.tup [.str (S q'.1), .str (S q'.2)]) := by
    rw [show (((v : Nat) : Int) - 1).toNat = v - 1 by simp, List.getElem?_map, hq']; rfl
   refine xt (by k_updF) ?_
   refine qx ?_
   refine EX.mono (K := fun fl l o => os1 = o ∧ ((fl = .next ∧ w ≠ ch ∧ ∃ fx, l = [some (.ref k), fx, some (.str (S p)), some (.str chS), some (.int v), px, none, none]) ∨ (fl = .brk ∧ w = ch ∧ ∃ fx, l = [some (.ref k), fx, some (.str (S p)), some (.str chS), some (.int v), px, none, none]))) ?_ ?_
   ·iterate 4 x_close
    refine ⟨_, qft (fun q => GM.isspace q), ?_⟩
    refine qds ⟨Kp.builtin, qfs ?_⟩
    rw [hsp]
    refine qa4 ⟨fun ω => ?_, fun hb => ?_⟩
    rotate_left
    ·refine xz ⟨rfl, .inl ⟨rfl, ?_, _, rfl⟩⟩
     rintro rfl
     lia
    repeat x_close
    refine wj C V1 ?_
    repeat x_close
    refine qfy C V1.acc (by lia) at1 ?_
    repeat x_close
    refine qux (x := .str (S [w])) (by decide) rfl ?_
    repeat x_close
    refine qkq (by exact fit_le rfl) ⟨fun ω => ?_, fun q => by simp [jb] at q⟩
    repeat x_close
    refine yq (by decide) qgq ?_
    repeat x_close
    rw [show (Str.mk #[w] == chS) = decide (w = ch) from hcw]
    refine ⟨fun hb => ?_, fun hb => ?_⟩
    ·repeat x_close
     refine ⟨fun ω => ?_, fun q => (by cases q)⟩
     repeat x_close
     exact ⟨rfl, .inr ⟨rfl, of_decide_eq_true hb, _, rfl⟩⟩
    ·refine ⟨fun q => (by cases q), fun ω => ?_⟩
     repeat x_close
     exact ⟨rfl, .inl ⟨rfl, of_decide_eq_false hb, _, rfl⟩⟩
   ·rintro fl l o q91x; obtain ⟨rfl, ⟨rfl, hne, fx, rfl⟩ | ⟨rfl, he, fx, rfl⟩⟩ := q91x
    ·refine qx ?_
     x_close
     repeat x_close
     refine wj C V1 ?_
     repeat x_close
     refine qfy C V1.acc (by lia) at2 ?_
     repeat x_close
     refine qux (x := .str (S q'.2)) (by decide) rfl ?_
     repeat x_close
     refine qkq (by rw [jb]; lia) ⟨fun hb => ?_, fun hb => ?_⟩
     ·obtain ⟨r, x, hr⟩ : ∃ r x, q'.2 = r ++ [x] := by
       rcases List.eq_nil_or_concat q'.2 with e | ⟨r, x, e⟩
       ·rw [e] at hb; simp [jb] at hb
       ·exact ⟨r, x, by rw [e, List.concat_eq_append]⟩
      have hx := hcx q'.2 (hq2 ch hmem) x (by rw [hr]; exact last_of_append rfl)
      rw [hr]
      repeat x_close
      refine yq (by decide) qrc ?_
      repeat x_close
      rw [show (Str.mk #[x] == chS) = false from hx]
      refine ⟨fun q => (by cases q), fun ω => ⟨fun q => (by cases q), fun ω => ?_⟩⟩
      repeat x_close
      exact ⟨rfl, ⟨_, _, _, rfl⟩, fun e => absurd e.symm hne⟩
     ·refine ⟨fun q => (by cases q), fun ω => ?_⟩
      repeat x_close
      exact ⟨rfl, ⟨_, _, _, rfl⟩, fun e => absurd e.symm hne⟩
    ·have hi := hi0 he.symm
     have hv : v = cur.length := by lia
     subst hv
     dsimp only [Then, Turn]
     repeat x_close
     exact ⟨rfl, .inr ⟨rfl, fun e => by subst e; exact Nat.not_succ_le_zero 0 hv1, _, _, _, rfl⟩⟩
  ·rintro i' lc o q92x; refine x_a2 q92x fun z201y z202y hi0 => ?_; clear q92x; subst z201y; obtain ⟨fx, ix, px, rfl⟩ := z202y; rintro hx
   have hL := qf8 hx
   repeat x_close
   refine ⟨rfl, ⟨_, _, _, _, rfl⟩, fun j' h hh => ?_⟩
   rcases Nat.lt_or_eq_of_le (Nat.le_of_lt_succ h) with h | rfl
   ·exact hj j' h hh
   ·have := hi0 (Option.some.inj (hch.symm.trans hh))
    exact List.length_eq_zero_iff.mp (by lia)
 ·rintro i lc o q93x; refine x_a2 q93x fun z199y z200y hj => ?_; clear q93x; subst z199y; obtain ⟨fx, cx, ix, px, rfl⟩ := z200y; rintro hX
  have hc : cur = [] := by
   have : 4 ≤ i := by
    rcases Nat.lt_or_ge i 4 with h | h
    ·have hX' : (SC.cps[i]?).map (fun c => AV.str ⟨#[c]⟩) = none := hX
     have : i < SC.cps.size := h
     simp [this] at hX'
    ·exact h
   rcases hw with rfl | rfl
   ·exact hj 2 (by exact Nat.lt_of_add_left_lt this) rfl
   ·exact hj 3 (by assumption) rfl
  subst hc
  repeat x_close
  refine wj C V1 ?_
  refine ⟨_, qjl C V1.acc, ?_⟩
  repeat x_close
  refine qas (xs := []) C V1.acc (by simp) (by rw [hlen1]; exact hu1) ?_
  have V2 := V1.setA []
  have hu2 : AOs.Un (os1.set a (.acc 238 d [])).length (os1.set a (.acc 238 d [])) := by
   rw [List.length_set, hlen1]; exact AOs.Un_set (o := AO.acc 238 d []) ⟨d_lt V, trivial⟩ hu1
  repeat x_close
  refine ⟨_, _, _, _, rfl, by k_updF, by k_updF, ?_⟩
  repeat x_close
  refine wj C V2 ?_
  repeat x_close
  refine qjd C V2.acc (by kernel_rfl) (x := .int 0) rfl rfl ?_
  repeat x_close
  refine ⟨fun q => (by cases q), fun ω => ?_⟩
  repeat x_close
  refine wj C V2 ?_
  refine ⟨_, qsc C V2.acc, ?_⟩
  repeat x_close
  refine qha C V2.acc (by decide) hu2 ?_
  rw [List.set_set, show prs ([] : List (List Nat × List Nat)) ++ [.tup [.str (S f), .str (S p)]] = prs ([] ++ [(f, p)]) from rfl, set_same V1.acc.1]
  repeat x_close
  refine vk ?_
  exact ⟨rfl, .inl ⟨rfl, rfl⟩⟩
end
end
section
noncomputable def bod (s : Stmt) : List Stmt := (qg6 s).1
noncomputable def els (s : Stmt) : List Stmt := (qg6 s).2.1
noncomputable def nthS (k : Nat) : List Stmt → Stmt
 | [] => .Pass ⟨0, 0, 0, 0⟩
 | a :: r => match k with
  | 0 => a
  | k + 1 => nthS k r
noncomputable def qwn : List Stmt := (els (nthS 1 (els (nthS 4 (bod (nthS 0 (els (nthS 0 (els (nthS 2 (bod (nthS 3 (qu (jj 9)))))))))))))).drop 5
section
variable {c : CX} {n : Nat} {os : List AO} {K : AV → List AO → Prop} {ρ : List Addr} {s : Shared}
theorem qm3 {x y : Str} {b : Bool} (hb : decide (y.cps.toList < x.cps.toList) = b) (h : K (.bool b) os) : TV2 c n (compareOp .Gt) (.str x) (.str y) os K := qqq (by rw [hb]; exact h)
noncomputable abbrev jx : List (List Nat) := [[33, 98], [100]]
set_option maxHeartbeats 1000000 in
theorem qtf (C : c.Std) {K : AF → Loc → List AO → Prop} {L : Addr} {ch : Nat} {x0 x1 x2 x3 x4 x5 x6 x7 x8 x9 x11 x12 : Option AV} (hk : os[ch]? = some (.list (sls jx)))
  (h : K .next [x0, x1, x2, x3, x4, x5, x6, x7, x8, some (.str (S [33, 98, 45, 100])), some (.ref ch), some (.int 1), x12] os) :
  EXs c n (efOf z5 L 69 wa z9) [x0, x1, x2, x3, x4, x5, x6, x7, x8, x9, some (.ref ch), x11, x12] os qwn K := by
 have hsl : sizeLine = 16777216 := rfl
 have ht : (⟨68, 64, []⟩ : Tab) ∈ c.tabs := by rw [C.hT]; exact mem2
 conv => arg 6; whnf
 refine qx ?_
 refine qc9 ?_
 repeat x_close
 refine w7 hk (by decide) ?_
 repeat x_close
 refine qjj (by decide) (by decide) ?_
 refine (u8 _ 2 (fun i lc o => os = o ∧ lc = [x0, x1, x2, x3, x4, x5, x6, x7, x8, x9, some (.ref ch), if i = 0 then x11 else some (.int 1), x12]) ⟨rfl, rfl⟩ ?_ (qai (a := ((sls jx).length : Nat) - 1) (b := 0) (st := -1) (by rfl) (fun it v => rfl)) ?_ ?_)
 ·intro i x hx
  have hx' := um (L := 1) hx
  refine x_ea hx' fun v hv ω => ?_; clear hx'
  lia
 ·rintro i x lc o q101x; obtain ⟨rfl, rfl⟩ := q101x; rintro hx
  have hx' := um (L := 1) hx
  refine zh hx' fun v hv hv1 hv2 z219y => ?_; clear hx'; subst z219y
  obtain rfl : i = 0 := by lia
  obtain rfl : v = 1 := by assumption
  refine xt (by k_updF) ?_
  refine qx ?_
  refine qs7 ?_
  repeat x_close
  refine xu (x := .str (S [33, 98])) hk (by decide) (.inl ⟨by decide, rfl⟩) ?_
  repeat x_close
  refine yq (ch := 98) (by decide) (by rfl) ?_
  repeat x_close
  refine xu (x := .str (S [100])) hk (by decide) (.inl ⟨by simp, rfl⟩) ?_
  repeat x_close
  refine yq (ch := 100) (by decide) (by rfl) ?_
  refine qm3 (b := false) (by rfl) ?_
  refine (wg _ rfl (fun q => (by cases q)) (fun ω => ?_))
  repeat x_close
  exact ⟨rfl, rfl⟩
 ·rintro i lc o q102x; obtain ⟨rfl, rfl⟩ := q102x; rintro hx
  have hx' := qf8 (L := 1) hx
  rw [if_neg (by exact Nat.ne_zero_of_lt hx' : ¬ i = 0)]
  repeat (fail_if_success (with_reducible show EV _ _ _ _ _ _ _)); x_close
  refine EV.mono (K := fun a o => a = .str (S [33, 98, 45, 100]) ∧ o = os) ?_ ?_
  rotate_left
  ·rintro ω ω q103x; obtain ⟨rfl, rfl⟩ := q103x
   repeat x_close
   exact h
  intro A hA ρ s F
  refine methodCall_KW (pl := pure true) (Constant_str ?_) rfl
  have F := F.keeps (h' := s.heap) (tk := s.toks + 1) (fun ω ω e => e) (Nat.le_refl _) (Nat.le_succ _)
  refine GM.join ?_
  refine cw ?hp ?_
  case hp => rfl
  refine spliced_cons ?_
  refine qtm C ht hA F rfl hk (.there (.there (.there (.there (.there (.there (.there (.there (.there (.there .here)))))))))) rfl rfl (by decide) (by rfl) (by rfl) rfl (fun i v => ∃ t, v = .str (S ((jx[i]?).getD [])) t) ?_ ?_
  ·rintro CC code A' E' i v s₂ m₂ hA' q104x; obtain ⟨hi, u, rfl⟩ := q104x; rintro hn₂ hm hk'
   have f2 : ∀ y ∈ jx, (Builtin.Str.occurrences (S y) (Str.ofString "-") 0 (S y).length ((S y).length + 1)).isEmpty = true ∧ (Builtin.Str.occurrences (S y) (Str.ofString "\\") 0 (S y).length ((S y).length + 1)).isEmpty = true := by decide +kernel
   have f2 := f2 _ (List.getElem_mem hi)
   refine methodCall_KW (pl := do return (← importBound (.Call _ _ _ _) _).getD true) ?_ rfl
   refine methodCall_KW (pl := do return (← importBound (.Name "s" _) _).getD true) (ldG hn₂ hm ?_) rfl
   refine GM.replace ?_
   refine cw (c := c) ?hp ?_
   case hp => rfl
   refine spliced_cons (Constant_str (k := 0) (pos := ⟨0, 0, 0, 0⟩) (spliced_cons (Constant_str (k := 0) (pos := ⟨0, 0, 0, 0⟩) (wpAny_pure ?_))))
   refine ⟨⟨.machine, fun A Q E h => wpAny_pure h⟩, ?_⟩
   refine qe5 f2.2 ?_
   refine GM.replace ?_
   refine cw (c := c) ?hp2 ?_
   case hp2 => rfl
   refine spliced_cons (Constant_str (k := 0) (pos := ⟨0, 0, 0, 0⟩) (spliced_cons (Constant_str (k := 0) (pos := ⟨0, 0, 0, 0⟩) (wpAny_pure ?_))))
   refine ⟨⟨.machine, fun A Q E h => wpAny_pure h⟩, ?_⟩
   refine qe5 f2.1 ?_
   exact ⟨⟨u, by rw [List.getElem?_eq_getElem hi]; rfl⟩, ⟨_, _, rfl, fun ω ω e => e⟩⟩
  ·intro a fp wr g St s' gr W st hT ha hfp hwr
   refine wpAny_pure ⟨⟨.machine, fun A Q E h => wpAny_pure h⟩, ?_⟩
   have H' := gr.hr C F.hr ht
   refine qr (q6 (SC.joinGen W.in4_2 hT st hfp ha (fun i v hv => let ⟨t, e⟩ := hv; (y_e2 _ t e)) (fun s3 lt hm3 hacc => ?_) (by decide)))
   have hlt : lt.map (·.1) = jx.map S := by
    apply List.ext_getElem?
    intro j
    have hsz : lt.length = jx.length := by simpa [strValues] using hacc.1
    by_cases hj : j < jx.length
    ·have hj' : j < lt.length := hsz ▸ hj
     obtain ⟨u, hv⟩ := hacc.2 j (.str lt[j].1 lt[j].2) (by simp [strValues, List.getElem?_eq_getElem hj'])
     injection hv with h1 _
     rw [List.getElem?_eq_getElem hj] at h1
     rw [List.getElem?_map, List.getElem?_map, List.getElem?_eq_getElem hj', List.getElem?_eq_getElem hj]
     exact congrArg some h1
    ·rw [List.getElem?_eq_none (by simpa [hsz] using Nat.le_of_not_lt hj), List.getElem?_eq_none (by exact Nat.le_of_not_lt hj)]
   rw [hlt]
   refine ⟨by rfl, fun t' k hz3 htk => ?_⟩
   have hb3 : AllBare s3.gens := AllBare.movedS H'.gi.bare hm3
   have hm4 : Moved wr (GenOnlyQ g) s' { s3 with toks := k } := ⟨hm3.heap, hm3.gens, hm3.drawn, hm3.os, htk⟩
   have g3 := gr.moved F.hr.gi ht hm4 hwr hb3 hz3
   refine ⟨.str (S [33, 98, 45, 100]), os, ρ, ⟨rfl, rfl⟩, g3.hr C F.hr ht, ?_, t', congrArg (fun x => Value.str x t') (by rfl : Txt.join (Str.ofString "-") (jx.map S) = S [33, 98, 45, 100])⟩
   exact (Ext.toks ..).trans (g3.ext ht)
end
end
section
noncomputable def qu4 : List Stmt := bod (nthS 0 (els (nthS 0 (els (nthS 2 (bod (nthS 3 (qu (jj 9)))))))))
section
variable {c : CX} {n : Nat} {os : List AO} {ρ : List Addr} {s : Shared}
set_option maxHeartbeats 4000000 in
theorem qqx (C : c.Std) {K : AF → Loc → List AO → Prop} {L : Addr} {r b N : Nat} {pat : Str} {xs : List AV} {x1 x2 x8 x9 x10 x11 x12 : Option AV} (hget : os[r]? = some (.list xs)) (hil : xs.length ≤ 10000) (hbr : Br pat (b : Nat) [33, 98, 45, 100]) (hlen : pat.length = N) (htot : b + 6 ≤ N) (hN : N ≤ 10000)
  (hf1 : qbs pat (Str.ofString "-") ((b : Nat) + 1 + 2 : Int) ((b : Nat) + 1 + 4 : Int) = (b : Nat) + 1 + 2)
  (h : K .next [some (.str pat), x1, x2, some (.ref r), some (.bm "list.append" (.ref r)), some (.int ((b : Nat) + 1 + 4 + 1)), some (.int N), some (.str ⟨#[91]⟩), some (.int ((b : Nat) + 1 + 4)), some (.str (S [94, 98, 45, 100])), some (.ref os.length), some (.int 1), some (.str (S [100]))] ((os ++ [AO.list (sls jx)]).set r (AO.list (xs ++ [AV.str (S [91, 94, 98, 45, 100, 93])])))) :
  EXs c (n + 1) (efOf z5 L 69 wa z9) [some (.str pat), x1, x2, some (.ref r), some (.bm "list.append" (.ref r)), some (.int ((b : Nat) + 1)), some (.int N), some (.str ⟨#[91]⟩), x8, x9, x10, x11, x12] os qu4 K := by
 have hz : sizeLine = 16777216 := rfl
 have htab : (⟨68, 64, []⟩ : Tab) ∈ c.tabs := by rw [C.hT]; exact mem2
 have hc0 : (seqIndex? ((b : Nat) + 1 : Int) pat.length).bind (pat.cps[·]?) = some 33 := by
  have := hbr.ch 0 (by exact Nat.zero_lt_succ [98, 45, 100].length)
  assumption
 have hc1 : (seqIndex? ((b : Nat) + 1 + 1 : Int) pat.length).bind (pat.cps[·]?) = some 98 := by
  have := hbr.ch 1 (by exact Nat.one_lt_succ_succ [45, 100].length)
  simpa using this
 have hrl : r < os.length := (List.getElem?_eq_some_iff.mp hget).1
 conv => arg 6; whnf
 repeat x_close
 refine ⟨fun ω => ?_, fun q => (by simp only [decide_eq_false_iff_not] at q; omega)⟩
 repeat x_close
 refine yq (ch := 33) (by lia) hc0 ?_
 repeat x_close
 refine ⟨fun ω => ?_, fun q => absurd q (by exact ne_false_of_eq_true rfl)⟩
 repeat x_close
 refine ⟨fun ω => ?_, fun q => (by cases q)⟩
 repeat x_close
 refine ⟨fun ω => ?_, fun q => (by simp only [decide_eq_false_iff_not] at q; omega)⟩
 repeat x_close
 refine yq (ch := 98) (by lia) hc1 ?_
 repeat x_close
 refine ⟨fun q => absurd q (by exact ne_true_of_eq_false rfl), fun ω => ⟨fun q => (by cases q), fun ω => ?_⟩⟩
 x_close
 x_close
 refine EX.mono (K := fun f loc os' => f = .next ∧ loc = [some (.str pat), x1, x2, some (.ref r), some (.bm "list.append" (.ref r)), some (.int ((b : Nat) + 1)), some (.int N), some (.str ⟨#[91]⟩), some (.int ((b : Nat) + 1 + 4)), x9, x10, x11, x12] ∧
  os = os') ?_ ?_
 rotate_left
 ·rintro f loc os' q105x; refine x_a2 q105x fun z226y z227y z228y => ?_; clear q105x; subst z226y; subst z227y; subst z228y
  have hs : Txt.slice pat (some ((b : Nat) + 1 : Int)) (some ((b : Nat) + 1 + 4 : Int)) = S [33, 98, 45, 100] := by
   have := hbr.sl 0 4 (by simp) (by decide)
   assumption
  have hs1 : Txt.slice pat (some ((b : Nat) + 1 : Int)) (some ((b : Nat) + 1 + 2 : Int)) = S [33, 98] := by
   have := hbr.sl 0 2 (by simp) (by decide)
   assumption
  have hs2 : Txt.slice pat (some ((b : Nat) + 1 + 2 + 1 : Int)) (some ((b : Nat) + 1 + 4 : Int)) = S [100] := by
   have := hbr.sl 3 4 (by simp) (by decide)
   have e : ((b : Nat) + 1 + 2 + 1 : Int) = (b : Nat) + 1 + (3 : Nat) := by rfl
   rw [e]
   simpa using this
  repeat x_close
  refine ⟨fun q => (by simp only [decide_eq_true_eq] at q; lia), fun ω => ?_⟩
  repeat x_close
  refine qa8 (by lia) ?_
  rw [hs]
  have hSBs := fun (K : AV → List AO → Prop) => qmp (n := n + 1) (K := K) C (x := [33, 98, 45, 100]) (.head _) (os := os ++ [AO.list (sls jx)])
  have hfor := fun (K : AF → Loc → List AO → Prop) (x0 x1 x2 x3 x4 x5 x6 x7 x8 x9 x11 x12 : Option AV) => qtf (n := n + 1) (K := K) (x0 := x0) (x1 := x1) (x2 := x2) (x3 := x3) (x4 := x4) (x5 := x5) (x6 := x6) (x7 := x7) (x8 := x8) (x9 := x9) (x11 := x11) (x12 := x12) (os := os ++ [AO.list (sls jx)]) C (L := L) (ch := os.length) (by exact List.getElem?_concat_length)
  have f1 : (Builtin.Str.occurrences (S [33, 98, 45, 100]) (Str.ofString "-") 0 (S [33, 98, 45, 100]).length 1).isEmpty = false ∧ (S [33, 98, 45, 100] == Str.ofString "!") = false ∧ Txt.slice (S [33, 98, 45, 100]) (some 1) none = S [98, 45, 100] ∧ Str.ofString "^" ++ S [98, 45, 100] = S [94, 98, 45, 100] ∧ (S [33, 98, 45, 100]).length = 4 ∧
   (seqIndex? 0 (S [33, 98, 45, 100]).length).bind ((S [33, 98, 45, 100]).cps[·]?) = some 33 ∧ (S [94, 98, 45, 100]).length = 4 := by
   decide +kernel
  have f2 : Str.ofString "[" ++ S [94, 98, 45, 100] ++ Str.ofString "]" = S [91, 94, 98, 45, 100, 93] := by rfl
  generalize S [94, 98, 45, 100] = sC at f1 f2 h
  generalize S [33, 98, 45, 100] = sB at hSBs hfor f1 ⊢
  repeat x_close
  rw [f1.1]
  refine ⟨fun q => (by simp at q), fun ω => ?_⟩
  x_close
  x_close
  refine j7 ?_
  repeat x_close
  refine ⟨by simp, ?_⟩
  repeat x_close
  refine yq (ch := 33) (by lia) hc0 ?_
  repeat x_close
  refine ⟨fun ω => ?_, fun q => absurd q (by decide)⟩
  repeat x_close
  have hput : ∀ xs ys, (os ++ [AO.list xs]).set os.length (.list ys) = os ++ [.list ys] := fun xs ys => by rw [List.set_append_right _ _ (Nat.le_refl _), Nat.sub_self]; rfl
  refine EX.mono (K := fun f loc os' => f = .next ∧ loc = [some (.str pat), x1, x2, some (.ref r), some (.bm "list.append" (.ref r)), some (.int ((b : Nat) + 1 + 2 + 1)), some (.int N), some (.str ⟨#[91]⟩), some (.int ((b : Nat) + 1 + 4)), some (.str sB), some (.ref os.length), some (.int (-1)), x12] ∧
   os' = os ++ [AO.list [.str (S [33, 98])]]) ?_ ?_
  rotate_left
  ·rintro f loc os' q106x; refine x_a2 q106x fun z223y z224y z225y => ?_; clear q106x; subst z223y; subst z224y; subst z225y
   repeat x_close
   refine qa8 (by lia) ?_
   rw [hs2]
   have hl2 : (S [100]).length = 1 := rfl
   generalize hS2 : S [100] = s2 at h hl2
   repeat x_close
   refine qkq (by lia) ⟨fun ω => ?_, fun q => (by rw [hl2] at q; cases q)⟩
   repeat x_close
   refine yk ⟨_, by simp; rfl⟩ ?_
   repeat x_close
   refine zx (xs := [.str (S [33, 98])]) (by exact List.getElem?_concat_length) (by decide) ?_
   rw [hput]
   subst hS2
   x_close
   refine hfor _ _ _ _ _ _ _ _ _ _ _ _ _ ?_
   have hget2 : (os ++ [AO.list (sls jx)])[r]? = some (.list xs) := xf hget
   generalize os ++ [AO.list (sls jx)] = os2 at hget2 hSBs h ⊢
   generalize S [100] = s2 at h ⊢
   repeat x_close
   refine (y_ea _ (qmu C) ?_)
   repeat x_close
   refine qr7 C htab rfl rfl rfl ?_
   repeat x_close
   refine hSBs _ ?_
   repeat x_close
   have hpos : ((sB.length : Int) != 0) = true := by rw [f1.2.2.2.2.1]; rfl
   have hsb := f1.2.2.2.2.1
   refine qkq (by lia) ⟨fun q => (by rw [hpos] at q; cases q), fun ω => ?_⟩
   repeat x_close
   refine ⟨fun q => (by rw [f1.2.1] at q; cases q), fun ω => ?_⟩
   repeat x_close
   refine yq (by decide) f1.2.2.2.2.2.1 ?_
   repeat x_close
   refine ⟨fun ω => ?_, fun q => absurd q (by decide)⟩
   repeat x_close
   refine qa8 (by lia) ?_
   rw [f1.2.2.1]
   refine qa9 (by decide) ?_
   rw [f1.2.2.2.1]
   repeat x_close
   have el : (Str.ofString "[").length = 1 ∧ (Str.ofString "]").length = 1 := ⟨rfl, rfl⟩
   have hsc := f1.2.2.2.2.2.2
   refine ⟨by lia, ?_⟩
   rw [f2]
   repeat x_close
   refine jo hget2 (by lia) ?_
   repeat x_close
   exact h
  refine zw (fun m loc os' => (m = 1 ∧ loc = [some (.str pat), x1, x2, some (.ref r), some (.bm "list.append" (.ref r)), some (.int ((b : Nat) + 1)), some (.int N), some (.str ⟨#[91]⟩), some (.int ((b : Nat) + 1 + 4)), some (.str sB), some (.ref os.length), some (.int ((b : Nat) + 1 + 2)), x12] ∧ os' = os ++ [AO.list []]) ∨
   (m = 0 ∧ loc = [some (.str pat), x1, x2, some (.ref r), some (.bm "list.append" (.ref r)), some (.int ((b : Nat) + 1 + 2 + 1)), some (.int N), some (.str ⟨#[91]⟩), some (.int ((b : Nat) + 1 + 4)), some (.str sB), some (.ref os.length), some (.int ((b : Nat) + 1 + 2 + 3)), x12] ∧ os' = os ++ [AO.list [.str (S [33, 98])]])) 1 (.inl (y_a2 rfl rfl rfl)) ?_
  rintro m loc os' (⟨rfl, rfl, rfl⟩ | ⟨rfl, rfl, rfl⟩)
  ·refine zt ?_
   repeat x_close
   refine qa4 ⟨fun ω => ?_, fun q => (by cases q)⟩
   repeat x_close
   refine qji (by exact Int.zero_le_ofNat (b + 1 + 4)) ?_
   rw [hf1]
   repeat x_close
   refine ⟨fun q => (by simp only [decide_eq_true_eq] at q; lia), fun ω => ?_⟩
   repeat x_close
   refine yk ⟨[], by exact List.getElem?_concat_length⟩ ?_
   repeat x_close
   refine qa8 (by lia) ?_
   rw [hs1]
   repeat x_close
   refine zx (xs := []) (by exact List.getElem?_concat_length) (by simp) ?_
   rw [hput]
   repeat x_close
   exact ⟨0, by exact Nat.one_pos, .inr (y_a2 rfl rfl rfl)⟩
  ·refine zt ?_
   repeat x_close
   refine qa4 ⟨fun ω => ?_, fun q => (by cases q)⟩
   repeat x_close
   refine qji (by exact Int.zero_le_ofNat (b + 1 + 4)) ?_
   rw [qnw (by exact Int.zero_le_ofNat (b + 1 + 4)) (by lia) (by lia)]
   repeat x_close
   refine ⟨fun ω => ?_, fun q => (by cases q)⟩
   repeat x_close
   exact ⟨rfl, rfl, rfl⟩
 refine zw (fun m loc os' => ∃ k : Nat, k ≤ 3 ∧ m = 3 - k ∧ loc = [some (.str pat), x1, x2, some (.ref r), some (.bm "list.append" (.ref r)), some (.int ((b : Nat) + 1)), some (.int N), some (.str ⟨#[91]⟩), some (.int ((b : Nat) + 1 + 1 + k)), x9, x10, x11, x12] ∧
  os = os') 3 (qar 0 (Nat.zero_le _) rfl (by rfl) rfl) ?_
 rintro m loc os' q107x; refine zh q107x fun k hk z220y z221y z222y => ?_; clear q107x; subst z220y; subst z221y; subst z222y
 repeat x_close
 refine ⟨fun ω => ?_, fun q => (by simp only [decide_eq_false_iff_not] at q; omega)⟩
 repeat x_close
 have hcc : ∀ (hk' : k < 3), (seqIndex? ((b : Nat) + 1 + 1 + k : Int) pat.length).bind (pat.cps[·]?) = some ([98, 45, 100][k]'hk') := fun hk' => by
  have := hbr.ch (k + 1) (by exact Nat.add_lt_of_lt_sub hk')
  have e : ((b : Nat) + 1 + 1 + k : Int) = (b : Nat) + 1 + ((k + 1 : Nat) : Int) := by lia
  rw [e, this]; rfl
 rcases Nat.lt_or_ge k 3 with hk' | hk'
 ·refine yq (by lia) (hcc hk') ?_
  repeat x_close
  have hne : (Str.mk #[[98, 45, 100][k]'hk'] != Str.ofString "]") = true := by
   clear hcc
   have : k = 0 ∨ k = 1 ∨ k = 2 := by lia
   rcases this with rfl | rfl | rfl <;> (show (Str.mk #[_] != Str.ofString "]") = true) <;> kernel_rfl
  rw [hne]
  refine ⟨fun ω => ?_, fun q => (by cases q)⟩
  repeat x_close
  refine ⟨fun ω => ?_, fun q => (by cases q)⟩
  repeat x_close
  exact ⟨3 - (k + 1), by exact Nat.sub_succ_lt_self 3 k hk', k + 1, hk', rfl, by rfl, rfl⟩
 ·obtain rfl : k = 3 := by exact Eq.symm (Nat.le_antisymm hk' hk)
  have he93 : (seqIndex? ((b : Nat) + 1 + 1 + (3 : Nat) : Int) pat.length).bind (pat.cps[·]?) = some 93 := by
   have := hbr.e
   have e : ((b : Nat) + 1 + 1 + (3 : Nat) : Int) = (b : Nat) + 1 + (([33, 98, 45, 100] : List Nat).length : Int) := by simp; rfl
   rw [e]; exact this
  refine yq (ch := 93) (by lia) he93 ?_
  repeat x_close
  refine ⟨fun q => absurd q (by decide), fun ω => ⟨fun q => (by cases q), fun ω => ?_⟩⟩
  exact xz (y_a2 rfl (by rfl) rfl)
end
end
section
section
variable {c : CX} {n : Nat} {os : List AO} {K : AV → List AO → Prop} {ρ : List Addr} {s : Shared}
structure Hid (p : Prop) : Prop where
 out : p
theorem qoi {st k : Nat} (h : st < k) : ∀ (its : List It), AVs.Un k (its.map (It.av st))
 | [] => trivial
 | .star :: r => ⟨h, qoi h r⟩
 | .txt s :: r => ⟨trivial, qoi h r⟩
inductive J15k (pat : Str) (st : Nat) (os : List AO) (ts : List Tk) (f : AF) (loc : Loc) (os' : List AO) : Prop
 | mk (h1 : f = .next) (x7 x8 x9 x10 x11 x12 : Option AV) (G : List AO) (h2 : loc = [some (.str pat), some (.ref st), some (.str (Str.ofString ".")), some (.ref os.length), some (.bm "list.append" (.ref os.length)), some (.int (qj ts).length), some (.int (qj ts).length), x7, x8, x9, x10, x11, x12]) (h3 : os' = os ++ .list ((jt ts).map (It.av st)) :: G)
inductive J15i (pat : Str) (st : Nat) (os : List AO) (ts : List Tk) (m : Nat) (loc : Loc) (os' : List AO) : Prop
 | mk (dn rs : List Tk) (x7 x8 x9 x10 x11 x12 : Option AV) (G : List AO) (h1 : ts = dn ++ rs) (h2 : m = rs.length) (h3 : loc = [some (.str pat), some (.ref st), some (.str (Str.ofString ".")), some (.ref os.length), some (.bm "list.append" (.ref os.length)), some (.int (qj dn).length), some (.int (qj ts).length), x7, x8, x9, x10, x11, x12]) (h4 : AOs.Un 0 G) (h5 : os' = os ++ .list ((jt dn).map (It.av st)) :: G)
set_option maxHeartbeats 4000000 in
theorem qbg (C : c.Std) {ts : List Tk} (hok : ∀ t ∈ ts, t.ok) {st : Nat} (hst : os[st]? = some .opq) (hl : (qj ts).length ≤ 10000) (hu : AOs.Un os.length os) (h : K (.ref os.length) (os ++ [.list ((jt ts).map (It.av st))])) :
  CG c (n + 2) (.ref 69) [.str (S (qj ts)), .ref st, .str (Str.ofString ".")] os K := by
 have hz : sizeLine = 16777216 := rfl
 have hstl : st < os.length := (List.getElem?_eq_some_iff.mp hst).1
 refine wh C.ok (qfw C.hK) (dargs := []) (fun s G vs hv => ?_) fun L => ?_
 ·refine x_e3 (len3 hv) fun ω ω ω z218y => ?_; subst z218y
  exact ⟨[], fun ω ω => rfl, BindsTo.of_eq rfl⟩
 conv => arg 6; whnf
 show EXs c (n + 1) _ [some (.str (S (qj ts))), some (.ref st), some (.str (Str.ofString ".")), none, none, none, none, none, none, none, none, none, none] os _ _
 have hlen : (S (qj ts)).length = (qj ts).length := jb _
 generalize hpat : S (qj ts) = pat at hlen
 x_close
 x_close
 refine qjf ?_
 x_close
 refine ⟨by simp, ?_⟩
 repeat x_close
 refine qjc (xs := []) (by exact List.getElem?_concat_length) ?_
 x_close
 refine qjh (k := os.length) (xs := []) (by exact List.getElem?_concat_length) ?_
 dl_step
 repeat x_close
 refine uf (by lia) ?_
 x_close
 refine ⟨by simp [hz], _, _, _, _, rfl, by k_updF, by k_updF, ?_⟩
 x_close
 rw [hlen]
 refine EX.mono (K := J15k pat st os ts) ?_ ?_
 rotate_left
 ·rintro f loc os' q97x; obtain ⟨rfl, x7, x8, x9, x10, x11, x12, G, rfl, rfl⟩ := q97x
  repeat x_close
  refine ⟨by exact beq_int_true rfl, ?_⟩
  repeat x_close
  exact ⟨os ++ [AO.list ((jt ts).map (It.av st))], G, by simp, by simp, qbm (more := [AO.list ((jt ts).map (It.av st))]) hu ⟨qoi (by simp; exact Nat.lt_add_right 1 hstl) _, trivial⟩ (by simp), by simp [qp2, qp3, qp4, qp5, zi, zj, zk, zm, zo, zp, zq], (show K (.ref os.length) _ from h)⟩
 refine zw (J15i pat st os ts) ts.length ⟨[], ts, none, none, none, none, none, none, [], rfl, rfl, rfl, trivial, rfl⟩ ?_
 rintro m loc os' q98x; obtain ⟨dn, rs, x7, x8, x9, x10, x11, x12, G, he, rfl, rfl, hG, rfl⟩ := q98x
 have hfl : qj ts = qj dn ++ qj rs := by rw [he]; exact List.flatMap_append
 repeat x_close
 refine ⟨fun hlt => ?_, fun hlt => ?_⟩
 rotate_left
 ·rcases rs with _ | ⟨t, rs⟩
  ·have : dn = ts := by rw [he]; exact Eq.symm (List.append_nil dn)
   rw [this]
   exact xz ⟨rfl, x7, x8, x9, x10, x11, x12, G, rfl, rfl⟩
  ·have h1 := qj2 t
   have h2 := congrArg List.length hfl
   simp only [List.flatMap_cons, List.length_append] at h2
   simp only [decide_eq_false_iff_not] at hlt
   lia
 rcases rs with _ | ⟨t, rs⟩
 ·have h2 := congrArg List.length hfl
  simp at h2 hlt
  lia
 have hln := qgv dn
 have hdl := qgg dn
 have hdl2 : (qj dn).length ≤ 10000 := by rw [hfl] at hl; simp at hl ⊢; exact Nat.le_of_add_right_le hl
 have hget : (os ++ AO.list ((jt dn).map (It.av st)) :: G)[os.length]? = some (.list ((jt dn).map (It.av st))) := by simp
 have hset : ∀ ys, (os ++ AO.list ((jt dn).map (It.av st)) :: G).set os.length (.list ys) = os ++ AO.list ys :: G := fun ys => by rw [List.set_append_right _ _ (Nat.le_refl _), Nat.sub_self]; rfl
 have htok := hok t (by rw [he]; exact List.mem_append_cons_self)
 have hts : ts = (dn ++ [t]) ++ rs := by rw [he]; exact List.append_cons dn t rs
 have hch : Hid (∀ ch r, t.flat ++ qj rs = ch :: r → (seqIndex? ((qj dn).length : Int) pat.length).bind (pat.cps[·]?) = some ch) := ⟨fun ch r e => by
  rw [← hpat, hfl, show qj (t :: rs) = t.flat ++ qj rs by rfl, e]; exact qtg _ _ _⟩
 have fin : Hid (∀ (i' : Int) (y7 y8 y9 y10 y11 y12 : Option AV) (G' : List AO) (xs' : List AV), i' = ((qj dn).length + t.flat.length : Nat) → xs' = (qk (jt dn) t).map (It.av st) → AOs.Un 0 G' →
   ∃ m', m' < (t :: rs).length ∧ J15i pat st os ts m' [some (.str pat), some (.ref st), some (.str (Str.ofString ".")), some (.ref os.length), some (.bm "list.append" (.ref os.length)), some (.int i'), some (.int (qj ts).length), y7, y8, y9, y10, y11, y12] (os ++ AO.list xs' :: G')) := ⟨fun i' y7 y8 y9 y10 y11 y12 G' xs' hi hx hG' =>
  ⟨rs.length, Nat.lt_succ_self _, dn ++ [t], rs, y7, y8, y9, y10, y11, y12, G', hts, rfl, by rw [hi, qlb, List.length_append], hG', by rw [hx, qli]⟩⟩
 have hil : ((jt dn).map (It.av st)).length ≤ 10000 := by simp; lia
 cases t with
 | star =>
  repeat x_close
  refine yq (ch := 42) (by lia) (hch.out 42 _ rfl) ?_
  repeat x_close
  refine ⟨fun ω => ?_, fun q => absurd q (by exact ne_false_of_eq_true rfl)⟩
  repeat x_close
  refine qr6 hget (by lia) ?_
  rcases List.eq_nil_or_concat (jt dn) with hX | ⟨ys, a, hX⟩
  ·refine ⟨fun q => (by rw [hX] at q; simp at q), fun ω => ⟨fun ω => ?_, fun q => (by cases q)⟩⟩
   repeat x_close
   refine jo hget (by lia) ?_
   rw [hset]
   repeat x_close
   exact fin.out _ _ _ _ _ _ _ _ _ rfl (by rw [hX]; rfl) hG
  ·rw [List.concat_eq_append] at hX
   refine ⟨fun ω => ?_, fun q => (by rw [hX] at q; simp at q)⟩
   have hlast : ((jt dn).map (It.av st))[((-1 : Int) + ((jt dn).map (It.av st)).length).toNat]? = some (a.av st) := by
    rw [hX]; simp
    rw [show ((-1 : Int) + ((ys.length : Int) + 1)).toNat = ys.length by lia]
    simp
   repeat x_close
   cases a with
   | star =>
    refine xu (x := .ref st) hget (by decide) (.inr ⟨by decide, by rw [hX]; simp; lia, hlast⟩) ?_
    repeat x_close
    refine ⟨fun ω => ?_, fun q => (by cases q)⟩
    repeat x_close
    refine ⟨fun q => (by cases q), fun ω => ?_⟩
    repeat x_close
    exact fin.out _ _ _ _ _ _ _ _ _ rfl (by rw [hX]; simp [j8, j9, xc, xd, xe, j6]) hG
   | txt s =>
    refine xu (x := .str (S s)) hget (by decide) (.inr ⟨by decide, by rw [hX]; simp; lia, hlast⟩) ?_
    repeat x_close
    refine ⟨fun q => (by cases q), fun ω => ⟨fun ω => ?_, fun q => (by cases q)⟩⟩
    repeat x_close
    refine jo hget (by lia) ?_
    rw [hset]
    repeat x_close
    exact fin.out _ _ _ _ _ _ _ _ _ rfl (by rw [hX]; simp [j8, j9, xc, xd, xe, j6, qa5, qa6]) hG
 | q =>
  repeat x_close
  refine yq (ch := 63) (by lia) (hch.out 63 _ rfl) ?_
  repeat x_close
  refine ⟨fun q => absurd q (by exact ne_true_of_eq_false rfl), fun ω => ?_⟩
  repeat x_close
  refine ⟨fun ω => ?_, fun q => absurd q (by exact ne_false_of_eq_true rfl)⟩
  repeat x_close
  refine jo hget (by lia) ?_
  rw [hset]
  repeat x_close
  exact fin.out _ _ _ _ _ _ _ _ _ rfl (by simp [j8, j9, xc, xd, xe, qbb, qbc, qbd, qbe, qbf, qa5, qa6]; rfl) hG
 | c ch =>
  have hne : (S [ch] == Str.ofString "*") = false ∧ (S [ch] == Str.ofString "?") = false ∧ (S [ch] == Str.ofString "[") = false := by
   rw [show Str.ofString "*" = S [42] from rfl, show Str.ofString "?" = S [63] from rfl, show Str.ofString "[" = S [91] from rfl, qfz, qfz, qfz]
   have h2 : ch ≠ 42 ∧ ch ≠ 63 ∧ ch ≠ 91 := by
    rcases htok with h | h <;> simp [vq, qaz] at h <;> omega
   simp [h2]
  have hch1 := hch.out ch _ rfl
  repeat x_close
  refine yq (ch := ch) (by lia) hch1 ?_
  rw [show (⟨#[ch]⟩ : Str) = S [ch] from rfl]
  have hesc : ∀ {K : AV → List AO → Prop} {o : List AO}, AOs.Un o.length o → K (.str (S (escC ch))) o → CG c (n + 1) (.ref 62) [.str (S [ch])] o K := fun hu h => qig C htok hu h
  generalize S [ch] = cs at hne hesc ⊢
  repeat x_close
  refine ⟨fun q => (by rw [hne.1] at q; cases q), fun ω => ?_⟩
  repeat x_close
  refine ⟨fun q => (by rw [hne.2.1] at q; cases q), fun ω => ?_⟩
  repeat x_close
  refine ⟨fun q => (by rw [hne.2.2] at q; cases q), fun ω => ?_⟩
  repeat x_close
  have huo : AOs.Un (os ++ AO.list ((jt dn).map (It.av st)) :: G).length (os ++ AO.list ((jt dn).map (It.av st)) :: G) :=
   AOs.Un_app.mpr ⟨AOs.Un.le (by simp) _ hu, qoi (by simp; exact Nat.lt_add_right (G.length + 1) hstl) _, AOs.Un.le (Nat.zero_le _) _ hG⟩
  refine hesc huo ?_
  repeat x_close
  refine jo hget (by lia) ?_
  rw [hset]
  repeat x_close
  exact fin.out _ _ _ _ _ _ _ _ _ rfl (by simp [j8, j9, xc, xd, xe, qbb, qbc, qbd, qbe, qbf, qa5, qa6]) hG
 | br0 =>
  have htot : (qj dn).length + 6 ≤ (qj ts).length := by
   rw [hfl]; simp [y5, y6, za, zb, zc]
  have hbr : Br pat ((qj dn).length : Nat) [33, 98, 45, 100] := by
   rw [← hpat, hfl, show qj (Tk.br0 :: rs) = 91 :: ([33, 98, 45, 100] ++ 93 :: qj rs) by rfl]
   exact qju _ _ _
  have hf1 : qbs pat (Str.ofString "-") (((qj dn).length : Nat) + 1 + 2 : Int) (((qj dn).length : Nat) + 1 + 4 : Int) = ((qj dn).length : Nat) + 1 + 2 := by
   have := qtj (qj dn ++ [91]) (93 :: qj rs) (B1 := [33, 98]) (B2 := [100]) (ch := 45) (y := Str.ofString "-") (lo := ((qj dn).length : Nat) + 1 + 2) (hi := ((qj dn).length : Nat) + 1 + 4) rfl (by simp; rfl) (by simp; rfl)
   rw [show ((qj dn ++ [91]) ++ [33, 98]) ++ 45 :: ([100] ++ 93 :: qj rs) = qj ts by rw [hfl]; simp [y5, y6, za, zb, zc], hpat] at this
   exact this
  have hput : (os ++ AO.list ((jt dn).map (It.av st)) :: G ++ [AO.list (sls jx)]).set os.length (AO.list ((jt dn).map (It.av st) ++ [AV.str (S [91, 94, 98, 45, 100, 93])])) = os ++ AO.list ((jt dn).map (It.av st) ++ [AV.str (S [91, 94, 98, 45, 100, 93])]) :: (G ++ [AO.list (sls jx)]) := by
   rw [List.append_assoc, List.set_append_right _ _ (Nat.le_refl _), Nat.sub_self]; rfl
  repeat x_close
  refine yq (ch := 91) (by lia) (hch.out 91 _ rfl) ?_
  repeat x_close
  refine ⟨fun q => absurd q (by exact ne_true_of_eq_false rfl), fun ω => ?_⟩
  repeat x_close
  refine ⟨fun q => absurd q (by decide), fun ω => ?_⟩
  repeat x_close
  refine ⟨fun ω => ?_, fun q => absurd q (by exact ne_false_of_eq_true rfl)⟩
  refine qqx C hget hil hbr hlen htot hl hf1 ?_
  rw [hput]
  repeat x_close
  exact fin.out _ _ _ _ _ _ _ _ _ (by rfl) (by simp [j8, j9, xc, xd, xe, qbb, qbc, qbd, qbe, qbf, qa5, qa6]) (AOs.Un_app.mpr ⟨hG, jf jx, trivial⟩)
 | brw B =>
  have hB : B ∈ w4 := htok
  have hBl := (by decide : ∀ B ∈ w4, B.length ≤ 3 ∧ 2 ≤ B.length) B hB
  have hBn := (by decide +kernel : ∀ B ∈ w4, ∀ x ∈ B, (S [x] == Str.ofString "]") = false ∧ (S [x] == Str.ofString "!") = false ∧ x < 128) B hB
  have hB2 : (S B).length = B.length := jb _
  have htot : (qj dn).length + 1 + B.length + 1 ≤ (qj ts).length := by
   rw [hfl]; simp [y5, y6, za, zb, zc]; lia
  have hbr : Br pat ((qj dn).length : Nat) B := by
   rw [← hpat, hfl, show qj (Tk.brw B :: rs) = 91 :: (B ++ 93 :: qj rs) by simp [y5, y6, za, zb, zc]]
   exact qju _ _ _
  have hc0 : (seqIndex? (((qj dn).length : Nat) + 1 : Int) pat.length).bind (pat.cps[·]?) = some B[0] := by
   have := hbr.ch 0 (by lia)
   simpa using this
  have hs : Txt.slice pat (some (((qj dn).length : Nat) + 1 : Int)) (some (((qj dn).length : Nat) + 1 + B.length : Int)) = S B := by
   have := hbr.sl 0 B.length (by lia) (Nat.le_refl _)
   simpa using this
  have h0n := hBn B[0] (List.getElem_mem _)
  repeat x_close
  refine yq (ch := 91) (by lia) (hch.out 91 _ rfl) ?_
  repeat x_close
  refine ⟨fun q => absurd q (by exact ne_true_of_eq_false rfl), fun ω => ?_⟩
  repeat x_close
  refine ⟨fun q => absurd q (by decide), fun ω => ?_⟩
  repeat x_close
  refine ⟨fun ω => ?_, fun q => absurd q (by exact ne_false_of_eq_true rfl)⟩
  repeat x_close
  refine ⟨fun ω => ?_, fun q => (by simp only [decide_eq_false_iff_not] at q; lia)⟩
  repeat x_close
  refine yq (ch := B[0]) (by lia) hc0 ?_
  repeat x_close
  rw [show (Str.mk #[B[0]] == Str.ofString "!") = false from h0n.2.1]
  refine ⟨fun q => (by cases q), fun ω => ⟨fun q => (by cases q), fun ω => ?_⟩⟩
  repeat x_close
  refine ⟨fun ω => ?_, fun q => (by simp only [decide_eq_false_iff_not] at q; lia)⟩
  repeat x_close
  refine yq (ch := B[0]) (by lia) hc0 ?_
  repeat x_close
  rw [show (Str.mk #[B[0]] == Str.ofString "]") = false from h0n.1]
  refine ⟨fun q => (by cases q), fun ω => ⟨fun q => (by cases q), fun ω => ?_⟩⟩
  x_close
  x_close
  refine EX.mono (K := fun f loc os' => f = .next ∧ loc = [some (.str pat), some (.ref st), some (.str (Str.ofString ".")), some (.ref os.length), some (.bm "list.append" (.ref os.length)), some (.int ((qj dn).length + 1)), some (.int (qj ts).length), some (.str ⟨#[91]⟩), some (.int ((qj dn).length + 1 + B.length)), x9, x10, x11, x12] ∧
   os ++ AO.list ((jt dn).map (It.av st)) :: G = os') ?_ ?_
  rotate_left
  ·rintro f loc os' q99x; refine x_a2 q99x fun z215y z216y z217y => ?_; clear q99x; subst z215y; subst z216y; subst z217y
   have f1 := (by decide +kernel : ∀ B ∈ w4, (Builtin.Str.occurrences (S B) (Str.ofString "-") 0 (S B).length 1).isEmpty = true ∧ (Builtin.Str.occurrences (S B) (Str.ofString "\\") 0 (S B).length ((S B).length + 1)).isEmpty = true ∧ B ∈ qcn ∧ (S B == Str.ofString "!") = false) B hB
   have htab : (⟨68, 64, []⟩ : Tab) ∈ c.tabs := by rw [C.hT]; exact mem2
   obtain ⟨b0, B', rfl⟩ : ∃ b0 B', B = b0 :: B' := by
    cases B with
    | nil => simp at hBl
    | cons b0 B' => exact ⟨b0, B', rfl⟩
   have hfirst := qgq (x := b0) (r := B')
   have h0n' : (S [b0] == Str.ofString "!") = false := h0n.2.1
   obtain ⟨sB, hSB⟩ : ∃ s, S (b0 :: B') = s := ⟨_, rfl⟩
   rw [hSB] at f1 hs hB2 hfirst
   repeat x_close
   refine ⟨fun q => (by simp only [decide_eq_true_eq] at q; lia), fun ω => ?_⟩
   repeat x_close
   refine qa8 (by lia) ?_
   rw [hs]
   repeat x_close
   rw [f1.1]
   refine ⟨fun ω => ?_, fun q => (by simp at q)⟩
   repeat x_close
   refine qkv f1.2.1 ?_
   repeat x_close
   refine ⟨_, qmu C, ?_⟩
   repeat x_close
   refine qr7 C htab rfl rfl rfl ?_
   repeat x_close
   rw [← hSB]
   refine qmp C f1.2.2.1 ?_
   rw [hSB]
   repeat x_close
   have hpos : ((sB.length : Int) != 0) = true := by simp; lia
   refine qkq (by lia) ⟨fun q => (by rw [hpos] at q; cases q), fun ω => ?_⟩
   repeat x_close
   refine ⟨fun q => (by rw [f1.2.2.2] at q; cases q), fun ω => ?_⟩
   repeat x_close
   refine yq (by lia) hfirst ?_
   repeat x_close
   refine ⟨fun q => (by rw [show (Str.mk #[b0] == Str.ofString "!") = false from h0n'] at q; cases q), fun ω => ?_⟩
   repeat x_close
   refine yq (by lia) hfirst ?_
   repeat x_close
   refine zu ?_
   repeat x_close
   refine ⟨by decide, ?_⟩
   have hb0 : ([PyData.str (Str.ofString "^"), PyData.str (Str.ofString "[")].any fun y => PyData.eqv y (.str ⟨#[b0]⟩)) = false := (by decide +kernel : ∀ B ∈ w4, ([PyData.str (Str.ofString "^"), PyData.str (Str.ofString "[")].any fun y => PyData.eqv y (.str ⟨#[B.headD 0]⟩)) = false) (b0 :: B') hB
   have hcl : (PyData.str ⟨#[b0]⟩).canLay0 = true := (by decide +kernel : ∀ B ∈ w4, (PyData.str ⟨#[B.headD 0]⟩).canLay0 = true) (b0 :: B') hB
   refine qqr (d := .str ⟨#[b0]⟩) (ds := [.str (Str.ofString "^"), .str (Str.ofString "[")]) (.str _) (.cons (.str _) (.cons (.str _) .nil)) hcl (by decide +kernel) (by simp [PyData.depth]) ?_
   rw [hb0]
   refine ⟨_, rfl, fun q => (by cases q), fun ω => ?_⟩
   repeat x_close
   have el : (Str.ofString "[").length = 1 ∧ (Str.ofString "]").length = 1 := ⟨rfl, rfl⟩
   refine ⟨by lia, ?_⟩
   repeat x_close
   refine jo hget (by lia) ?_
   rw [hset]
   repeat x_close
   refine fin.out _ _ _ _ _ _ _ _ _ (by simp [y5, y6, za, zb, zc]; lia) ?_ hG
   rw [← hSB, show Str.ofString "[" = S [91] from rfl, show Str.ofString "]" = S [93] from rfl, v7, v7]
   simp [j8, j9, xc, xd, xe, qbb, qbc, qbd, qbe, qbf, qa5, qa6]
  refine zw (fun m loc os' => ∃ k : Nat, k ≤ B.length ∧ m = B.length - k ∧ loc = [some (.str pat), some (.ref st), some (.str (Str.ofString ".")), some (.ref os.length), some (.bm "list.append" (.ref os.length)), some (.int ((qj dn).length + 1)), some (.int (qj ts).length), some (.str ⟨#[91]⟩), some (.int ((qj dn).length + 1 + k)), x9, x10, x11, x12] ∧
   os ++ AO.list ((jt dn).map (It.av st)) :: G = os') B.length ⟨0, Nat.zero_le _, rfl, by rfl, rfl⟩ ?_
  rintro m loc os' q100x; refine zh q100x fun k hk z212y z213y z214y => ?_; clear q100x; subst z212y; subst z213y; subst z214y
  repeat x_close
  refine ⟨fun ω => ?_, fun q => (by simp only [decide_eq_false_iff_not] at q; lia)⟩
  repeat x_close
  rcases Nat.lt_or_ge k B.length with hk' | hk'
  ·refine yq (ch := B[k]) (by lia) (hbr.ch k hk') ?_
   repeat x_close
   rw [show (Str.mk #[B[k]] != Str.ofString "]") = true by rw [bne, show (Str.mk #[B[k]] == Str.ofString "]") = false from (hBn B[k] (List.getElem_mem _)).1]; rfl]
   refine ⟨fun ω => ?_, fun q => (by cases q)⟩
   repeat x_close
   refine ⟨fun ω => ?_, fun q => (by cases q)⟩
   repeat x_close
   exact ⟨B.length - (k + 1), by lia, k + 1, hk', rfl, by simp; lia, rfl⟩
  ·obtain rfl : k = B.length := by lia
   refine yq (ch := 93) (by lia) hbr.e ?_
   repeat x_close
   refine ⟨fun q => absurd q (by decide), fun ω => ⟨fun q => (by cases q), fun ω => ?_⟩⟩
   exact xz ⟨rfl, rfl, rfl⟩
end
end
section
section
variable {c : CX} {n : Nat} {os : List AO} {K : AV → List AO → Prop}
theorem v0 (C : c.Std) {ts : List Tk} (hok : ∀ t ∈ ts, t.ok) (hl : (qj ts).length ≤ 5000) (hu : AOs.Un os.length os) (h : K (.str (S (joined (jt ts)))) os) :
  CG c (n + 4) (.ref 50) [.str (S (qj ts))] os K := by
 have h1 := qoj hok
 have h2 := qgv ts
 have h3 := qgg ts
 refine wh C.ok (qia C.hK) (dargs := []) (fun s G vs hv => ?_) fun L => ?_
 ·obtain ⟨ω, rfl⟩ := len1 hv
  exact (y_ea [] (fun ω ω => rfl) (BindsTo.of_eq rfl))
 conv => arg 6; whnf
 show EXs c (n + 3) _ [some (.str (S (qj ts))), none, none] os _ _
 have hun1 : AOs.Un (os ++ [AO.opq]).length (os ++ [AO.opq]) := AOs.Un_app.mpr ⟨AOs.Un.le (by simp) _ hu, trivial, trivial⟩
 have hsp := fun (K : AV → List AO → Prop) => qbg (n := n + 1) (K := K) C hok (st := os.length) (os := os ++ [.opq]) (by exact List.getElem?_concat_length) (by lia) hun1
 have hlen : (os ++ [AO.opq]).length = os.length + 1 := by simp
 rw [hlen] at hsp
 have hjoin := fun (K : AV → List AO → Prop) => qok (n := n + 1) (K := K) C (k := os.length + 1) (st := os.length) (its := jt ts) (os := os ++ [AO.opq] ++ [AO.list ((jt ts).map (It.av os.length))]) (by simp) (by simp)
  (AOs.Un_app.mpr ⟨AOs.Un.le (by simp) _ hun1, qoi (by simp) _, trivial⟩) (qlh ts) (by lia)
 generalize S (qj ts) = pat at hsp ⊢
 repeat x_close
 refine qqc ?_
 repeat x_close
 refine hsp _ ?_
 repeat x_close
 refine hjoin _ ?_
 repeat x_close
 exact ⟨os, _, by rw [List.append_assoc], Nat.le_refl _, hu, trivial, h⟩
end
end
section
noncomputable def qp (f : List Nat) : List (List Nat × List Nat) → List Nat → List (List Nat × List Nat)
 | [], B => [(f, B)]
 | (p, w) :: P, B => (f, p) :: qp w P B
theorem ui : ∀ (f x : List Nat), qp f [] x = [(f, x)] := by intros; rfl
theorem uj : ∀ (f x p w : List Nat) (P : List (List Nat × List Nat)), qp f ((p, w) :: P) x = (f, p) :: qp w P x := by intros; rfl
theorem z4 : ∀ (f : List Nat) (P : List (List Nat × List Nat)) (B : List Nat), outs (qp f P B) = f :: outs P ++ [B]
 | f, [], B => rfl
 | f, (p, w) :: P, B => by
  have := z4 w P B
  simp [ui, uj, outs] at this ⊢
  exact this
theorem qkc : ∀ (Q : List (List Nat × List Nat)) (i : Nat), (outs Q)[2 * i]? = (Q[i]?).map (·.1) ∧ (outs Q)[2 * i + 1]? = (Q[i]?).map (·.2)
 | [], i => by exact ⟨rfl, rfl⟩
 | q :: Q, 0 => by exact ⟨rfl, rfl⟩
 | q :: Q, i + 1 => by
  have := qkc Q i
  rw [show outs (q :: Q) = q.1 :: q.2 :: outs Q from rfl]
  rw [show 2 * (i + 1) = 2 * i + 1 + 1 by rfl]
  simpa using this
noncomputable abbrev FSt := List (List Nat) × List (List Nat × List Nat)
noncomputable def j0 (m : Int) (st : FSt) (q : List Nat × List Nat) : FSt :=
 if (qg (st.2 ++ [q]) : Int) ≤ m ∨ st.2 = [] then (st.1, st.2 ++ [q]) else (st.1 ++ [qa st.2], [q])
structure qfp (w : Nat) (Q : List (List Nat × List Nat)) : Prop where
 f : ∀ i q, 1 ≤ i → Q[i]? = some q → q.1 = [w]
 p : ∀ i q, i + 1 < Q.length → Q[i]? = some q → ∀ x ∈ chs, q.2.getLast? ≠ some x
 z : Q.length ≤ 9000
 l : qg Q ≤ 90000
theorem qdc (xs ys : List (List Nat × List Nat)) : qg (xs ++ ys) = qg xs + qg ys := by simp [qg]
theorem yf (m : Int) : ∀ (Q : List (List Nat × List Nat)) (st : FSt) (t : List (List Nat × List Nat)), st.1.length ≤ t.length → ∃ t', t ++ (st.2 ++ Q) = t' ++ (Q.foldl (j0 m) st).2 ∧ (Q.foldl (j0 m) st).1.length ≤ t'.length
 | [], st, t, h => (y_ea t (by simp) h)
 | q :: Q, st, t, h => by
  rw [List.foldl_cons]
  by_cases hn : (qg (st.2 ++ [q]) : Int) ≤ m ∨ st.2 = []
  ·rw [show j0 m st q = (st.1, st.2 ++ [q]) from if_pos hn]
   refine x_ea (yf m Q (st.1, st.2 ++ [q]) t h) fun t' e h' => ?_
   exact (y_ea t' (by rw [← e]; simp) h')
  ·rw [show j0 m st q = (st.1 ++ [qa st.2], [q]) from if_neg hn]
   have hp : 0 < st.2.length := List.length_pos_iff.mpr fun q => hn (.inr q)
   refine x_ea (yf m Q (st.1 ++ [qa st.2], [q]) (t ++ st.2) (by simp; exact Nat.add_le_add h hp)) fun t' e h' => ?_
   exact (y_ea t' (by rw [← e]; simp) h')
theorem qgh (m : Int) (Q : List (List Nat × List Nat)) : ∃ t, Q = t ++ (Q.foldl (j0 m) ([], [])).2 ∧ (Q.foldl (j0 m) ([], [])).1.length ≤ t.length := by
 refine x_ea (yf m Q ([], []) [] (Nat.le_refl _)) fun t e h => ?_
 exact (y_ea t (by simpa using e) h)
section
variable {c : CX} {n : Nat} {os : List AO} {K : AV → List AO → Prop} {ρ : List Addr} {s : Shared} {k dn l a d : Nat} {m : Int} {ws : Str}
noncomputable abbrev putLA (os : List AO) (l a d : Nat) (st : FSt) : List AO := (os.set l (.list (sls st.1))).set a (.acc 238 d (prs st.2))
theorem VFat.putLA {lines : List (List Nat)} {cur : List (List Nat × List Nat)} {sc : Str} (V : VFat os k dn l a d m ws sc lines cur) (st : FSt) : VFat (putLA os l a d st) k dn l a d m ws sc st.1 st.2 := (V.setL st.1).setA st.2
theorem qlz {lines : List (List Nat)} {cur : List (List Nat × List Nat)} {sc : Str} (V : VFat os k dn l a d m ws sc lines cur) (st st' : FSt) (G : List AO) :
  ((Mine.putLA os l a d st ++ G).set l (.list (sls st'.1))).set a (.acc 238 d (prs st'.2)) = Mine.putLA os l a d st' ++ G := by
 obtain ⟨v1, ω⟩ := V.ne
 have hl := (List.getElem?_eq_some_iff.mp V.l_).1
 have ha := (List.getElem?_eq_some_iff.mp V.acc.1).1
 rw [List.set_append_left _ _ (by simpa using hl), List.set_append_left _ _ (by simpa using ha), List.set_comm _ _ v1.symm, List.set_set, List.set_set]
theorem qt3 {lines : List (List Nat)} {cur : List (List Nat × List Nat)} {sc : Str} (V : VFat os k dn l a d m ws sc lines cur) (ls : List (List Nat)) (cs cs' : List (List Nat × List Nat)) (G : List AO) :
  (Mine.putLA os l a d (ls, cs) ++ G).set a (.acc 238 d (prs cs')) = Mine.putLA os l a d (ls, cs') ++ G := by
 have ha := (List.getElem?_eq_some_iff.mp V.acc.1).1
 rw [List.set_append_left _ _ (by simpa using ha), List.set_set]
theorem qa1 {lines : List (List Nat)} {cur : List (List Nat × List Nat)} {sc : Str} (V : VFat os k dn l a d m ws sc lines cur) (hu : AOs.Un os.length os) (st : FSt) : AOs.Un os.length (Mine.putLA os l a d st) :=
 AOs.Un_set (o := AO.acc 238 d (prs st.2)) ⟨d_lt V, qcb _⟩ (AOs.Un_set (o := AO.list (sls st.1)) (jf _) hu)
theorem qpn (C : c.Std) (V : VFat os k dn l a d m ws SC [] []) {w : Nat} (hw : w = 32 ∨ w = 9) {Q : List (List Nat × List Nat)} (hQ : qfp w Q) {i : Nat} {q : List Nat × List Nat} (hq : Q[i]? = some q) (hu : AOs.Un os.length os) (G : List AO) (hG : AOs.Un (os.length + G.length) G)
  {st : FSt} (hst : st = (Q.take i).foldl (j0 m) ([], [])) (h : K .none (putLA os l a d (j0 m st q) ++ G)) : CG c (n + 6) (.ref 151) [.ref k, .str (S q.1), .str (S q.2)] (putLA os l a d st ++ G) K := by
 obtain ⟨ls, cs⟩ := st
 refine x_ea (qgh m (Q.take i)) fun t et hll => ?_
 rw [← hst] at et hll
 simp only at et hll
 have hi : i < Q.length := (List.getElem?_eq_some_iff.mp hq).1
 have htake : (Q.take i).length = i := by simp; lia
 have hlen : t.length + cs.length = i := by rw [← htake, et]; exact Eq.symm List.length_append
 have hQe : Q = t ++ (cs ++ q :: Q.drop (i + 1)) := by
  have e1 : Q.drop i = q :: Q.drop (i + 1) := by
   rw [List.drop_eq_getElem_cons hi]
   congr 1
   exact (List.getElem?_eq_some_iff.mp hq).2
  calc Q = Q.take i ++ Q.drop i := (List.take_append_drop i Q).symm
   _ = _ := by rw [et, e1]; exact List.append_assoc t cs (q :: List.drop (i + 1) Q)
 have hat : ∀ v, v ≤ cs.length → (cs ++ [q])[v]? = Q[t.length + v]? := fun v hv => by
  have e1 : (t ++ (cs ++ q :: Q.drop (i + 1)))[t.length + v]? = (cs ++ q :: Q.drop (i + 1))[v]? := by
   rw [List.getElem?_append_right (Nat.le_add_right _ _)]; congr 1; exact Nat.add_sub_self_left t.length v
  rw [← hQe] at e1
  rw [e1, show cs ++ q :: Q.drop (i + 1) = (cs ++ [q]) ++ Q.drop (i + 1) by exact List.append_cons cs q (List.drop (i + 1) Q), List.getElem?_append_left (l₁ := cs ++ [q]) (by simp; exact Nat.lt_succ_of_le hv)]
 have hacc : qg (cs ++ [q]) ≤ qg Q := by
  have e1 := congrArg qg hQe
  rw [show t ++ (cs ++ q :: Q.drop (i + 1)) = t ++ ((cs ++ [q]) ++ Q.drop (i + 1)) by simp, qdc, qdc] at e1
  lia
 have hz := hQ.z
 have hl := hQ.l
 have V1 := (V.putLA (ls, cs)).app G
 have hu1 : AOs.Un (Mine.putLA os l a d (ls, cs) ++ G).length (Mine.putLA os l a d (ls, cs) ++ G) := by
  refine AOs.Un_app.mpr ⟨AOs.Un.le (by simp) _ (qa1 V hu (ls, cs)), by simpa using hG⟩
 refine qac C V1 (w := w) hw (show cs.length ≤ _ by lia) (show ls.length ≤ _ by lia) (show qg (cs ++ [q]) ≤ _ by lia) hu1 ?_ ?_ ?_ ?_
 ·intro v h1 h2
  have h2 : v ≤ cs.length := h2
  have hlt : t.length + v < Q.length := by lia
  exact (y_ea _ ((hat v h2).trans (List.getElem?_eq_getElem hlt)) (hQ.f _ _ (by exact Nat.le_add_left_of_le h1) (List.getElem?_eq_getElem hlt)))
 ·intro v h2
  have h2 : v < cs.length := h2
  have hlt : t.length + v < Q.length := by lia
  exact (y_ea _ ((hat v (by exact Nat.le_of_succ_le h2)).trans (List.getElem?_eq_getElem hlt)) (hQ.p _ _ (by lia) (List.getElem?_eq_getElem hlt)))
 ·intro hc
  rw [j0, if_pos hc] at h
  rw [qt3 V]; exact h
 ·intro h1 h2
  rw [j0, if_neg (fun z => z.elim h1 h2)] at h
  have := qlz V (ls, cs) (ls ++ [qa cs], [q]) G
  rw [this]; exact h
end
end
section
section
variable {c : CX} {n : Nat} {os : List AO} {K : AV → List AO → Prop} {ρ : List Addr} {s : Shared} {k dn l a d : Nat} {m : Int} {ws : Str}
set_option maxHeartbeats 1000000 in
theorem qax (C : c.Std) (V : VFat os k dn l a d m ws SC [] []) {w : Nat} (hw : w = 32 ∨ w = 9) {P : List (List Nat × List Nat)} {B x p0 : List Nat} {r0 : List (List Nat)} (G : qdz P B) (hx : x = cat2 P ++ B) (hl : x.length ≤ 90000) (h0 : outs P ++ [B] = p0 :: r0) (hp0 : p0 ≠ []) (hp0l : p0.length ≤ 90000)
  (hQ : qfp w (qp [] P B)) (hu : AOs.Un os.length os) (h : K .none (putLA os l a d ((qp [] P B).foldl (j0 m) ([], [])))) : CG c (n + 7) (.ref 144) [.ref k, .str (S []), .str (S x), .str SC] os K := by
 have hsl : sizeLine = 16777216 := rfl
 refine wh C.ok (qaw C.hK) (dargs := []) (fun s G vs hv => ?_) fun L => ?_
 ·refine x_e4 (len4 hv) fun ω ω ω ω z209y => ?_; subst z209y
  exact (y_ea [] (fun ω ω => rfl) (BindsTo.of_eq rfl))
 show EXs c (n + 6) _ [some (.ref k), some (.str (S [])), some (.str (S x)), some (.str SC), none, none] os _ _
 conv => arg 6; whnf
 repeat x_close
 refine (y_ea _ (qmt C) ?_)
 repeat x_close
 refine qa9 (by simp [jb]; lia) ?_
 rw [show S [] ++ S x = S x by exact Str.append_left_empty rfl]
 repeat x_close
 refine qmn C G hx (by lia) ?_
 generalize hq : outs P ++ [B] = ps at h0 ⊢
 have hps : ps.length ≤ 20000 := by
  have e1 := congrArg List.length (z4 [] P B)
  have e2 := hQ.z
  rw [qey] at e1
  rw [← hq]; simp at e1 ⊢; lia
 have hflat : outs (qp [] P B) = [] :: ps := by rw [z4, ← hq]; rfl
 generalize hQe : qp [] P B = Q at hQ h hflat
 have hQl : 2 * Q.length = ps.length + 1 := by rw [← qey, hflat]; rfl
 have hpl : (os ++ [AO.list (sls ps)])[os.length]? = some (.list (sls ps)) := by exact List.getElem?_concat_length
 repeat x_close
 refine xu (xs := sls ps) (x := .str (S p0)) hpl (by decide) (.inl ⟨Int.le_refl _, by rw [h0]; rfl⟩) ?_
 refine qkq (by rw [jb]; lia) ⟨fun ω => ?_, fun q => ?_⟩
 rotate_left
 ·have := List.length_pos_iff.mpr hp0
  rw [jb] at q; simp at q; exact absurd q hp0
 repeat x_close
 refine ye ?_
 repeat x_close
 refine j7 ?_
 repeat x_close
 refine ⟨by decide, ?_⟩
 repeat x_close
 refine ql6 (k := os.length) (j := (os ++ [AO.list (sls ps)]).length) (xs := sls ps) (ns := [.str (Str.ofString "")]) (zs := [.str (Str.ofString "")] ++ sls ps) (by exact xf hpl) (by exact List.getElem?_concat_length) (by simp; lia) qrv ?_
 have eo : (os ++ [AO.list (sls ps)] ++ [AO.list [AV.str (Str.ofString "")]]).set os.length (AO.list ([AV.str (Str.ofString "")] ++ sls ps)) = os ++ [AO.list (sls ([] :: ps)), AO.list [AV.str (Str.ofString "")]] := by
  rw [List.append_assoc, List.set_append_right _ _ (Nat.le_refl _), Nat.sub_self]; rfl
 rw [eo]
 have hu3 : AOs.Un (os.length + [AO.list (sls ([] :: ps)), AO.list [AV.str (Str.ofString "")], AO.hid].length) [AO.list (sls ([] :: ps)), AO.list [AV.str (Str.ofString "")], AO.hid] := ⟨jf _, ⟨trivial, trivial⟩, trivial, trivial⟩
 have e0 : putLA os l a d ([], []) ++ [AO.list (sls ([] :: ps)), AO.list [AV.str (Str.ofString "")], AO.hid] = (os ++ [AO.list (sls ([] :: ps)), AO.list [AV.str (Str.ofString "")]]) ++ [AO.hid] := by
  have e1 : os.set l (.list (sls [])) = os := set_same V.l_
  have e2 : os.set a (.acc 238 d (prs [])) = os := set_same V.acc.1
  show (os.set l (.list (sls []))).set a (.acc 238 d (prs [])) ++ _ = _
  rw [e1, e2, List.append_assoc]; rfl
 generalize hG3 : [AO.list (sls ([] :: ps)), AO.list [AV.str (Str.ofString "")], AO.hid] = G3 at hu3 e0
 have hG3l : G3[0]? = some (.list (sls ([] :: ps))) := by rw [← hG3]; rfl
 have hG3h : G3[2]? = some .hid := by rw [← hG3]; rfl
 have hpo : ∀ st : FSt, (putLA os l a d st ++ G3)[os.length]? = some (.list (sls ([] :: ps))) ∧ (putLA os l a d st ++ G3)[os.length + 2]? = some .hid := fun st => by
  refine ⟨?_, ?_⟩ <;> rw [List.getElem?_append_right (by simp)] <;> simp [hG3l, hG3h]
 repeat x_close
 refine qmk (k := os.length) (xs := sls ([] :: ps)) (fun i lc o => (∃ fx px, lc = [some (.ref k), some fx, some (.str (S x)), some (.str SC), some (.ref os.length), px]) ∧ o = putLA os l a d ((Q.take i).foldl (j0 m) ([], [])) ++ G3) ?_ ?_ ?_ (by simp) (by simp; lia) ⟨(y_e2 _ _ rfl), e0.symm⟩ ?_ ?_ ?_
 ·repeat x_close
  exact ⟨rfl, rfl⟩
 ·repeat x_close
  exact ⟨rfl, rfl⟩
 ·repeat x_close
  exact ⟨rfl, rfl⟩
 ·rintro i lc o q94x; obtain ⟨ω, rfl⟩ := q94x
  simpa using hpo _
 ·rintro i lc o u v q95x; obtain ⟨⟨fx, px, rfl⟩, rfl⟩ := q95x; rintro hu1 hv1
  obtain ⟨q, hqi, rfl, rfl⟩ : ∃ q, Q[i]? = some q ∧ u = .str (S q.1) ∧ v = .str (S q.2) := by
   obtain ⟨g1, g2⟩ := qkc Q i
   rw [← hflat, List.getElem?_map] at hu1 hv1
   rw [g1] at hu1
   rw [g2] at hv1
   cases hq : Q[i]? with
   | none => rw [hq] at hu1; cases hu1
   | some q =>
    rw [hq] at hu1 hv1
    exact (wg q rfl ((Option.some.inj hu1).symm) ((Option.some.inj hv1).symm))
  have V3 := (V.putLA ((Q.take i).foldl (j0 m) ([], []))).app G3
  refine qfx (by k_updF) (by k_updF) ?_
  generalize hst : (Q.take i).foldl (j0 m) ([], []) = st at V3 ⊢
  repeat x_close
  refine (y_ea _ (V_fn C V3 (f := 151) (by kernel_rfl) (by kernel_rfl) (by rfl)) ?_)
  repeat x_close
  refine qpn C V hw hQ hqi hu G3 hu3 hst.symm ?_
  repeat x_close
  refine ⟨(y_e2 _ _ rfl), ?_⟩
  have ht : Q.take (i + 1) = Q.take i ++ [q] := by rw [List.take_add_one, hqi]; rfl
  rw [ht, List.foldl_append, hst]; rfl
 ·rintro i lc o q96x; obtain ⟨⟨fx, px, rfl⟩, rfl⟩ := q96x; rintro hi
  repeat x_close
  refine ⟨_, G3, rfl, by simp, ?_, trivial, ?_⟩
  ·simp only [List.length_set]
   exact qa1 V hu _
  ·rw [List.take_of_length_le (by simp at hi; lia)]; exact h
end
end
section
noncomputable def glue (sep : List Nat) : List (List Nat) → List Nat
 | [] => []
 | [x] => x
 | x :: y :: r => x ++ sep ++ glue sep (y :: r)
theorem z6 : ∀ (sep : List Nat), glue sep [] = [] := by intros; rfl
theorem z7 : ∀ (sep x_1 : List Nat), glue sep [x_1] = x_1 := by intros; rfl
theorem z8 : ∀ (sep x_1 y : List Nat) (r : List (List Nat)), glue sep (x_1 :: y :: r) = x_1 ++ sep ++ glue sep (y :: r) := by intros; rfl
theorem ur (sep : List Nat) : ∀ (xs : List (List Nat)), Str.join (S sep) (xs.map S) = S (glue sep xs)
 | [] => rfl
 | [x] => rfl
 | x :: y :: r => by
  show S x ++ S sep ++ Str.join (S sep) ((y :: r).map S) = _
  rw [ur sep (y :: r), v7, v7]; rfl
theorem qre {sep : List Nat} {xs : List (List Nat)} (h : (xs.map List.length).sum + xs.length * sep.length ≤ sizeLine) : JoinOk (S sep) (xs.map S) = true := by
 refine joinOk_of ?_
 have e1 : (xs.map S).map (·.length) = xs.map List.length := by simp [Function.comp_def, jb]
 rw [e1, jb, List.length_map]
 exact h
section
variable {c : CX} {n : Nat} {os : List AO} {K : AV → List AO → Prop} {ρ : List Addr} {s : Shared} {k dn l a d : Nat} {m : Int} {ws : Str}
theorem qmm {k : Nat} {sep : List Nat} {xs : List (List Nat)} (hk : os[k]? = some (.list (sls xs))) (hj : (xs.map List.length).sum + xs.length * sep.length ≤ sizeLine) (h : K (.str (S (glue sep xs))) os) : CG c n (.builtin "str.join") [.str (S sep), .ref k] os K := by
 refine qr8 (xs := xs.map S) (by rw [hk, qhi]) (qre hj) ?_
 show K (.str (Builtin.Str.glued (S sep) (xs.map S))) os
 rw [StrLaws.glued_eq_join, ur]; exact h
theorem qnu (C : c.Std) (V : VFat os k dn l a d m ws SC [] []) {kp pd : Nat} {es : List (Str × AV)} (hp : os[kp]? = some (.inst 154 pd)) (hpd : os[pd]? = some (.dict es)) (hes : es.lookup (Str.ofString "header_encoding") = some AV.none)
  {w : Nat} (hw : w = 32 ∨ w = 9) {P : List (List Nat × List Nat)} {B x p0 : List Nat} {r0 : List (List Nat)} (G : qdz P B) (hx : x = cat2 P ++ B) (hl : x.length ≤ 90000) (h0 : outs P ++ [B] = p0 :: r0) (hp0 : p0 ≠ []) (hp0l : p0.length ≤ 90000)
  (hQ : qfp w (qp [] P B)) (hu : AOs.Un os.length os) (h : K .none (putLA os l a d ((qp [] P B).foldl (j0 m) ([], [])))) : CG c (n + 8) (.ref 130) [.ref k, .str (Str.ofString ""), .str (S x), .ref kp] os K := by
 refine wh C.ok (qqk C.hK) (dargs := []) (fun s G vs hv => ?_) fun L => ?_
 ·refine x_e4 (len4 hv) fun ω ω ω ω z211y => ?_; subst z211y
  exact (y_ea [] (fun ω ω => rfl) (BindsTo.of_eq rfl))
 conv => arg 6; whnf
 show EXs c (n + 7) _ [some (.ref k), some (.str (S [])), some (.str (S x)), some (.ref kp), none, none, none, none] os _ _
 repeat x_close
 refine qum C (.inl hp) hpd (by kernel_rfl) hes rfl ?_
 repeat x_close
 refine qba (b := true) (fun ρ h v r => qb3 r) (y_ea _ rfl ?_)
 refine ⟨fun ω => ?_, fun q => (by cases q)⟩
 repeat x_close
 refine (y_ea _ (V_fn C V (f := 144) (by kernel_rfl) (by kernel_rfl) (by rfl)) ?_)
 repeat x_close
 refine qm7 C V ?_
 repeat x_close
 refine qax C V hw G hx hl h0 hp0 hp0l hQ hu ?_
 repeat x_close
 refine vk ?_
 exact ⟨_, [], (List.append_nil _).symm, by simp, by simpa using qa1 V hu _, trivial, h⟩
theorem qr0 (C : c.Std) {ls : List (List Nat)} {cs : List (List Nat × List Nat)} {f p : List Nat} {sep : List Nat} (V : VFat os k dn l a d m ws SC ls (cs ++ [(f, p)])) (hfa : asc f) (hpa : asc p) (hne : p ≠ []) (hz : cs.length ≤ 10000) (hlz : ls.length ≤ 10000)
  (hl : qg (cs ++ [(f, p)]) ≤ 100000) (hs : Txt.isspace (S (qa (cs ++ [(f, p)]))) = false) (hu : AOs.Un os.length os) (hj : ((ls ++ [qa (cs ++ [(f, p)])]).map List.length).sum + (ls ++ [qa (cs ++ [(f, p)])]).length * sep.length ≤ 1000000)
  (h : K (.str (S (glue sep (ls ++ [qa (cs ++ [(f, p)])])))) ((os.set l (.list (sls (ls ++ [qa (cs ++ [(f, p)])])))).set a (.acc 238 d []))) : CG c (n + 7) (.ref 102) [.ref k, .str (S sep)] os K := by
 have hsl : sizeLine = 16777216 := rfl
 refine wh C.ok (qqj C.hK) (dargs := []) (fun s G vs hv => ?_) fun L => ?_
 ·refine x_e2 (len2 hv) fun ω ω z210y => ?_; subst z210y
  exact (y_ea [] (fun ω ω => rfl) (BindsTo.of_eq rfl))
 conv => arg 6; whnf
 show EXs c (n + 6) _ [some (.ref k), some (.str (S sep))] os _ _
 repeat x_close
 refine (y_ea _ (V_fn C V (f := 116) (by kernel_rfl) (by kernel_rfl) (by rfl)) ?_)
 repeat x_close
 refine qg4 C V hfa hpa hne hz hlz hl hs hu ?_
 have V1 := (V.setL (ls ++ [qa (cs ++ [(f, p)])])).setA []
 have hu1 : AOs.Un os.length ((os.set l (.list (sls (ls ++ [qa (cs ++ [(f, p)])])))).set a (.acc 238 d [])) :=
  AOs.Un_set (o := AO.acc 238 d []) ⟨d_lt V, trivial⟩ (AOs.Un_set (o := AO.list (sls (ls ++ [qa (cs ++ [(f, p)])]))) (jf _) hu)
 have hlen1 : ((os.set l (.list (sls (ls ++ [qa (cs ++ [(f, p)])])))).set a (.acc 238 d [])).length = os.length := by simp
 generalize hL : ls ++ [qa (cs ++ [(f, p)])] = LL at V1 hu1 hlen1 h hj ⊢
 have V1' : VFat ((os.set l (.list (sls LL))).set a (.acc 238 d [])) k dn l a d m ws SC LL [] := V1
 generalize (os.set l (.list (sls LL))).set a (.acc 238 d []) = os1 at V1' hu1 hlen1 h ⊢
 repeat x_close
 refine qie C V1' ?_
 repeat x_close
 refine qmm V1'.l_ (by lia) ?_
 repeat x_close
 exact ⟨os1, [], (List.append_nil _).symm, by exact Nat.le_of_eq (id (Eq.symm hlen1)), by rw [hlen1]; exact hu1, trivial, h⟩
end
end
section
noncomputable def pcs (w : Nat) : List (List Nat) := [[97], [98, 99], [42], [63], [59], [44], [46], [35], [91, 33, 98, 45, 100, 93], [91, w, 101, 93], [w], [w, 104]]
noncomputable abbrev qr3 : List (List Nat) := [[97, 59], [98, 42], [91], [101, 93, 102], [42, 103], [35, 104]]
noncomputable def drawn (w : Nat) (nums : List Int) : List (List Nat) := nums.map fun x => ((pcs w)[(x.fmod 12).toNat]?).getD []
noncomputable def qrm (w : Nat) (nums : List Int) : List Nat := cat (drawn w nums) ++ glue [w] qr3
noncomputable abbrev qb2 (xs : List Int) : List AV := xs.map .int
theorem qtz (w : Nat) : (pcs w).length = 12 := rfl
theorem qvd (x : Int) : 0 ≤ x.fmod 12 ∧ x.fmod 12 < 12 := ⟨Int.fmod_nonneg_of_pos _ (by decide), Int.fmod_lt_of_pos _ (by decide)⟩
theorem qo9 {w : Nat} {i : Nat} : (((pcs w)[i]?).getD []).length ≤ 6 := by
 have h : ∀ y ∈ pcs w, y.length ≤ 6 := by
  intro y hy; simp [pcs] at hy; rcases hy with rfl | rfl | rfl | rfl | rfl | rfl | rfl | rfl | rfl | rfl | rfl | rfl <;> simp
 cases hq : (pcs w)[i]? with
 | none => simp
 | some y => exact h y (List.mem_of_getElem? hq)
theorem qga (w : Nat) : ∀ (nums : List Int), (cat (drawn w nums)).length ≤ 6 * nums.length
 | [] => Nat.le_refl _
 | x :: xs => by
  have h1 := qga w xs
  have h2 := qo9 (w := w) (i := (x.fmod 12).toNat)
  simp only [drawn, List.map_cons, cat, List.flatten_cons, List.length_append, List.length_cons] at *
  omega
section
variable {c : CX} {n : Nat} {os : List AO} {K : AV → List AO → Prop}
theorem qpk {xs : List (List Nat)} {i : Nat} {y : List Nat} (h : xs[i]? = some y) : (sls xs)[i]? = some (.str (S y)) := by rw [List.getElem?_map, h]; rfl
theorem qty (C : c.Std) {A : Around} {L CC P : Addr} {w : Nat} {ps : List Value} {s₃ : Shared} {m₃ : Str → Option Value} {v : Value} {x : Int} {scope : Scope} {pp px pb pz ps' : Pos} {kk : Nat} {ρ : List Addr} {h0 : Heap} {E' : Value → Shared → Prop}
  (hsc : scope = { kind := .function, names := [(".0", .local), ("x", .local), ("pieces", .free)], isGenerator := false, isCoroutine := false }) (hc : s₃.heap.IsCell (L + 1) (some (.ref P))) (hP : IsL s₃.heap P ps.toArray) (hps : VRs ρ h0 (sls (pcs w)) ps) (hn : s₃.heap.Ns CC m₃) (hx : m₃ "x" = some v) (hv : ∃ t, v = .int x t) :
  wpAny (MM c.w) A (eval (.Subscript (.Name "pieces" pp) (.BinOp (.Name "x" px) .Mod (.Constant (.int 12) kk pz) pb) ps') (compEnvC scope [("pieces", L + 1)] CC (v8 L))) (fun y s₄ => (∃ t, y = .str (S (((pcs w)[(x.fmod 12).toNat]?).getD [])) t) ∧ Keeps s₃ s₄) E' s₃ := by
 subst hsc
 obtain ⟨t, rfl⟩ := hv
 obtain ⟨f1, f2⟩ := qvd x
 have hlt : (x.fmod 12).toNat < (pcs w).length := by rw [qtz]; exact (fun {n} {z} h => (Int.toNat_lt h).mpr) f1 f2
 obtain ⟨y, hy⟩ : ∃ y, (pcs w)[(x.fmod 12).toNat]? = some y := ⟨_, List.getElem?_eq_getElem hlt⟩
 refine x_ea (hps.get (qpk hy)) fun u hu z231y => ?_; obtain ⟨t', rfl⟩ := z231y
 refine Subscript_ (wpAny_Name (wpAny_loadName_cell rfl (by kernel_rfl) (c := L + 1) rfl hc ?_) (by rfl))
 refine wpAny_BinOp (ldG hn hx (wpAny_Constant_int ?_) (hl := by kernel_rfl))
 refine mod_int (by decide) ?_
 refine xr hP.list.typeIs slot_list_getitem.lookup (wpAny_getItem_list hP.list f1 (by lia) (by simpa using hu) ?_)
 exact ⟨⟨t', by rw [hy]; rfl⟩, _, _, rfl, fun ω ω e => e⟩
theorem vn (a b : List Nat) (hl : a.length + b.length ≤ 16777216 := by simp) (h : K (.str (S (a ++ b))) os) : TV2 c n (binaryOp .Add) (.str (S a)) (.str (S b)) os K := qa9 (by assumption) (by rw [v7]; exact h)
theorem qno {e : EF} {loc : Loc} {ao : AO} {v : Expr} {x : Str} {p' p : Pos} {ca : Addr} (hev : EV c n e loc os v fun a o => a = .ref os.length ∧ o = os ++ [ao]) (hk : e.env.kindOf x = some .cell) (hc : e.env.cells.lookup x = some ca) (hL : e.env.locals < ca)
  (hs : ∀ env, swapsWith v (some (.Name x p')) p.line env = pure false) {A : Around} (hA : AR A n) {ρ : List Addr} {s : Shared} (F : FR c e loc os ρ s) (hcell : ∃ o, s.heap.get? ca = some o ∧ o.data = .cell none) (hr : ca ∉ ρ) :
  wpAny (MM c.w) A (exec (.Assign [.Name x p'] v p) e.env) (fun f s' => f = .next ∧ ∃ ρ' P, ρ'[os.length]? = some P ∧ FR c e loc (os ++ [ao]) ρ' s' ∧ Ext c.tabs [ca] ρ s ρ' s' ∧ s'.heap.IsCell ca (some (.ref P)) ∧ ca ∉ ρ') NoE s := by
 refine wpAny_Assign_Name (wpAny_mono (hev A hA ρ s F) (fun va s1 y => ?_) fun ω ω z => z) (hs _)
 obtain ⟨a, os1, ρ1, ⟨rfl, rfl⟩, H1, E1, P, hP, rfl⟩ := y
 have F1 := F.ext E1 H1
 have hB : c.B.heap.objs.size ≤ ca := Nat.le_trans F.new (Nat.le_of_lt hL)
 refine x_ea hcell fun o ho hd => ?_; clear hcell
 have nt : ca ∉ qi5 c.tabs := fun q => by
  refine x_ea (List.mem_map.mp q) fun t ht e' => ?_
  exact absurd (F.hr.gi.tab t ht).low.2 (by rw [e']; exact Nat.not_lt.mpr hB)
 have hc1 : ∃ o, s1.heap.get? ca = some o ∧ o.data = .cell none := by
  rcases E1.keep _ _ ho hr (fun z => nomatch z) nt with q | ⟨_, sl, q⟩
  ·exact ⟨_, q, hd⟩
  ·exact ⟨_, q, hd⟩
 have hr1 : ca ∉ ρ1 := fun q => absurd (Heap.lt_size ho) (Nat.not_lt.mpr (E1.new _ q hr))
 refine wpAny_storeName_cell F.ok.kind hk hc hc1 (v := .ref P) fun h' hcl sb => ?_
 refine x_ea hc1 fun o1 ho1 hd1 => ?_; clear hc1
 have hi : ¬ Imm o1 := fun z => by
  cases z with
  | tup vs h => subst h; cases hd1
  | bm id v h => subst h; cases hd1
  | fn h h' => lia
  | rng a b c t u v h => subst h; cases hd1
  | sl l u h => subst h; cases hd1
 obtain ⟨H', tp⟩ := F1.hr.out (d := s1.drawn) (tk := s1.toks) F1.hr.gi.bare (Nat.le_refl _) ho1 (fun vs q => by rw [hd1] at q; cases q) hi hB hr1 sb
 have E' := Ext.out (tabs := c.tabs) (ρ := ρ1) (s := s1) (d := s1.drawn) (tk := s1.toks) (g := s1.gens) sb
 refine x_ea F1.ns fun m hn hm => ?_
 exact ⟨rfl, ρ1, P, hP, ⟨H', F.ok, ⟨m, hn.sameBut sb (Nat.ne_of_lt hL), hm.imp fun a v => VR.imp (List.prefix_refl _) tp a v⟩, F1.out, F1.new⟩, E1.up.trans E', hcl, hr1⟩
theorem qk6 {e : EF} {loc loc' : Loc} {os' : List AO} {ao : AO} {v : Expr} {x : Str} {p' p : Pos} {ca : Addr} {st2 : Stmt} {body rest : List Stmt} {K : AF → Loc → List AO → Prop} (hbody : body = .Assign [.Name x p'] v p :: st2 :: rest) (hk : e.env.kindOf x = some .cell) (hc : e.env.cells.lookup x = some ca) (hL : e.env.locals < ca)
  (hs : ∀ env, swapsWith v (some (.Name x p')) p.line env = pure false) {A : Around} (hA : AR A n) {ρ : List Addr} {s : Shared} (F : FR c e loc os ρ s) (hcell : ∃ o, s.heap.get? ca = some o ∧ o.data = .cell none) (hr : ca ∉ ρ)
  (hev : EV c n e loc os v fun a o => a = .ref os.length ∧ o = os ++ [ao])
  (h2 : ∀ ρ s P, FR c e loc (os ++ [ao]) ρ s → s.heap.IsCell ca (some (.ref P)) → ρ[os.length]? = some P → ca ∉ ρ → wpAny (MM c.w) A (exec st2 e.env) (PostF c e ρ s fun f l o => f = .next ∧ l = loc' ∧ o = os') NoE s)
  (h3 : EXs c n e loc' os' rest K) :
  wpAny (MM c.w) A (execs body e.env) (fun f s' => ∃ af loc' os' ρ', K af loc' os' ∧ FR c e loc' os' ρ' s' ∧ Ext c.tabs [ca, e.env.locals] ρ s ρ' s' ∧ FlR ρ' s'.heap af f) NoE s := by
 subst hbody
 refine wpAny_execs_cons (wpAny_mono (qno hev hk hc hL hs hA F hcell hr) (fun f s1 y => ?_) fun ω ω z => z)
 obtain ⟨rfl, ρ1, P, hP, F1, E1, hcl, hr1⟩ := y
 refine wpAny_execs_cons (wpAny_mono (h2 ρ1 s1 P F1 hcl hP hr1) (fun f s2 y => ?_) fun ω ω z => z)
 obtain ⟨ω, ω, ω, ρ2, ⟨rfl, rfl, rfl⟩, F2, E2, rfl⟩ := y
 refine wpAny_mono (h3 A hA ρ2 s2 F2) (fun f s3 y => ?_) fun ω ω z => z
 obtain ⟨af, l3, o3, ρ3, k3, F3, E3, r3⟩ := y
 exact ⟨af, l3, o3, ρ3, k3, F3, ((E1.weaken (by simp)).trans (E2.weaken (by exact fun a a_1 => List.mem_cons_of_mem ca a_1))).trans (E3.weaken (by exact fun a a_1 => List.mem_cons_of_mem ca a_1)), r3⟩
noncomputable def isPc (w : Nat) (v y : Value) : Prop := ∃ x t t', v = .int x t ∧ y = .str (S (((pcs w)[(x.fmod 12).toNat]?).getD [])) t'
theorem qgb {w : Nat} {ρ ρ' : List Addr} {h h' : Heap} : ∀ {nums : List Int} {vs ys : List Value}, VRs ρ h (qb2 nums) vs → Paired (isPc w) vs ys → VRs ρ' h' (sls (drawn w nums)) ys
 | [], _, _, V, pr => by rw [show _ = [] from V] at pr; cases pr; rfl
 | x :: xs, _, _, ⟨v, r, e, ⟨t, e'⟩, V⟩, pr => by
  subst e e'
  cases pr with
  | cons h t =>
   refine wf h fun x' u t' e z230y => ?_; clear h; subst z230y
   injection e with e _; subst e
   exact ⟨_, _, rfl, ⟨t', rfl⟩, qgb V t⟩
theorem qnv : ∀ (vs : List Value), vs.filter (fun ω => true) = vs
 | [] => rfl
 | v :: vs => by exact filter_allG (v :: vs)
theorem qxq {k : Nat} (w : Nat) : AVs.Un k (sls (pcs w)) := jf _
noncomputable def qxt (s : Stmt) : Expr := (qg6 s).2.2
set_option maxHeartbeats 1000000 in
theorem qg7 (C : c.Std) {w kn : Nat} {nums : List Int} (hk : os[kn]? = some (.list (qb2 nums))) (hl : nums.length ≤ 100) (hu : AOs.Un os.length os) (h : K (.str (S (qrm w nums))) os) :
  CG c (n + 1) (.ref 254) [.ref kn, .str (S [w])] os K := by
 have hz : sizeLine = 16777216 := rfl
 obtain ⟨body, hb⟩ : ∃ b, qu (jj 20) = b := ⟨_, rfl⟩
 refine qun C hb fun L e A ρ s he hA F hcell hLr => ?_
 have k1 : e.env.kindOf "pieces" = some .cell := by subst he; kernel_rfl
 have k2 : e.env.cells.lookup ("pieces" : Str) = some (L + 1) := by subst he; kernel_rfl
 have k3 : e.env.locals < L + 1 := by subst he; exact Nat.lt_succ_self _
 refine qk6 hb.symm k1 k2 k3 (ao := .list (sls (pcs w))) (loc' := [some (.ref kn), some (.str (S [w])), some (.ref (os.length + 1))]) (os' := os ++ [.list (sls (pcs w))] ++ [.list (sls (drawn w nums))]) ?_ hA F hcell hLr ?_ ?_ ?_
 ·exact fun ω => rfl
 ·subst he
  refine j7 ?_
  repeat x_close
  refine vn [91] [w] (h := ?_)
  repeat x_close
  refine vn [91, w] [101, 93] (h := ?_)
  repeat x_close
  refine vn [w] [104] (h := ?_)
  repeat x_close
  exact ⟨by exact (fun {α} {l} {i} => List.getElem?_eq_none_iff.mp) rfl, rfl, rfl⟩
 ·intro ρ1 s1 P F1 hcl hP hr1
  have hk1 : (os ++ [AO.list (sls (pcs w))])[kn]? = some (.list (qb2 nums)) := xf hk
  refine qbl (cl := [("pieces", L + 1)]) (k := kn) (xs := qb2 nums) (zs := sls (drawn w nums)) (os2 := os ++ [AO.list (sls (pcs w))]) hA F1 (fun ω => true) (isPc w) ?_ (by simp; lia) ?_ ?_ ?_ ?_ ?_ ?_ ?_ ?_ (fun ρ h vs ys V pr ρ' h' => qgb V (by rw [qnv] at pr; exact pr)) ⟨rfl, rfl, rfl⟩
  ·subst he
   exact zv .here ⟨rfl, hk1, rfl⟩ A hA ρ1 s1 F1
  ·subst he; kernel_rfl
  ·subst he; kernel_rfl
  ·decide
  ·rfl
  ·decide
  ·rfl
  ·subst he
   have : (os ++ [AO.list (sls (pcs w))]).length = os.length + 1 := by simp
   rw [this]
   exact .there (.there .here)
  ·intro ρ2 s2 s3 vs it F2 E2 rv kp hit
   refine x_ea (F2.hr.objs os.length (.list (sls (pcs w))) (by exact List.getElem?_concat_length)) fun P' hP' OL => ?_
   refine x_ea OL fun ps hL rp => ?_; clear OL
   have hPP : P' = P := by
    have := yb E2.pre hP
    rw [hP'] at this; exact Option.some.inj this
   subst hPP
   have hc2 : s2.heap.IsCell (L + 1) (some (.ref P')) := by
    refine x_ea hcl fun o ho hd => ?_; clear hcl
    have nt : L + 1 ∉ qi5 c.tabs := fun q => by
     refine x_ea (List.mem_map.mp q) fun t ht e' => ?_
     exact absurd (F1.hr.gi.tab t ht).low.2 (by rw [e']; exact Nat.not_lt.mpr (Nat.le_trans F1.new (by exact Nat.le_of_succ_le k3)))
    rcases E2.keep _ _ ho hr1 (fun z => nomatch z) nt with q | ⟨_, sl, q⟩
    ·exact ⟨_, q, hd⟩
    ·exact ⟨_, q, hd⟩
   refine ⟨fun C i v s₃ m₃ E' ω ω ω ω ω ω => by rw [List.forIn_nil]; exact wpAny_pure ⟨rfl, _, _, rfl, fun ω ω e => e⟩, fun CC i v s₃ m₃ E' ω hv ω hn hx hk' ω => ?_⟩
   have kk : ∀ b o, s2.heap.get? b = some o → s₃.heap.get? b = some o := fun b o e => hk' b o (by simp; exact Nat.ne_of_lt (Nat.lt_of_lt_of_le (Heap.lt_size e) hit)) (kp b o e)
   obtain ⟨x, hx'⟩ : ∃ x, nums[i]? = some x := by
    have hv' : vs[i]? = some v := by simpa using hv
    have h1 := (List.getElem?_eq_some_iff.mp hv').1
    rw [rv.length, List.length_map] at h1
    exact ⟨_, List.getElem?_eq_getElem h1⟩
   refine x_ea (rv.get (x := .int x) (n := i) (by rw [List.getElem?_map, hx']; rfl)) fun u hu' z229y => ?_; obtain ⟨t, rfl⟩ := z229y
   have hv' : vs[i]? = some v := by simpa using hv
   rw [hu'] at hv'; cases hv'
   subst he
   refine wpAny_mono (qty C rfl (hc2.keeps kk) (hL.at fun o e => kk _ o e) rp hn hx ⟨t, rfl⟩) (fun y s4 z => ?_) fun ω ω z => z
   obtain ⟨⟨t', rfl⟩, z⟩ := z
   exact ⟨⟨x, t, t', rfl, rfl⟩, z⟩
 ·subst he
  have hd := qga w nums
  repeat x_close
  refine qh2 (xs := drawn w nums) (by simp) (by lia) ?_
  repeat x_close
  refine j7 ?_
  repeat x_close
  refine ⟨by decide, ?_⟩
  repeat x_close
  refine qmm (sep := [w]) (xs := qr3) (by exact List.getElem?_concat_length) (by exact fit_le rfl) ?_
  refine vn (cat (drawn w nums)) (glue [w] qr3) (by have : (glue [w] qr3).length = 17 := rfl; lia) ?_
  repeat x_close
  exact ⟨os, _, by rw [List.append_assoc, List.append_assoc], Nat.le_refl _, hu, trivial, h⟩
end
end
section
section
variable {c : CX} {n : Nat} {os : List AO} {K : AV → List AO → Prop}
set_option maxHeartbeats 2000000 in
theorem qij (C : c.Std) {m : Int} {w : Nat} (hw : w = 32 ∨ w = 9) {P : List (List Nat × List Nat)} {B x p0 : List Nat} {r0 : List (List Nat)} (G : qdz P B) (hx : x = cat2 P ++ B) (hl : x.length ≤ 90000) (h0 : outs P ++ [B] = p0 :: r0) (hp0 : p0 ≠ []) (hp0l : p0.length ≤ 90000)
  (hQ : qfp w (qp [] P B)) {ls : List (List Nat)} {cs : List (List Nat × List Nat)} {f p : List Nat} (hst : (qp [] P B).foldl (j0 m) ([], []) = (ls, cs ++ [(f, p)])) (hfa : asc f) (hpa : asc p) (hne : p ≠ []) (hz : cs.length ≤ 10000) (hlz : ls.length ≤ 10000)
  (hl2 : qg (cs ++ [(f, p)]) ≤ 100000) (hs : Txt.isspace (S (qa (cs ++ [(f, p)]))) = false) (hj : ((ls ++ [qa (cs ++ [(f, p)])]).map List.length).sum + (ls ++ [qa (cs ++ [(f, p)])]).length * 1 ≤ 1000000)
  (hu : AOs.Un os.length os) (h : K (.str (S (glue [10] (ls ++ [qa (cs ++ [(f, p)])])))) os) : CG c (n + 9) (.ref 261) [.str (S x), .int m] os K := by
 refine wh C.ok (qd1 C.hK) (dargs := []) (fun s G vs hv => ?_) fun L => ?_
 ·refine x_e2 (len2 hv) fun ω ω z232y => ?_; subst z232y
  exact (y_ea [] (fun ω ω => rfl) (BindsTo.of_eq rfl))
 conv => arg 6; whnf
 show EXs c (n + 8) _ [some (.str (S x)), some (.int m), none, none] os _ _
 repeat x_close
 refine qss C (m := 0) (ws := Str.ofString "") (sc := Str.ofString "") (by decide) hu ?_
 repeat x_close
 refine qo C ?_
 repeat x_close
 have hd1 : ∀ a b d e (q : AO), (os ++ [a, b, d, e, q])[os.length]? = some a ∧ (os ++ [a, b, d, e, q])[os.length + 1]? = some b ∧ (os ++ [a, b, d, e, q])[os.length + 2]? = some d ∧ (os ++ [a, b, d, e, q])[os.length + 3]? = some e ∧ (os ++ [a, b, d, e, q])[os.length + 4]? = some q := fun a b d e q => by simp
 refine (w5 (os.length + 1) 154 os.length _ rfl uk (.inl (hd1 _ _ _ _ _).2.1) ((hd1 _ _ _ _ _).1) (by kernel_rfl) (show 6 ≤ 1000 by decide) ?_)
 have hset : ∀ a a' b d e (q : AO), (os ++ [a, b, d, e, q]).set os.length a' = os ++ [a', b, d, e, q] := fun a a' b d e q => by rw [List.set_append_right _ _ (Nat.le_refl _), Nat.sub_self]; rfl
 rw [hset]
 obtain ⟨es1, hes1⟩ : ∃ es1, putE (Str.ofString "header_encoding") AV.none (vfE 0 (Str.ofString "") (Str.ofString "") (os.length + 2) (os.length + 4)) = es1 := ⟨_, rfl⟩
 have hlk : es1.lookup (Str.ofString "header_encoding") = some AV.none := by rw [← hes1]; rfl
 have hun1 : AOs.Un (os.length + 5) [AO.dict es1, AO.inst 154 os.length, AO.list [], AO.dict accE, AO.acc 238 (os.length + 3) []] := by
  rw [← hes1]
  refine ⟨⟨trivial, trivial, trivial, trivial, ?_, ?_, trivial, trivial⟩, ?_, trivial, ⟨trivial, trivial⟩, ⟨?_, trivial⟩, trivial⟩ <;> first | (show os.length + _ < os.length + 5; simp) | (show os.length < os.length + 5; simp)
 rw [hes1]
 obtain ⟨g1, hg1⟩ : ∃ g, [AO.dict es1, AO.inst 154 os.length, AO.list [], AO.dict accE, AO.acc 238 (os.length + 3) []] = g := ⟨_, rfl⟩
 have hp := (hd1 (AO.dict es1) (AO.inst 154 os.length) (AO.list []) (AO.dict accE) (AO.acc 238 (os.length + 3) [])).2.1
 have hpd := (hd1 (AO.dict es1) (AO.inst 154 os.length) (AO.list []) (AO.dict accE) (AO.acc 238 (os.length + 3) [])).1
 have hgl : g1.length = 5 := by rw [← hg1]; rfl
 rw [hg1] at hun1 hp hpd ⊢
 obtain ⟨os1, hos1⟩ : ∃ o, os ++ g1 = o := ⟨_, rfl⟩
 have hl1 : os1.length = os.length + 5 := by rw [← hos1, List.length_append, hgl]
 have hu1 : AOs.Un os1.length os1 := by rw [hl1, ← hos1]; exact AOs.Un_app.mpr ⟨AOs.Un.le (by simp) _ hu, hun1⟩
 rw [hos1] at hp hpd ⊢
 repeat x_close
 refine qss C (m := m) (ws := Str.ofString " ") (sc := SC) (by decide) hu1 ?_
 obtain ⟨os2, hos2⟩ : ∃ o, os1 ++ [AO.dict (vfE m (Str.ofString " ") SC (os1.length + 2) (os1.length + 4)), AO.inst 154 os1.length, AO.list [], AO.dict accE, AO.acc 238 (os1.length + 3) []] = o := ⟨_, rfl⟩
 have V : VFat os2 (os1.length + 1) os1.length (os1.length + 2) (os1.length + 4) (os1.length + 3) m (Str.ofString " ") SC [] [] := by
  rw [← hos2]; exact ⟨by simp, by simp, by simp, ⟨by simp, by simp⟩⟩
 have hp2 : os2[os.length + 1]? = some (.inst 154 os.length) := by rw [← hos2]; exact xf hp
 have hpd2 : os2[os.length]? = some (.dict es1) := by rw [← hos2]; exact xf hpd
 have hu2 : AOs.Un os2.length os2 := by
  rw [← hos2]
  refine AOs.Un_app.mpr ⟨AOs.Un.le (by simp) _ hu1, ⟨⟨trivial, trivial, trivial, trivial, ?_, ?_, trivial⟩, ?_, trivial, ⟨trivial, trivial⟩, ⟨?_, trivial⟩, trivial⟩⟩ <;> simp [zi, zj, zk, zm, zo, zp, zq, qhp, qhq, qhr, qhs, qht, qhu, qhv]
 have hpre : ∃ g, os2 = os ++ g := ⟨_, by rw [← hos2, ← hos1, List.append_assoc]⟩
 rw [hos2]
 repeat x_close
 refine (y_ea _ (V_fn C V (f := 130) (by kernel_rfl) (by kernel_rfl) (by rfl)) ?_)
 repeat x_close
 refine qnu C V hp2 hpd2 hlk hw G hx hl h0 hp0 hp0l hQ hu2 ?_
 rw [hst]
 have V3 := V.putLA (ls, cs ++ [(f, p)])
 have hu3 := qa1 V hu2 (ls, cs ++ [(f, p)])
 have hlen3 : (putLA os2 (os1.length + 2) (os1.length + 4) (os1.length + 3) (ls, cs ++ [(f, p)])).length = os2.length := by simp
 obtain ⟨os3, hos3⟩ : ∃ o, putLA os2 (os1.length + 2) (os1.length + 4) (os1.length + 3) (ls, cs ++ [(f, p)]) = o := ⟨_, rfl⟩
 have hpre3 : ∃ g, os3 = os ++ g := by
  obtain ⟨g, hg⟩ := hpre
  rw [← hos3, hg]
  rw [putLA, List.set_append_right _ _ (by lia), List.set_append_right _ _ (by lia)]
  exact ⟨_, rfl⟩
 rw [hos3] at V3 hu3 hlen3 ⊢
 repeat x_close
 refine (y_ea _ (V_fn C V3 (f := 102) (by kernel_rfl) (by kernel_rfl) (by rfl)) ?_)
 repeat x_close
 refine qr0 (sep := [10]) C V3 hfa hpa hne hz hlz hl2 hs (by rw [hlen3]; exact hu3) hj ?_
 repeat x_close
 obtain ⟨g, hg⟩ := hpre3
 rw [hg, List.set_append_right _ _ (by lia), List.set_append_right _ _ (by lia)]
 exact ⟨os, _, rfl, Nat.le_refl _, hu, trivial, h⟩
end
end
section
noncomputable abbrev RSt := List (List Nat) × List Nat
noncomputable def qh (m : Int) (st : RSt) (p : List Nat) : RSt := if st ≠ ([], []) ∧ m < (st.2.length + p.length : Nat) then (st.1 ++ [st.2], p) else (st.1, st.2 ++ p)
theorem qi0 (m : Int) (st : RSt) (p : List Nat) : (qh m st p).1.length ≤ st.1.length + 1 ∧ (qh m st p).2.length ≤ st.2.length + p.length := by
 unfold qh; split <;> simp
theorem qkj (m : Int) : ∀ (ps : List (List Nat)) (st : RSt), (ps.foldl (qh m) st).1.length ≤ st.1.length + ps.length ∧ (ps.foldl (qh m) st).2.length ≤ st.2.length + (ps.map List.length).sum
 | [], st => by simp
 | p :: ps, st => by
  have h1 := qi0 m st p
  have h2 := qkj m ps (qh m st p)
  simp only [List.foldl_cons, List.length_cons, List.map_cons, List.sum_cons] at *
  lia
theorem qte {a b : List Nat} (ha : asc a) (hb : asc b) : asc (a ++ b) := fun x hx => (List.mem_append.mp hx).elim (ha x) (hb x)
theorem qki (m : Int) : ∀ (ps : List (List Nat)) (st : RSt), (∀ p ∈ ps, asc p) → (∀ x ∈ st.1 ++ [st.2], asc x) → ∀ x ∈ (ps.foldl (qh m) st).1 ++ [(ps.foldl (qh m) st).2], asc x
 | [], st, _, h => h
 | p :: ps, st, hp, h => by
  refine qki m ps (qh m st p) (fun q hq => hp q (.tail _ hq)) ?_
  have h1 : asc st.2 := h _ (by exact List.mem_concat_self)
  have h2 := hp p (.head _)
  unfold qh
  split
  ·intro x hx
   simp at hx
   rcases hx with hx | rfl | rfl
   ·exact h x (by exact List.mem_append_left [st.snd] hx)
   ·exact h1
   ·exact h2
  ·intro x hx
   simp at hx
   rcases hx with hx | rfl
   ·exact h x (by exact List.mem_append_left [st.snd] hx)
   ·exact qte h1 h2
section
variable {c : CX} {n : Nat} {os : List AO} {K : AV → List AO → Prop}
theorem qkn {ps : List (List Nat)} {i : Nat} {p : List Nat} (h : ps[i]? = some p) : ((ps.take i).map List.length).sum + p.length ≤ (ps.map List.length).sum := by
 induction ps generalizing i with
 | nil => simp at h
 | cons q ps ih =>
  cases i with
  | zero => simp at h; subst h; simp
  | succ i => have := ih (by simpa using h); simp at *; lia
theorem qlc {α β : Type} {f : β → α → β} {l : List α} {i : Nat} {x : α} {b : β} (h : l[i]? = some x) : f ((l.take i).foldl f b) x = (l.take (i + 1)).foldl f b := by
 exact Eq.symm (foldl_take_succ f b h)
set_option maxHeartbeats 2000000 in
theorem qph (C : c.Std) {x : List Nat} {w t : Nat} {m : Int} {ps : List (List Nat)} (ht : t < c.B.toks) (ht0 : 0 < t) (hw : w ≠ 10) (hx : x.length ≤ 100000) (hsp : Txt.split (Txt.replace (S x) (S [w]) (S [10, w])) (S [10]) = ps.map S) (hpa : ∀ p ∈ ps, asc p) (hps : (ps.map List.length).sum ≤ 200000) (hpl : ps.length ≤ 100000)
  (hrl : (Txt.replace (S x) (S [w]) (S [10, w])).length ≤ 1000000) (hu : AOs.Un os.length os) (h : K (.ref os.length) (os ++ [.list (sls ((ps.foldl (qh m) ([], [])).1 ++ [(ps.foldl (qh m) ([], [])).2]))])) : CG c (n + 1) (.ref 268) [.str (S x), .strT (S [w]) t, .int m] os K := by
 have hz : sizeLine = 16777216 := rfl
 refine wh C.ok (qh8 C.hK) (dargs := []) (fun s G vs hv => ?_) fun L => ?_
 ·refine x_e3 (len3 hv) fun ω ω ω z242y => ?_; subst z242y
  exact (y_ea [] (fun ω ω => rfl) (BindsTo.of_eq rfl))
 conv => arg 6; whnf
 show EXs c n _ [some (.str (S x)), some (.strT (S [w]) t), some (.int m), none, none] os _ _
 x_close
 x_close
 refine j7 ?_
 repeat x_close
 refine ⟨by decide, ?_⟩
 repeat x_close
 refine qc9 ?_
 repeat (fail_if_success (with_reducible show EV _ _ _ _ _ (.Call (.Attribute (.Name "text" _) _ _) _ _ _) _)); x_close
 refine qp9 (by dl_there) ht0 ht (by decide) (by exact KWk.ne1 rfl) (by exact Nat.le_of_ble_eq_true rfl) (by rfl) ?_
 rw [show Str.ofString "\n" ++ S [w] = S [10, w] from by rfl]
 repeat x_close
 refine ⟨by rw [jb]; lia, ?_⟩
 generalize hR : Txt.replace (S x) (S [w]) (S [10, w]) = R at hsp hrl ⊢
 repeat x_close
 refine qh3 (by rfl) (by lia) ?_
 rw [show Str.ofString "\n" = S [10] from rfl, hsp, ← qhi]
 have hst0 : os ++ [AO.list [AV.str (Str.ofString "")]] ++ [AO.list (sls ps)] = os ++ AO.list (sls ((([], []) : RSt).1 ++ [(([], []) : RSt).2])) :: AO.list (sls ps) :: [] := by rw [List.append_assoc]; rfl
 rw [hst0]
 refine (u8 (fun i => (sls ps)[i]?) ps.length (fun i lc o => ∃ G pc, AOs.Un 0 G ∧ o = os ++ AO.list (sls (((ps.take i).foldl (qh m) ([], [])).1 ++ [((ps.take i).foldl (qh m) ([], [])).2])) :: AO.list (sls ps) :: G ∧ lc = [some (.str (S x)), some (.strT (S [w]) t), some (.int m), some (.ref os.length), pc]) (jk [] _ trivial rfl rfl) ?_ ?_ ?_ ?_)
 ·intro i y hy
  have := (List.getElem?_eq_some_iff.mp hy).1
  simpa using this
 ·have hlen : (os ++ [AO.list [AV.str (Str.ofString "")]]).length = os.length + 1 := by simp
  rw [hlen]
  refine qgu (xs := sls ps) (by simp) ?_ (fun it v => rfl)
  rintro i o q108x; refine qw q108x fun lc G pc hG z240y z241y => ?_; clear q108x; subst z240y; subst z241y
  simp
 ·rintro i y lc o q109x; refine qc q109x fun G pc hG z238y z239y => ?_; clear q109x; subst z238y; subst z239y; rintro hy
  obtain ⟨q, hq, rfl⟩ : ∃ q, ps[i]? = some q ∧ y = .str (S q) := by
   cases hp : ps[i]? with
   | none => simp [hp] at hy
   | some q => exact (y_ea q rfl (by simp [hp] at hy; exact hy.symm))
  have hqa := hpa q (List.mem_of_getElem? hq)
  have hsum := qkn hq
  have hrl := qkj m (ps.take i) ([], [])
  have hra := qki m (ps.take i) ([], []) (fun p hp => hpa p (List.mem_of_mem_take hp)) (by simp; intro x hx; cases hx)
  have hstep := qlc (f := qh m) (b := ([], [])) hq
  have htl : (ps.take i).length ≤ ps.length := by simp; exact Nat.min_le_right i ps.length
  generalize (ps.take i).foldl (qh m) ([], []) = st at hrl hra hstep ⊢
  obtain ⟨ls, cur⟩ := st
  simp only [List.length_nil, Nat.zero_add] at hrl
  have hget : ∀ (xs : List AV) (G' : List AO), (os ++ AO.list xs :: AO.list (sls ps) :: G')[os.length]? = some (.list xs) := fun xs G' => by simp
  have hset : ∀ (xs ys : List AV) (G' : List AO), (os ++ AO.list xs :: AO.list (sls ps) :: G').set os.length (.list ys) = os ++ AO.list ys :: AO.list (sls ps) :: G' := fun xs ys G' => by rw [List.set_append_right _ _ (Nat.le_refl _), Nat.sub_self]; rfl
  have hsn : ∀ (a : List (List Nat)) (b : List Nat), sls (a ++ [b]) = sls a ++ [.str (S b)] := fun a b => by simp
  have hls : ls.length ≤ 100000 ∧ cur.length ≤ 200000 ∧ q.length ≤ 200000 ∧ cur.length + q.length ≤ 200000 := by lia
  refine xt (by k_updF) ?_
  refine qx (EX.mono (K := fun f l o => f = .next ∧ l = [some (.str (S x)), some (.strT (S [w]) t), some (.int m), some (.ref os.length), some (.str (S q))] ∧ ∃ G' ls' cur', AOs.Un 0 G' ∧ o = os ++ AO.list (sls (ls' ++ [cur'])) :: AO.list (sls ps) :: G' ∧ qh m (ls, cur) q = (ls', cur' ++ q) ∧ cur'.length ≤ cur.length ∧ ls'.length ≤ 100001) ?_ ?_)
  rotate_left
  ·rintro f l o q110x; refine x_a2 q110x fun z235y z236y z237y => ?_; clear q110x; subst z235y; subst z236y; refine ym z237y fun G' ls' cur' hG' z243y hr z244y => ?_; clear z237y; subst z243y; obtain ⟨hc1, hc2⟩ := z244y
   dsimp only [Then]
   refine qx (qcs ?_)
   repeat x_close
   rw [hsn]
   refine (qpy os.length (sls ls') (.str (S cur')) rfl rfl (hget _ _) ?_)
   repeat x_close
   refine qab (by rw [jb, jb]; lia) ?_
   refine (y_ea _ (hget _ _) ?_)
   rw [hset, v7, ← hsn]
   repeat x_close
   exact ⟨G', _, hG', by rw [← hstep, hr], rfl⟩
  refine qs7 ?_
  repeat x_close
  refine j7 ?_
  repeat x_close
  refine ⟨by decide, ?_⟩
  have hra' : ∀ x ∈ ls ++ [cur], asc x := hra
  have hsh := qan hra'
  have e2 : (os ++ AO.list (sls ((ls, cur).1 ++ [(ls, cur).2])) :: AO.list (sls ps) :: G) ++ [AO.list [AV.str (Str.ofString "")]] = os ++ AO.list (sls (ls ++ [cur])) :: AO.list (sls ps) :: (G ++ [AO.list [AV.str (Str.ofString "")]]) := by simp
  have hG2 : AOs.Un 0 (G ++ [AO.list [AV.str (Str.ofString "")]]) := AOs.Un_app.mpr ⟨hG, ⟨trivial, trivial⟩, trivial⟩
  have hl2 : (os ++ AO.list (sls ((ls, cur).1 ++ [(ls, cur).2])) :: AO.list (sls ps) :: G).length = os.length + (G.length + 2) := by simp
  have hg2 : (os ++ AO.list (sls (ls ++ [cur])) :: AO.list (sls ps) :: (G ++ [AO.list [AV.str (Str.ofString "")]]))[os.length + (G.length + 2)]? = some (.list (sls [[]])) := by
   rw [List.getElem?_append_right (by simp)]
   simp
   rfl
  rw [e2, hl2]
  generalize G ++ [AO.list [AV.str (Str.ofString "")]] = G2 at hG2 hg2 ⊢
  refine uh (x := .list (sld (ls ++ [cur]))) (y := .list (sld [[]])) (.ref (hget _ _) (qao _)) (.ref hg2 (qao _)) hsh (qan (by intro x hx; simp at hx; subst hx; intro y hy; cases hy)) ?_
  rw [show PyData.eqv (.list (sld (ls ++ [cur]))) (.list (sld [[]])) = PyData.eqvAll (sld (ls ++ [cur])) (sld [[]]) from rfl, qeh]
  have hnil : ((ls ++ [cur]) == [[]]) = true ↔ (ls, cur) = ([], []) := by
   rw [beq_iff_eq]
   cases ls with
   | nil => simp
   | cons a r => simp
  refine (wg _ rfl (fun q1 => ?_) (fun q1 => ⟨fun q => (by cases q), fun ω => ?_⟩))
  rotate_left
  ·repeat x_close
   have : (ls, cur) = ([], []) := hnil.mp (by simpa using q1)
   exact (y_a2 rfl rfl (u8 G2 ls cur hG2 rfl (by unfold qh; rw [if_neg (by exact (fun {a b} => not_and.mpr) fun a a_1 => a this)]) (Nat.le_refl _) (by lia)))
  have hne : (ls, cur) ≠ ([], []) := fun q => by rw [hnil.mpr q] at q1; lia
  repeat x_close
  rw [hsn]
  have hlast : (sls ls ++ [AV.str (S cur)])[((-1 : Int) + ((sls ls ++ [AV.str (S cur)]).length : Nat)).toNat]? = some (.str (S cur)) := by
   simp
   rw [show ((-1 : Int) + ((ls.length : Int) + 1)).toNat = ls.length by lia]
   simp
  refine xu (x := .str (S cur)) (hget _ _) (by decide) (.inr (y_a2 (by decide) (by simp; lia) hlast)) ?_
  repeat x_close
  refine uf (by rw [jb]; lia) ?_
  repeat x_close
  refine uf (by rw [jb]; lia) ?_
  repeat x_close
  rw [jb, jb]
  refine ⟨fun q2 => ?_, fun q2 => ⟨fun q => (by cases q), fun ω => ?_⟩⟩
  ·x_close
   refine ⟨fun ω => ?_, fun q => (by cases q)⟩
   repeat x_close
   refine yk ⟨_, hget _ _⟩ ?_
   repeat x_close
   refine zx (hget _ _) (by simp; lia) ?_
   rw [hset]
   repeat x_close
   refine (y_a2 rfl rfl (u8 G2 (ls ++ [cur]) [] hG2 (by rw [hsn, hsn]; rfl) ?_ (Nat.zero_le _) (by simp; simp only [*])))
   unfold qh
   rw [if_pos ⟨hne, by simpa using q2⟩]; rfl
  ·repeat x_close
   refine (y_a2 rfl rfl (u8 G2 ls cur hG2 (by rw [hsn]) ?_ (Nat.le_refl _) (by lia)))
   unfold qh
   rw [if_neg (by simp only [decide_eq_false_iff_not] at q2; intro z; exact q2 (by simpa using z.2))]
 ·rintro i lc o q111x; refine qc q111x fun G pc hG z233y z234y => ?_; clear q111x; subst z233y; subst z234y; rintro hy
  have hi : ps.length ≤ i := by
   have := List.getElem?_eq_none_iff.mp hy
   simpa using this
  rw [List.take_of_length_le hi]
  repeat x_close
  exact ⟨os ++ [AO.list (sls ((ps.foldl (qh m) ([], [])).1 ++ [(ps.foldl (qh m) ([], [])).2]))], _, by rw [List.append_assoc]; rfl, by simp, qbm (more := [AO.list (sls ((ps.foldl (qh m) ([], [])).1 ++ [(ps.foldl (qh m) ([], [])).2]))]) hu ⟨jf _, trivial⟩ (by simp), by simp [AF.val, AV.Un], h⟩
end
end
section
noncomputable def begs (w : Nat) : Nat → List (List Nat) → List Nat
 | _, [] => []
 | s, r :: rs => (s + r.count w) :: begs w (s + r.count w) rs
theorem qd6 : ∀ (w x : Nat), begs w x [] = [] := by intros; rfl
theorem qd7 : ∀ (w x : Nat) (r : List Nat) (rs : List (List Nat)), begs w x (r :: rs) = (x + List.count w r) :: begs w (x + List.count w r) rs := by intros; rfl
theorem qd4 (w : Nat) : ∀ (s : Nat) (rs : List (List Nat)) (r : List Nat), begs w s (rs ++ [r]) = begs w s rs ++ [s + (rs.map (List.count w)).sum + r.count w]
 | s, [], r => by rfl
 | s, a :: rs, r => by simp [qd6, qd7, qd4 w _ rs r]; exact Nat.add_assoc s (List.count w a) (List.map (List.count w) rs).sum
theorem qd5 (w : Nat) : ∀ (s : Nat) (rs : List (List Nat)), (begs w s rs).length = rs.length
 | _, [] => rfl
 | s, r :: rs => by simp [qd6, qd7, qd5 w _ rs]
noncomputable def qay (w : Nat) (bs : List Nat) (i : Nat) (p : List Nat) : List Nat := (if i ∈ bs then [10] else []) ++ w :: p
noncomputable def yd (w : Nat) (bs : List Nat) (p0 : List Nat) : Nat → List (List Nat) → List Nat
 | _, [] => p0
 | i, p :: ps => yd w bs (p0 ++ qay w bs i p) (i + 1) ps
theorem qvn : ∀ (w : Nat) (bs p0 : List Nat) (x : Nat), yd w bs p0 x [] = p0 := by intros; rfl
theorem qow : ∀ (w : Nat) (bs p0 : List Nat) (x : Nat) (r : List Nat) (rs : List (List Nat)), yd w bs p0 x (r :: rs) = yd w bs (p0 ++ qay w bs x r) (x + 1) rs := by intros; rfl
theorem qdk (w : Nat) (bs : List Nat) : ∀ (ps : List (List Nat)) (p0 : List Nat) (i : Nat) (p : List Nat), yd w bs p0 i (ps ++ [p]) = yd w bs p0 i ps ++ qay w bs (i + ps.length) p
 | [], p0, i, p => by rfl
 | a :: ps, p0, i, p => by
  rw [List.cons_append]; unfold yd
  rw [qdk w bs ps]
  simp only [List.length_cons]
  rw [show i + 1 + ps.length = i + (ps.length + 1) by exact Nat.succ_add_eq_add_succ i ps.length]
theorem qdl (w : Nat) (bs : List Nat) : ∀ (ps : List (List Nat)) (p0 : List Nat) (i : Nat), (yd w bs p0 i ps).length ≤ p0.length + (ps.map List.length).sum + 2 * ps.length
 | [], p0, i => by exact Nat.le_add_right (yd w bs p0 i []).length (2 * [].length)
 | a :: ps, p0, i => by
  have h := qdl w bs ps (p0 ++ qay w bs i a) (i + 1)
  unfold yd
  have h2 : (qay w bs i a).length ≤ a.length + 2 := by unfold qay; split <;> simp <;> lia
  simp only [List.length_append, List.map_cons, List.sum_cons, List.length_cons] at *
  lia
section
variable {c : CX} {n : Nat} {os : List AO} {K : AV → List AO → Prop}
theorem qsx (N : Nat) : Builtin.Range.rangeSize 1 (N : Nat) 1 = if (1 : Int) < N then (N : Int) - 1 else 0 := by
 exact rangeSize_one 1 ↑N
theorem qhc {N i : Nat} {x : AV} (h : (if (i : Int) < Builtin.Range.rangeSize 1 (N : Nat) 1 then some (AV.int (1 + i * 1)) else none) = some x) : i + 1 < N ∧ x = .int (i + 1 : Nat) := by
 rw [qsx] at h
 by_cases h1 : (1 : Int) < N
 ·rw [if_pos h1] at h
  by_cases h2 : (i : Int) < (N : Int) - 1
  ·rw [if_pos h2] at h; cases h; exact ⟨by lia, by congr 1; lia⟩
  ·rw [if_neg h2] at h; cases h
 ·rw [if_neg h1] at h
  by_cases h2 : (i : Int) < 0
  ·lia
  ·rw [if_neg h2] at h; cases h
theorem qpg {N i : Nat} (h : (if (i : Int) < Builtin.Range.rangeSize 1 (N : Nat) 1 then some (AV.int (1 + i * 1)) else none) = none) : N ≤ i + 1 := by
 rw [qsx] at h
 by_cases h1 : (1 : Int) < N
 ·rw [if_pos h1] at h
  by_cases h2 : (i : Int) < (N : Int) - 1
  ·rw [if_pos h2] at h; cases h
  ·lia
 ·lia
theorem qrw {a : Int} (h0 : 0 ≤ a) (h1 : a ≤ 1000000) : Builtin.Range.small 1 a 1 = true := by
 unfold Builtin.Range.small Builtin.Range.rangeSize
 simp [Builtin.Range.rangeFitsLong]
 omega
noncomputable abbrev nats (xs : List Nat) : List AV := xs.map fun x => .int (x : Nat)
theorem qtv {k : Nat} : ∀ (xs : List Nat), AVs.Un k (nats xs)
 | [] => trivial
 | x :: xs => ⟨trivial, qtv xs⟩
theorem qo3 (xs : List Nat) : nats xs = (xs.map fun x : Nat => (x : Int)).map .int := by simp [nats]
theorem qth (w : Nat) {rs : List (List Nat)} {i : Nat} {r : List Nat} (h : rs[i]? = some r) : ((rs.take (i + 1)).map (List.count w)).sum = ((rs.take i).map (List.count w)).sum + r.count w ∧ begs w 0 (rs.take (i + 1)) = begs w 0 (rs.take i) ++ [((rs.take i).map (List.count w)).sum + r.count w] := by
 have hi := (List.getElem?_eq_some_iff.mp h).1
 rw [List.take_add_one, h]
 refine ⟨by simp, ?_⟩
 rw [show (some r).toList = [r] from rfl, qd4]; simp
set_option maxHeartbeats 2000000 in
theorem qis (C : c.Std) {P : List Nat} {w kr : Nat} {rs : List (List Nat)} {p0 : List Nat} {ps : List (List Nat)} (hk : os[kr]? = some (.list (sls rs))) (hsp : Txt.split (S P) (S [w]) = (p0 :: ps).map S) (hcnt : ∀ r ∈ rs, Txt.count (S r) (S [w]) = (r.count w : Nat)) (hP : P.length ≤ 10000) (hps : (ps.map List.length).sum ≤ 10000) (hp0 : p0.length ≤ 10000) (hpl : ps.length ≤ 10000) (hrl : rs.length ≤ 10000) (hu : AOs.Un os.length os)
  (h : K (.str (S (yd w (begs w 0 (rs.take (rs.length - 1))) p0 0 ps))) os) : CG c (n + 1) (.ref 275) [.str (S P), .str (S [w]), .ref kr] os K := by
 have hz : sizeLine = 16777216 := rfl
 have hkl : kr < os.length := (List.getElem?_eq_some_iff.mp hk).1
 refine wh C.ok (qd2 C.hK) (dargs := []) (fun s G vs hv => ?_) fun L => ?_
 ·refine x_e3 (len3 hv) fun ω ω ω z247y => ?_; subst z247y
  exact (y_ea [] (fun ω ω => rfl) (BindsTo.of_eq rfl))
 conv => arg 6; whnf
 show EXs c n _ [some (.str (S P)), some (.str (S [w])), some (.ref kr), none, none, none, none, none, none] os _ _
 x_close
 x_close
 refine j7 ?_
 x_close
 refine ⟨by simp, ?_⟩
 repeat x_close
 refine qc9 ?_
 repeat x_close
 have hk1 : (os ++ [AO.list []])[kr]? = some (.list (sls rs)) := xf hk
 refine qf0 hk1 (by simp; lia) ?_
 rw [show (sls rs).take ((sls rs).length - 1) = sls (rs.take (rs.length - 1)) by simp [List.map_take]]
 have hrt : ∀ r ∈ rs.take (rs.length - 1), Txt.count (S r) (S [w]) = (r.count w : Nat) := fun r hr => hcnt r (List.mem_of_mem_take hr)
 have hrtl : (rs.take (rs.length - 1)).length ≤ 10000 := by simp; exact Nat.le_succ_of_le hrl
 generalize rs.take (rs.length - 1) = rt at hrt hrtl h ⊢
 have hst0 : os ++ [AO.list []] ++ [AO.list (sls rt)] = os ++ [AO.list (nats (begs w 0 (rt.take 0))), AO.list (sls rt)] := by rw [List.append_assoc]; rfl
 have hlen : (os ++ [AO.list []]).length = os.length + 1 := by simp
 rw [hst0, hlen]
 refine (u8 (fun i => (sls rt)[i]?) rt.length (fun i lc o => o = os ++ [AO.list (nats (begs w 0 (rt.take i))), AO.list (sls rt)] ∧ ∃ rx, lc = [some (.str (S P)), some (.str (S [w])), some (.ref kr), some (.ref os.length), some (.int (((rt.take i).map (List.count w)).sum : Nat)), rx, none, none, none]) ⟨rfl, none, rfl⟩ ?_ ?_ ?_ ?_)
 ·intro i y hy
  have := (List.getElem?_eq_some_iff.mp hy).1
  simpa using this
 ·refine qgu (xs := sls rt) (by simp) ?_ (fun it v => rfl)
  rintro i o q112x; refine x_ea q112x fun lc z246y ω => ?_; clear q112x; subst z246y
  simp
 ·rintro i y lc o q113x; obtain ⟨rfl, rx, rfl⟩ := q113x; rintro hy
  obtain ⟨q, hq, rfl⟩ : ∃ q, rt[i]? = some q ∧ y = .str (S q) := by
   cases hp : rt[i]? with
   | none => simp [hp] at hy
   | some q => exact (y_ea q rfl (by simp [hp] at hy; exact hy.symm))
  obtain ⟨c1, c2⟩ := qth w hq
  refine xt (by k_updF) ?_
  repeat x_close
  refine qdt ?_
  rw [hrt q (List.mem_of_getElem? hq)]
  repeat x_close
  refine yk ⟨_, by simp; rfl⟩ ?_
  repeat x_close
  refine zx (xs := nats (begs w 0 (rt.take i))) (by simp) ?_ ?_
  ·have : (begs w 0 (rt.take i)).length = (rt.take i).length := qd5 ..
   simp only [List.length_map, this, List.length_take]; lia
  repeat x_close
  refine ⟨?_, some (.str (S q)), ?_⟩
  ·rw [c2, List.set_append_right _ _ (Nat.le_refl _), Nat.sub_self]
   simp
  ·rw [c1]; rfl
 ·rintro i lc o q114x; obtain ⟨rfl, rx, rfl⟩ := q114x; rintro hy
  have hi : rt.length ≤ i := by
   have := List.getElem?_eq_none_iff.mp hy
   simpa using this
  rw [List.take_of_length_le hi]
  repeat x_close
  refine qh3 (by rfl) (by rw [jb]; lia) ?_
  rw [hsp, ← qhi]
  have e0 : os ++ [AO.list (nats (begs w 0 rt)), AO.list (sls rt)] ++ [AO.list (sls (p0 :: ps))] = os ++ [AO.list (nats (begs w 0 rt)), AO.list (sls rt), AO.list (sls (p0 :: ps))] := by simp
  have e1 : (os ++ [AO.list (nats (begs w 0 rt)), AO.list (sls rt)]).length = os.length + 2 := by simp
  rw [e0, e1]
  have hb : (os ++ [AO.list (nats (begs w 0 rt)), AO.list (sls rt), AO.list (sls (p0 :: ps))])[os.length]? = some (.list (nats (begs w 0 rt))) := by simp
  have hp : (os ++ [AO.list (nats (begs w 0 rt)), AO.list (sls rt), AO.list (sls (p0 :: ps))])[os.length + 2]? = some (.list (sls (p0 :: ps))) := by simp
  generalize hgo : [AO.list (nats (begs w 0 rt)), AO.list (sls rt), AO.list (sls (p0 :: ps))] = go at hb hp ⊢
  repeat x_close
  refine xu (x := .str (S p0)) hp (by decide) (.inl ⟨by exact Int.zero_le_ofNat 0, rfl⟩) ?_
  repeat x_close
  refine qc9 ?_
  repeat x_close
  refine w7 hp (by simp; lia) ?_
  repeat x_close
  refine qqd ?_
  have hN : (sls (p0 :: ps)).length = ps.length + 1 := by simp
  rw [hN]
  generalize begs w 0 rt = bs at hb h
  refine (u8 _ (ps.length + 1) (fun i lc o => os ++ go = o ∧ ∃ nx, lc = [some (.str (S P)), some (.str (S [w])), some (.ref kr), some (.ref os.length), some (.int ((rt.map (List.count w)).sum : Nat)), rx, some (.ref (os.length + 2)), some (.str (S (yd w bs p0 0 (ps.take i)))), nx]) ⟨rfl, none, rfl⟩ ?_ (qai (a := 1) (b := ((ps.length + 1 : Nat) : Int)) (st := 1) ?_ (fun it v => rfl)) ?_ ?_)
  ·intro i x hx
   have := (qhc hx).1
   exact Nat.lt_of_succ_lt this
  ·exact qrw (by exact Int.natCast_nonneg (ps.length + 1)) (by lia)
  ·rintro i x lc o q115x; obtain ⟨rfl, nx, rfl⟩ := q115x; rintro hx
   obtain ⟨hi, rfl⟩ := qhc hx
   obtain ⟨p, hpi⟩ : ∃ p, ps[i]? = some p := ⟨_, List.getElem?_eq_getElem (by exact (fun {a b} => Nat.succ_lt_succ_iff.mp) hi)⟩
   have hm := qdl w bs (ps.take i) p0 0
   have hsum := qkn hpi
   have htl : (ps.take i).length ≤ ps.length := by simp; exact Nat.min_le_right i ps.length
   have hstep : yd w bs p0 0 (ps.take (i + 1)) = yd w bs p0 0 (ps.take i) ++ qay w bs i p := by
    rw [List.take_add_one, hpi, show (some p).toList = [p] from rfl, qdk]
    simp only [List.length_take]
    rw [show 0 + min i ps.length = i by lia]
   have hin : ((bs.map fun x : Nat => (x : Int)).any (· == ((i : Nat) : Int))) = decide (i ∈ bs) := by
    rw [Bool.eq_iff_iff]; simp
    exact ⟨fun ⟨x, h1, h2⟩ => by rw [show i = x by lia]; exact h1, fun h => (y_ea i h rfl)⟩
   refine xt (by k_updF) ?_
   repeat x_close
   rw [show (((i + 1 : Nat) : Int) - 1) = (i : Nat) by simp]
   refine qm4 (ns := bs.map fun x : Nat => (x : Int)) (by rw [hb, qo3]) ?_
   rw [hin]
   have hgx : (sls (p0 :: ps))[((i + 1 : Nat) : Int).toNat]? = some (.str (S p)) := by
    rw [Int.toNat_natCast]; exact qpk hpi
   refine (wg _ rfl (fun q1 => ?_) (fun q1 => ?_))
   ·have hm1 : qay w bs i p = [10] ++ [w] ++ p := by unfold qay; rw [if_pos (by simpa using q1)]; rfl
    repeat x_close
    refine vn [10] [w] (h := ?_)
    repeat x_close
    refine xu (x := .str (S p)) hp (by lia) (.inl ⟨by exact Int.natCast_nonneg (i + 1), hgx⟩) ?_
    refine vn ([10] ++ [w]) p (by simp; lia) ?_
    rw [← hm1]
    refine qab (by rw [jb, jb, hm1]; simp; lia) ?_
    rw [v7, ← hstep]
    repeat x_close
    exact ⟨rfl, _, rfl⟩
   ·have hm1 : qay w bs i p = [] ++ [w] ++ p := by unfold qay; rw [if_neg (by exact of_decide_eq_false q1)]; rfl
    repeat x_close
    refine vn [] [w] (h := ?_)
    repeat x_close
    refine xu (x := .str (S p)) hp (by lia) (.inl ⟨by exact Int.natCast_nonneg (i + 1), hgx⟩) ?_
    refine vn ([] ++ [w]) p (by simp; lia) ?_
    rw [← hm1]
    refine qab (by rw [jb, jb, hm1]; simp; lia) ?_
    rw [v7, ← hstep]
    repeat x_close
    exact ⟨rfl, _, rfl⟩
  ·rintro i lc o q116x; obtain ⟨rfl, nx, rfl⟩ := q116x; rintro hx
   have hi := qpg hx
   rw [List.take_of_length_le (by exact Nat.le_of_lt_succ hi)]
   repeat x_close
   exact ⟨os, go, rfl, Nat.le_refl _, hu, trivial, h⟩
end
end
section
noncomputable def xh (st : List Str × List Str) (x : Str) : List Str × List Str := if x ∈ st.2 then (st.1, st.2.erase x) else (st.1 ++ [x], st.2)
theorem qnk (st : List Str × List Str) (x : Str) : (xh st x).1.length ≤ st.1.length + 1 ∧ (xh st x).2.length ≤ st.2.length := by
 unfold xh; split
 ·exact ⟨Nat.le_succ _, List.length_erase_le⟩
 ·simp
section
variable {c : CX} {n : Nat} {os : List AO} {K : AV → List AO → Prop}
noncomputable abbrev j5 (xs : List Str) : List AV := xs.map .str
theorem u3 {k : Nat} : ∀ (xs : List Str), AVs.Un k (j5 xs)
 | [] => trivial
 | x :: xs => ⟨trivial, u3 xs⟩
theorem qee {A : Around} {env env1 : Env} (h : A.frames = some [env1]) : (A.deeper env).frames = some [env, env1] := by
 exact Around.frames_deeper h
theorem qvy {e : EF} {loc loc' : Loc} {os' : List AO} {stp stt : Stmt} {K : AF → Loc → List AO → Prop} {A : Around} (hA : AR A n) {L1 : Addr} {ρ : List Addr} {s : Shared} (F : FR c e loc os ρ s) (S : Stk c A e L1 ρ s) (hp : EX c n e loc os stp fun f l o => f = .next ∧ l = loc' ∧ o = os')
  (ht : ∀ ρ s, FR c e loc' os' ρ s → Stk c A e L1 ρ s → wpAny (MM c.w) A (exec stt e.env) (PostF c e ρ s fun f l o => f = .next ∧ K f l o) NoE s) :
  wpAny (MM c.w) A (execs [stp, stt] e.env) (PostF c e ρ s fun f l o => f = .next ∧ K f l o) NoE s := by
 refine wpAny_execs_cons (wpAny_mono (hp A hA ρ s F) (fun f s1 z => ?_) fun ω ω z => z)
 obtain ⟨ω, ω, ω, ρ1, ⟨rfl, rfl, rfl⟩, F1, E1, rfl⟩ := z
 refine wpAny_execs_cons (wpAny_mono (ht ρ1 s1 F1 (S.ext F.hr E1)) (fun f s2 z => ?_) fun ω ω z => z)
 obtain ⟨ω, l2, o2, ρ2, ⟨rfl, k2⟩, F2, E2, rfl⟩ := z
 exact wpAny_execs_nil ⟨.next, l2, o2, ρ2, ⟨rfl, k2⟩, F2, E1.trans E2, rfl⟩
theorem qvz {e : EF} {loc loc1 : Loc} {os1 : List AO} {st1 : Stmt} {body rest wb : List Stmt} {K : AF → Loc → List AO → Prop} {t : Expr} {p : Pos} (hbody : body = st1 :: .While t wb [] p :: rest) {A : Around} (hA : AR A n) {L1 : Addr} {ρ : List Addr} {s : Shared} (F : FR c e loc os ρ s) (S : Stk c A e L1 ρ s)
  (I : Nat → Loc → List AO → Prop) (J : Loc → List AO → Prop) (m : Nat) (hp : EX c n e loc os st1 fun f l o => f = .next ∧ l = loc1 ∧ o = os1) (h0 : I m loc1 os1)
  (test : ∀ m loc os, I m loc os → EB c n e loc os t fun b os1 => os1 = os ∧ (b = false → J loc os) ∧ (b = true → ∀ ρ s, FR c e loc os ρ s → Stk c A e L1 ρ s → wpAny (MM c.w) A (execs wb e.env) (PostF c e ρ s fun f l o => f = .next ∧ ∃ m', m' < m ∧ I m' l o) NoE s))
  (h3 : ∀ loc os, J loc os → EXs c n e loc os rest K) :
  wpAny (MM c.w) A (execs body e.env) (PostF c e ρ s K) NoE s := by
 subst hbody
 refine wpAny_execs_cons (wpAny_mono (hp A hA ρ s F) (fun f s1 z => ?_) fun ω ω z => z)
 obtain ⟨ω, ω, ω, ρ1, ⟨rfl, rfl, rfl⟩, F1, E1, rfl⟩ := z
 have S1 := S.ext F.hr E1
 refine wpAny_execs_cons (wpAny_mono (quh hA (K := fun f l o => f = .next ∧ J l o) I m h0 F1 S1 fun m loc os i => ?_) (fun f s2 z => ?_) fun ω ω z => z)
 ·exact fun A' hA' ρ' s' F' => wpAny_mono (test m loc os i A' hA' ρ' s' F') (fun b s2 z => z.mono fun b os1 w => ⟨w.1, fun q => ⟨rfl, w.2.1 q⟩, w.2.2⟩) fun ω ω z => z
 ·obtain ⟨ω, l2, o2, ρ2, ⟨rfl, k2⟩, F2, E2, rfl⟩ := z
  exact wpAny_mono (h3 l2 o2 k2 A hA ρ2 s2 F2) (fun f s3 z => PostF.from (E1.trans E2) z) fun ω ω z => z
set_option maxHeartbeats 1000000 in
theorem qma (C : c.Std) {A : Around} (hA : AR A (n + 1)) {env1 : Env} {L1 : Addr} {ρ : List Addr} {s : Shared} {vs : List Value} (hfr : A.frames = some [env1]) (hf1 : env1.frame = some L1) (hk1 : env1.scope.kind ≠ .module) (hL : ∃ o es ep, s.heap.get? L1 = some o ∧ o.data = .dict es ep) (hLr : L1 ∉ ρ) (hLn : c.B.heap.objs.size ≤ L1)
  (H : c.HR ρ os s) {ke ka : Nat} {es as : List Str} (V : VRs ρ s.heap [.ref ke, .ref ka] vs) (hke : os[ke]? = some (.list (j5 es))) (hka : os[ka]? = some (.list (j5 as))) (hne : ke ≠ ka) (hel : es.length ≤ 10000) (hal : as.length ≤ 10000) (hu : AOs.Un os.length os)
  (h : K (.tup [.ref os.length, .ref ka]) ((os.set ke (.list [])).set ka (.list (j5 (es.reverse.foldl xh ([], as)).2)) ++ [.list (j5 (es.reverse.foldl xh ([], as)).1)])) :
  wpAny (MM c.w) A (call (.ref 249) vs []) (Post c ρ s K) NoE s := by
 have hz : sizeLine = 16777216 := rfl
 have hkel : ke < os.length := (List.getElem?_eq_some_iff.mp hke).1
 have hkal : ka < os.length := (List.getElem?_eq_some_iff.mp hka).1
 refine qc V fun b1 r z252y V1 V2 => ?_; clear V; subst z252y
 refine qc V2 fun b2 r z251y V3 V4 => ?_; clear V2; subst z251y
 obtain rfl := q0 V4
 refine wf hL fun o1 es1 ep1 ho1 hd1 => ?_; clear hL
 refine qjv C.ok (ya C.hK) (args := [.ref ke, .ref ka]) hA H ⟨b1, _, rfl, V1, b2, _, rfl, V3, rfl⟩ (BindsTo.of_eq rfl) fun s1 F1 E1 => ?_
 have S1 : Stk c (A.deeper (callEnv qb s.heap.objs.size 249)) (efOf qb s.heap.objs.size 249 qm ql) L1 ρ s1 := by
  refine ⟨⟨env1, qee hfr, hf1, hk1⟩, rfl, ?_, hLr, Nat.ne_of_lt (Heap.lt_size ho1), hLn⟩
  have nt : L1 ∉ qi5 c.tabs := fun q => by
   refine x_ea (List.mem_map.mp q) fun t ht e' => ?_
   exact absurd (H.gi.tab t ht).low.2 (by rw [e']; exact Nat.not_lt.mpr hLn)
  rcases E1.keep _ _ ho1 hLr (fun z => nomatch z) nt with q | ⟨_, sl, q⟩
  ·exact qi7 o1 es1 ep1 q hd1
  ·exact ⟨_, _, _, q, hd1⟩
 have hA1 := hA.deeper (callEnv qb s.heap.objs.size 249)
 generalize A.deeper (callEnv qb s.heap.objs.size 249) = A1 at S1 hA1 ⊢
 have F1 : FR c (efOf qb s.heap.objs.size 249 qm ql) [some (.ref ke), some (.ref ka), none, none] os ρ s1 := F1
 obtain ⟨body, hb⟩ : ∃ b, qu (jj 18) = b := ⟨_, rfl⟩
 obtain ⟨e, he⟩ : ∃ e, e = efOf qb s.heap.objs.size 249 qm ql := ⟨_, rfl⟩
 rw [show callEnv qb s.heap.objs.size 249 = e.env by rw [he]]
 rw [← he] at F1 S1 ⊢
 rw [hb]
 refine qvz (loc1 := [some (.ref ke), some (.ref ka), some (.ref os.length), none]) (os1 := os ++ [.list []]) hb.symm hA1 F1 S1
  (fun m l o => ∃ dn rs it, es = rs ++ dn ∧ m = rs.length ∧ l = [some (.ref ke), some (.ref ka), some (.ref os.length), it] ∧ o = (os.set ke (.list (j5 rs))).set ka (.list (j5 (dn.reverse.foldl xh ([], as)).2)) ++ [.list (j5 (dn.reverse.foldl xh ([], as)).1)])
  (fun l o => (∃ it, l = [some (.ref ke), some (.ref ka), some (.ref os.length), it]) ∧ o = (os.set ke (.list [])).set ka (.list (j5 (es.reverse.foldl xh ([], as)).2)) ++ [.list (j5 (es.reverse.foldl xh ([], as)).1)]) es.length ?_ ⟨[], es, none, by exact Eq.symm (List.append_nil es), rfl, rfl, ?_⟩ ?_ ?_
 ·subst he
  x_close
  refine j7 ?_
  repeat x_close
  refine ⟨by simp, ?_⟩
  repeat x_close
  exact ⟨rfl, rfl, rfl⟩
 ·have e1 : os.set ke (.list (j5 es)) = os := set_same hke
  rw [e1]
  have e2 : os.set ka (.list (j5 as)) = os := set_same hka
  show _ = os.set ka (.list (j5 as)) ++ _
  rw [e2]; rfl
 ·rintro m l o q117x; refine ym q117x fun dn rs it hes z248y z249y z250y => ?_; clear q117x; subst z248y; subst z249y; subst z250y
  have hrl : rs.length ≤ 10000 := by rw [hes] at hel; simp at hel; exact Nat.le_of_add_right_le hel
  have hfl : ∀ (l : List Str) (st : List Str × List Str), (l.foldl xh st).1.length ≤ st.1.length + l.length ∧ (l.foldl xh st).2.length ≤ st.2.length := by
   intro l
   induction l with
   | nil => intro st; simp
   | cons x l ih =>
    intro st
    have a1 := qnk st x
    have a2 := ih (xh st x)
    simp only [List.foldl_cons, List.length_cons]
    lia
  have hdl := hfl dn.reverse ([], as)
  have hdn : dn.length ≤ 10000 := by rw [hes] at hel; simp at hel; exact Nat.le_of_add_left_le hel
  simp only [List.length_nil, Nat.zero_add, List.length_reverse] at hdl
  have hget : ∀ (r as ms : List AV), ((os.set ke (.list r)).set ka (.list as) ++ [AO.list ms])[ke]? = some (.list r) ∧ ((os.set ke (.list r)).set ka (.list as) ++ [AO.list ms])[ka]? = some (.list as) ∧ ((os.set ke (.list r)).set ka (.list as) ++ [AO.list ms])[os.length]? = some (.list ms) := fun r as ms => by
   refine ⟨?_, ?_, ?_⟩
   ·rw [List.getElem?_append_left (by simp; exact hkel), List.getElem?_set_ne (Ne.symm hne), List.getElem?_set_self hkel]
   ·rw [List.getElem?_append_left (by simp; exact hkal), List.getElem?_set_self (by simp; exact hkal)]
   ·rw [List.getElem?_append_right (by simp)]; simp
  refine x_a2 (hget (j5 rs) (j5 (dn.reverse.foldl xh ([], as)).2) (j5 (dn.reverse.foldl xh ([], as)).1)) fun ge ga gm => ?_
  subst he
  refine zt ?_
  repeat x_close
  refine qr6 ge (by simp; lia) ⟨rfl, fun q => ?_, fun q => ?_⟩
  ·have : rs = [] := by cases rs with
    | nil => rfl
    | cons a r => simp at q
   subst this
   exact ⟨⟨it, rfl⟩, by rw [hes]; rfl⟩
  ·intro ρ2 s2 F2 S2
   rcases List.eq_nil_or_concat rs with rfl | ⟨rs', x, hrs⟩
   ·simp at q
   rw [List.concat_eq_append] at hrs
   subst hrs
   have hfold : (x :: dn).reverse.foldl xh ([], as) = xh (dn.reverse.foldl xh ([], as)) x := by rw [List.reverse_cons, List.foldl_append]; rfl
   have hes' : es = rs' ++ (x :: dn) := by rw [hes]; exact Eq.symm (List.append_cons rs' x dn)
   generalize dn.reverse.foldl xh ([], as) = st at hdl ge ga gm F2 hfold
   obtain ⟨ms, rem⟩ := st
   have hd1' : ms.length ≤ 10000 := by have := hdl.1; simp only at this; exact Nat.le_trans this hdn
   have hd2' : rem.length ≤ 10000 := by have := hdl.2; simp only at this; exact Nat.le_trans this hal
   have hr3 : rs'.length ≤ 10000 := by simp at hrl; exact Nat.le_succ_of_le hrl
   have hset : ∀ (r r' a m : List AV), ((os.set ke (.list r)).set ka (.list a) ++ [AO.list m]).set ke (.list r') = (os.set ke (.list r')).set ka (.list a) ++ [AO.list m] := fun r r' a m => by
    rw [List.set_append_left _ _ (by simp; exact hkel), List.set_comm _ _ (Ne.symm hne), List.set_set]
   have hseta : ∀ (r a a' m : List AV), ((os.set ke (.list r)).set ka (.list a) ++ [AO.list m]).set ka (.list a') = (os.set ke (.list r)).set ka (.list a') ++ [AO.list m] := fun r a a' m => by
    rw [List.set_append_left _ _ (by simp; exact hkal), List.set_set]
   have hsetm : ∀ (r a m m' : List AV), ((os.set ke (.list r)).set ka (.list a) ++ [AO.list m]).set os.length (.list m') = (os.set ke (.list r)).set ka (.list a) ++ [AO.list m'] := fun r a m m' => by
    simp
   refine qvy (loc' := [some (.ref ke), some (.ref ka), some (.ref os.length), some (.str x)]) (os' := (os.set ke (.list (j5 rs'))).set ka (.list (j5 rem)) ++ [.list (j5 ms)]) hA1 F2 S2 ?_ fun ρ3 s3 F3 S3 => ?_
   ·x_close
    repeat x_close
    refine ⟨_, qwe ⟨_, ge⟩, ?_⟩
    repeat x_close
    refine qwb (xs := j5 rs') (x := .str x) (by rw [ge]; simp) (by simp; lia) ?_
    rw [hset]
    repeat x_close
    exact ⟨rfl, rfl, rfl⟩
   ·refine x_a2 (hget (j5 rs') (j5 rem) (j5 ms)) fun ge3 ga3 gm3 => ?_
    refine ql9 C hA1 S3 F3 (by dl_there) (by dl_there) (by dl_there) ga3 gm3 (.head _) (by lia) (by simp; lia) (fun ω => rfl) (fun ω => rfl) (fun hx => ?_) (fun hx => ?_)
    ·rw [hseta]
     refine ⟨rfl, rs'.length, by simp, x :: dn, rs', some (.str x), hes', rfl, rfl, ?_⟩
     rw [hfold]; unfold xh; rw [if_pos hx]
    ·rw [hsetm]
     refine ⟨rfl, rs'.length, by simp, x :: dn, rs', some (.str x), hes', rfl, rfl, ?_⟩
     rw [hfold]; unfold xh; rw [if_neg hx]; simp
 ·rintro l o q118x; obtain ⟨⟨it, rfl⟩, rfl⟩ := q118x
  subst he
  repeat x_close
  refine zu ?_
  repeat x_close
  refine ⟨by simp [hz], ?_⟩
  repeat x_close
  refine ⟨_, [], (List.append_nil _).symm, by simp, ?_, ⟨?_, ?_, trivial⟩, h⟩
  ·simp only [List.length_append, List.length_set, List.length_cons, List.length_nil]
   exact AOs.Un_app.mpr ⟨AOs.Un.le (by exact Nat.le_add_right os.length (0 + 1)) _ (AOs.Un_set (o := AO.list (j5 (es.reverse.foldl xh ([], as)).2)) (u3 _) (AOs.Un_set (o := AO.list []) trivial hu)), u3 _, trivial⟩
  ·show os.length < _; simp
  ·show ka < _; simp; exact Nat.lt_add_right 1 hkal
end
end
section
open PySem PySem.StrLaws Builtin Builtin.Str

noncomputable def scan (y : List Nat) : Nat → List Nat → List Nat → List (List Nat)
 | _, acc, [] => [acc]
 | k + 1, acc, _ :: r => scan y k acc r
 | 0, acc, x :: r => if y.isPrefixOf (x :: r) then acc :: scan y (y.length - 1) [] r else scan y 0 (acc ++ [x]) r
theorem qcg : ∀ (y : List Nat) (x : Nat) (x_1 : List Nat), scan y x x_1 [] = [x_1] := by intros; rfl
theorem qch : ∀ (y x : List Nat) (k head : Nat) (r : List Nat), scan y k.succ x (head :: r) = scan y k x r := by intros; rfl
theorem wc : ∀ (y x : List Nat) (x_3 : Nat) (r : List Nat), scan y 0 x (x_3 :: r) = if y.isPrefixOf (x_3 :: r) = Bool.true then x :: scan y (y.length - 1) [] r else scan y 0 (x ++ [x_3]) r := by intros; rfl
theorem qhf (y acc : List Nat) : ∀ (k : Nat) (l : List Nat), scan y k acc l = scan y 0 acc (l.drop k)
 | 0, l => rfl
 | k + 1, [] => by rfl
 | k + 1, x :: r => by simp [qcg, qch, wc, qhf y acc k r]
theorem qe9 {y : List Nat} (hy : y ≠ []) (acc l : List Nat) (h : y.isPrefixOf l = true) : scan y 0 acc l = acc :: scan y 0 [] (l.drop y.length) := by
 cases l with
 | nil =>
  cases y with
  | nil => exact absurd rfl hy
  | cons a r => simp at h
 | cons x r =>
  rw [wc, if_pos h, qhf]
  cases y with
  | nil => exact absurd rfl hy
  | cons a q => rfl
theorem ww {y : List Nat} (acc : List Nat) (x : Nat) (r : List Nat) (h : y.isPrefixOf (x :: r) = false) : scan y 0 acc (x :: r) = scan y 0 (acc ++ [x]) r := by
 rw [wc, if_neg (by exact ne_true_of_eq_false h)]
theorem qsf (x y : Str) (c : Nat) : At x y x.length c ↔ c ≤ x.length ∧ y.cps.toList.isPrefixOf (x.cps.toList.drop c) = true ∧ c + y.length ≤ x.length := by
 have hn : x.cps.toList.length = x.length := by simp [Str.length]
 have hm : y.cps.toList.length = y.length := by simp [Str.length]
 unfold At
 rw [subAt_eq]
 constructor
 ·rintro q78x; obtain ⟨h1, h2⟩ := q78x
  refine (y_a2 (by exact Nat.le_of_add_right_le h1) ?_ h1)
  rw [List.isPrefixOf_iff_prefix, List.prefix_iff_eq_take, hm]
  exact (eq_of_beq h2).symm
 ·rintro q79x; refine x_a2 q79x fun h1 h2 h3 => ?_; clear q79x
  refine ⟨h3, ?_⟩
  rw [List.isPrefixOf_iff_prefix, List.prefix_iff_eq_take, hm] at h2
  rw [← h2]; exact ReflBEq.rfl
theorem qf4 (x y : Str) (c : Nat) (hc : c ≤ x.length) (h : y.cps.toList.isPrefixOf (x.cps.toList.drop c) = true) : At x y x.length c := by
 have hn : x.cps.toList.length = x.length := by simp [Str.length]
 have hm : y.cps.toList.length = y.length := by simp [Str.length]
 refine (qsf x y c).mpr (y_a2 hc h ?_)
 have := (List.isPrefixOf_iff_prefix.mp h).length_le
 rw [List.length_drop] at this
 lia
theorem qe8 (x y : Str) (hy : 1 ≤ y.length) (c : Nat) (hc : c ≤ x.length) : ∀ (n a : Nat) (acc : List Nat), a + n = c → (∀ k, a ≤ k → k < c → ¬ At x y x.length k) →
  scan y.cps.toList 0 acc (x.cps.toList.drop a) = scan y.cps.toList 0 (acc ++ (x.cps.toList.drop a).take n) (x.cps.toList.drop c)
 | 0, a, acc, h, _ => by simp at h; subst h; simp
 | n + 1, a, acc, h, hn => by
  have hl : x.cps.toList.length = x.length := by simp [Str.length]
  have ha : a < x.cps.toList.length := by lia
  rw [List.drop_eq_getElem_cons ha]
  have hmiss : y.cps.toList.isPrefixOf (x.cps.toList[a] :: x.cps.toList.drop (a + 1)) = false := by
   rw [← List.drop_eq_getElem_cons ha]
   refine Bool.eq_false_iff.mpr fun q => hn a (Nat.le_refl _) (by lia) (qf4 x y a (by exact Nat.le_of_succ_le ha) q)
  rw [ww _ _ _ hmiss, qe8 x y hy c hc n (a + 1) _ (by lia) fun k h1 h2 => hn k (by exact Nat.le_of_succ_le h1) h2]
  simp
theorem qdm (x y : Str) (hy : 1 ≤ y.length) : ∀ (cuts : List Nat) (a f : Nat), a ≤ x.length → ChainG x y x.length a cuts f → (∀ k, f ≤ k → ¬ At x y x.length k) → (partsFrom x y.length a cuts).map (·.cps.toList) = scan y.cps.toList 0 [] (x.cps.toList.drop a)
 | [], a, f, ha, h, hn => by
  have e : f = a := h
  subst e
  have hl : x.cps.toList.length = x.length := by simp [Str.length]
  rw [qe8 x y hy x.length (Nat.le_refl _) (x.length - f) f [] (by exact Nat.add_sub_of_le ha) fun k h1 ω => hn k h1]
  rw [List.drop_of_length_le (i := x.length) (by exact Nat.le_refl x.cps.toList.length)]
  simp [partsFrom, strSub_toList, qcg, qch, wc]
 | c :: r, a, f, ha, h, hn => by
  refine x_a2 h fun h1 h2 z186y => ?_; clear h; obtain ⟨h3, h4⟩ := z186y
  have hc := (qsf x y c).mp h2
  rw [qe8 x y hy c hc.1 (c - a) a [] (by exact Nat.add_sub_of_le h1) h3]
  rw [qe9 (by exact List.ne_nil_of_length_pos hy) _ _ hc.2.1]
  have ih := qdm x y hy r (c + y.length) f (by simp only [*]) h4 hn
  have hm : y.cps.toList.length = y.length := by simp [Str.length]
  rw [List.drop_drop, hm, ← ih]
  simp [partsFrom, strSub_toList]
theorem ub (y : List Nat) : ∀ (l : List Nat) (k : Nat) (acc : List Nat), ∃ p r, scan y k acc l = p :: r
 | [], k, acc => (y_e2 acc [] (by rfl))
 | x :: r, k + 1, acc => by rw [qch]; exact ub y r k acc
 | x :: r, 0, acc => by
  rw [wc]; split
  ·exact (y_e2 _ _ rfl)
  ·exact ub y r 0 _
theorem uy (x : Str) (w : Nat) : ∀ (cuts : List Nat) (a : Nat), (partsFrom x w a cuts).length = cuts.length + 1
 | [], _ => rfl
 | c :: r, a => by simp [partsFrom, uy x w r]
theorem qm0 (l : List Nat) : (S l).cps.toList = l := by simp [S]
theorem qkk {x y : List Nat} (hy : y ≠ []) : (partsFrom (S x) (S y).length 0 (occurrences (S x) (S y) 0 (S x).length ((S x).length + 1))) = (scan y 0 [] x).map S := by
 have hl : 1 ≤ (S y).length := by rw [jb]; exact List.length_pos_iff.mpr hy
 refine x_ea (occ_tight (S x) (S y) hl) fun f hG hn => ?_
 have := qdm (S x) (S y) hl _ 0 f (Nat.zero_le _) hG hn
 rw [qm0, qm0, List.drop_zero] at this
 rw [← this, List.map_map]
 conv => lhs; rw [← List.map_id (partsFrom _ _ _ _)]
 refine List.map_congr_left fun a ω => ?_
 exact S_of a
theorem qdf {x y : List Nat} (hy : y ≠ []) : Txt.count (S x) (S y) + 1 = ((scan y 0 [] x).length : Nat) := by
 have h := congrArg List.length (qkk (x := x) hy)
 rw [uy, List.length_map] at h
 rw [← h]; unfold Txt.count; simp
theorem qau {x y z : List Nat} (hy : y ≠ []) : Txt.replace (S x) (S y) (S z) = S (glue z (scan y 0 [] x)) := by
 have h := qkk (x := x) hy
 have hl : ((S y).length == 0) = false := by rw [jb]; simp; exact hy
 unfold Txt.replace
 rw [hl, Bool.false_and, Bool.or_false]
 cases he : (occurrences (S x) (S y) 0 (S x).length ((S x).length + 1)).isEmpty with
 | true =>
  rw [if_pos rfl]
  rw [List.isEmpty_iff.mp he] at h
  have h2 : [S x] = (scan y 0 [] x).map S := by
   rw [← h]; show [S x] = [strSub (S x) 0 (S x).length]; rw [sub_whole]
  refine x_e2 (ub y x 0 []) fun p r e => ?_
  rw [e] at h2 ⊢
  cases r with
  | nil => simp at h2; rw [h2]; rfl
  | cons a b => simp at h2
 | false =>
  rw [if_neg (by exact Bool.false_ne_true), partsBetween_eq, h, glued_eq_join, ur]

end
section
open PySem PySem.StrLaws Builtin Builtin.Str

theorem q8 (sep x : List Nat) {r : List (List Nat)} (h : r ≠ []) : glue sep (x :: r) = x ++ sep ++ glue sep r := by
 cases r with
 | nil => exact absurd rfl h
 | cons y r => rfl
theorem qdh {c : Nat} : ∀ {a b u v : List Nat}, c ∉ a → c ∉ b → a ++ c :: u = b ++ c :: v → a = b ∧ u = v
 | [], [], u, v, _, _, h => ⟨rfl, by simpa using h⟩
 | [], y :: b, u, v, _, hb, h => by
  simp at h; exact absurd (by simp [h.1]) hb
 | x :: a, [], u, v, ha, _, h => by
  simp at h; exact absurd (by simp [h.1]) ha
 | x :: a, y :: b, u, v, ha, hb, h => by
  simp only [List.cons_append, List.cons.injEq] at h
  obtain ⟨e1, e2⟩ := qdh (fun q => ha (.tail _ q)) (fun q => hb (.tail _ q)) h.2
  exact ⟨by simp only [*], e2⟩
theorem qgk {c : Nat} {x : List Nat} (hx : c ∉ x) : ∀ {ys : List (List Nat)}, ys ≠ [] → x = glue [c] ys → ys = [x]
 | [], h, _ => absurd rfl h
 | [y], _, e => by rw [e]; rfl
 | y :: z :: r, _, e => by
  rw [q8 _ _ (by exact List.cons_ne_nil z r)] at e
  exact absurd (by rw [e]; simp) hx
theorem qen {c : Nat} : ∀ {xs ys : List (List Nat)}, xs ≠ [] → ys ≠ [] → (∀ p ∈ xs, c ∉ p) → (∀ p ∈ ys, c ∉ p) → glue [c] xs = glue [c] ys → xs = ys
 | [], _, h, _, _, _, _ => absurd rfl h
 | [x], ys, _, h, hx, _, e => (qgk (hx x (.head _)) h e).symm
 | x :: x2 :: r, [], _, h, _, _, _ => absurd rfl h
 | x :: x2 :: r, [y], _, _, hx, hy, e => by
  have := qgk (hy y (.head _)) (by assumption) e.symm
  exact this
 | x :: x2 :: r, y :: y2 :: q, _, _, hx, hy, e => by
  rw [q8 _ x (by exact List.cons_ne_nil x2 r), q8 _ y (by exact List.cons_ne_nil y2 q)] at e
  simp only [List.append_assoc, List.singleton_append] at e
  obtain ⟨e1, e2⟩ := qdh (hx x (.head _)) (hy y (.head _)) e
  rw [e1, qen (by exact List.cons_ne_nil x2 r) (by exact List.cons_ne_nil y2 q) (fun p hp => hx p (.tail _ hp)) (fun p hp => hy p (.tail _ hp)) e2]
theorem ve {c : Nat} : ∀ (l acc : List Nat), c ∉ acc → ∀ p ∈ scan [c] 0 acc l, c ∉ p
 | [], acc, h, p, hp => by simp [qcg, qch, wc] at hp; subst hp; exact h
 | x :: r, acc, h, p, hp => by
  rw [wc] at hp
  by_cases hx : c = x
  ·subst hx
   simp at hp
   rcases hp with rfl | hp
   ·exact h
   ·exact ve r [] (by exact List.not_mem_nil) p hp
  ·rw [if_neg (by simp; exact hx)] at hp
   exact ve r _ (by simp; exact ⟨h, hx⟩) p hp
theorem vg {c : Nat} : ∀ (l acc : List Nat), glue [c] (scan [c] 0 acc l) = acc ++ l
 | [], acc => by exact Eq.symm (List.append_nil acc)
 | x :: r, acc => by
  rw [wc]
  by_cases hx : c = x
  ·subst hx
   rw [if_pos (by simp)]
   refine x_e2 (ub [c] r 0 []) fun p q e => ?_
   show glue [c] (acc :: scan [c] 0 [] r) = _
   rw [q8 _ _ (by rw [e]; exact List.cons_ne_nil p q), vg r []]
   exact Eq.symm (List.append_cons acc c r)
  ·rw [if_neg (by simp; exact hx), vg r]
   exact Eq.symm (List.append_cons acc x r)
theorem qrs {c : Nat} {xs : List (List Nat)} (hne : xs ≠ []) (hf : ∀ p ∈ xs, c ∉ p) : scan [c] 0 [] (glue [c] xs) = xs := by
 refine x_e2 (ub [c] (glue [c] xs) 0 []) fun p q e => ?_
 exact qen (by rw [e]; exact List.cons_ne_nil p q) hne (ve _ _ (by exact List.not_mem_nil)) hf (by rw [vg]; rfl)
theorem qfc {c : Nat} {xs : List (List Nat)} (hne : xs ≠ []) (hf : ∀ p ∈ xs, c ∉ p) : Txt.split (S (glue [c] xs)) (S [c]) = xs.map S := by
 have h1 := join_split (S (glue [c] xs)) (S [c])
 have h2 := split_free (S (glue [c] xs)) c
 have hS : (⟨#[c]⟩ : Str) = S [c] := rfl
 rw [hS] at h2
 have h3 : Txt.split (S (glue [c] xs)) (S [c]) ≠ [] := by
  unfold Txt.split
  split
  ·exact List.cons_ne_nil (S (glue [c] xs)) []
  ·split
   ·exact List.cons_ne_nil (S (glue [c] xs)) []
   ·rw [partsBetween_eq]
    refine x_e2 (partsFrom_ne (S (glue [c] xs)) (S [c]).length 0 (occurrences (S (glue [c] xs)) (S [c]) 0 (S (glue [c] xs)).length ((S (glue [c] xs)).length + 1))) fun p r e => ?_
    rw [e]; exact List.cons_ne_nil p r
 generalize Txt.split (S (glue [c] xs)) (S [c]) = ys at h1 h2 h3
 have h4 : ys = (ys.map (·.cps.toList)).map S := by
  rw [List.map_map]
  conv => lhs; rw [← List.map_id ys]
  rfl
 have h5 : (ys.map (·.cps.toList)) = xs := by
  refine qen (by simpa using h3) hne (fun p hp => ?_) hf ?_
  ·refine x_ea (List.mem_map.mp hp) fun q hq z189y => ?_; subst z189y
   exact h2 q hq
  ·rw [h4, ur] at h1
   exact quw.mp h1
 rw [h4, h5]
theorem wn {c : Nat} : ∀ {xs : List (List Nat)}, xs ≠ [] → (∀ p ∈ xs, c ∉ p) → (glue [c] xs).count c + 1 = xs.length
 | [], h, _ => absurd rfl h
 | [x], _, h => by simp [z6, z7, z8, List.count_eq_zero.mpr (h x (.head _))]
 | x :: y :: r, _, h => by
  have ih := wn (xs := y :: r) (by exact List.cons_ne_nil y r) fun p hp => h p (.tail _ hp)
  rw [q8 _ _ (by exact List.cons_ne_nil y r)]
  simp only [List.count_append, List.count_eq_zero.mpr (h x (.head _))]
  simp at ih ⊢; lia
theorem qsg (x : List Nat) (c : Nat) : Txt.count (S x) (S [c]) = (x.count c : Nat) := by
 refine x_e2 (ub [c] x 0 []) fun p q e => ?_
 have h1 := vg (c := c) x []
 have h2 := ve (c := c) x [] (by exact List.not_mem_nil)
 have h3 := qdf (x := x) (y := [c]) (by exact List.cons_ne_nil c [])
 have h4 := wn (by rw [e]; exact List.cons_ne_nil p q) h2
 rw [h1] at h4
 simp at h4
 lia
noncomputable def cnt2 (a b : Nat) : List Nat → Nat
 | x :: y :: r => (if x = a ∧ y = b then 1 else 0) + cnt2 a b (y :: r)
 | _ => 0
theorem qae : ∀ (a b x y : Nat) (r : List Nat), cnt2 a b (x :: y :: r) = (if x = a ∧ y = b then 1 else 0) + cnt2 a b (y :: r) := by intros; rfl
theorem qwo : ∀ a b : Nat, cnt2 a b [] = 0 := by intros; rfl
theorem qwp : ∀ a b x : Nat, cnt2 a b [x] = 0 := by intros; rfl
theorem qcf {a b : Nat} (hab : a ≠ b) : ∀ (n : Nat) (l acc : List Nat), l.length ≤ n → (scan [a, b] 0 acc l).length = cnt2 a b l + 1
 | _, [], acc, _ => by rfl
 | _, [x], acc, _ => by
  rw [ww (y := [a, b]) acc x [] (by show ((a == x) && false) = false; exact Bool.and_false _), qcg]; rfl
 | 0, x :: y :: r, acc, h => by simp at h
 | n + 1, x :: y :: r, acc, h => by
  by_cases hx : x = a ∧ y = b
  ·obtain ⟨rfl, rfl⟩ := hx
   rw [qe9 (by exact List.cons_ne_nil x [y]) _ _ (by simp)]
   have ih := qcf hab n r [] (by simp at h; exact Nat.le_of_succ_le h)
   simp only [List.length_cons, List.length_nil, Nat.zero_add, List.drop_succ_cons, List.drop_zero, Nat.reduceAdd]
   rw [ih, qae, if_pos ⟨rfl, rfl⟩]
   have : cnt2 x y (y :: r) = cnt2 x y r := by
    cases r with
    | nil => rfl
    | cons z r => rw [qae, if_neg (by intro q; exact hab q.1.symm)]; exact Nat.zero_add (cnt2 x y (z :: r))
   lia
  ·rw [ww (y := [a, b]) acc x (y :: r) (by
   show ((a == x) && ((b == y) && true)) = false
   rw [Bool.and_true, Bool.and_eq_false_iff, beq_eq_false_iff_ne, beq_eq_false_iff_ne]
   by_cases h1 : a = x
   ·exact .inr fun h2 => hx ⟨h1.symm, h2.symm⟩
   ·exact .inl h1), qcf hab n (y :: r) _ (by exact Nat.le_of_lt_succ h), qae, if_neg hx]
   exact (fun {a b} => Nat.right_eq_add.mpr) rfl
theorem qsh {a b : Nat} (hab : a ≠ b) (x : List Nat) : Txt.count (S x) (S [a, b]) = (cnt2 a b x : Nat) := by
 have h := qdf (x := x) (y := [a, b]) (by exact List.cons_ne_nil a [b])
 rw [qcf hab x.length x [] (Nat.le_refl _)] at h
 lia

end
section

inductive XT where
 | t (k : Tk)
 | ow
 | iw
noncomputable def real (w : Nat) (b : Nat → Bool) : Nat → List XT → List Tk
 | _, [] => []
 | i, .t k :: r => k :: real w b i r
 | i, .ow :: r => (if b i then [.c 10, .c w] else [.c w]) ++ real w b (i + 1) r
 | i, .iw :: r => .brw ((if b i then [10] else []) ++ [w, 101]) :: real w b (i + 1) r
theorem qix : ∀ (w : Nat) (b : Nat → Bool) (x : Nat), real w b x [] = [] := by intros; rfl
theorem qcd : ∀ (w : Nat) (b : Nat → Bool) (x : Nat) (k : Tk) (r : List XT), real w b x (.t k :: r) = k :: real w b x r := by intros; rfl
theorem qam : ∀ (w : Nat) (b : Nat → Bool) (x : Nat) (r : List XT), real w b x (.ow :: r) = (if b x = true then [Tk.c 10, Tk.c w] else [Tk.c w]) ++ real w b (x + 1) r := by intros; rfl
theorem qe4 : ∀ (w : Nat) (b : Nat → Bool) (x : Nat) (r : List XT), real w b x (.iw :: r) = Tk.brw ((if b x = true then [10] else []) ++ [w, 101]) :: real w b (x + 1) r := by intros; rfl
noncomputable def wi (st : List It × Nat) (x : XT) : List It × Nat := match x with
 | .t k => (qk st.1 k, st.2)
 | .ow => (st.1 ++ [.txt [92, 2000 + 2 * st.2]], st.2 + 1)
 | .iw => (st.1 ++ [.txt [91, 2001 + 2 * st.2, 101, 93]], st.2 + 1)
noncomputable def phi (w : Nat) (b : Nat → Bool) (x : Nat) : List Nat :=
 if x < 2000 then [x] else if x % 2 = 0 then (if b ((x - 2000) / 2) then [10, 92, w] else [w]) else (if b ((x - 2000) / 2) then [10, w] else [w])
theorem zf {w : Nat} {b : Nat → Bool} {x : Nat} (h : x < 2000) : phi w b x = [x] := if_pos h
theorem qvu (w : Nat) (b : Nat → Bool) (i : Nat) : phi w b (2000 + 2 * i) = if b i then [10, 92, w] else [w] := by
 unfold phi
 rw [if_neg (by simp), if_pos (by simp), show (2000 + 2 * i - 2000) / 2 = i by simp]
theorem qxi (w : Nat) (b : Nat → Bool) (i : Nat) : phi w b (2001 + 2 * i) = if b i then [10, w] else [w] := by
 unfold phi
 rw [if_neg (by lia), if_neg (by simp), show (2001 + 2 * i - 2000) / 2 = i by lia]
inductive Sim (φ : Nat → List Nat) : List It → List It → Prop
 | nil : Sim φ [] []
 | star {a b : List It} (h : Sim φ a b) : Sim φ (.star :: a) (.star :: b)
 | txt {a b : List It} {s x : List Nat} {ss : List (List Nat)} (e : cat (x :: ss) = s.flatMap φ) (h : Sim φ a b) : Sim φ (.txt s :: a) (.txt x :: (ss.map .txt ++ b))
theorem Sim.app {φ : Nat → List Nat} {a b a' b' : List It} (h : Sim φ a b) (h' : Sim φ a' b') : Sim φ (a ++ a') (b ++ b') := by
 induction h with
 | nil => exact h'
 | star _ ih => exact .star ih
 | txt e _ ih =>
  rw [List.cons_append, List.cons_append, List.append_assoc]
  exact .txt e ih
theorem Sim.nil_iff {φ : Nat → List Nat} {a b : List It} (h : Sim φ a b) : a = [] ↔ b = [] := by
 cases h <;> simp
theorem ut {x y : It} {r : List It} : j6 (x :: y :: r) = j6 (y :: r) := by rfl
theorem uu {x : List Nat} : ∀ {ss : List (List Nat)} {b : List It}, j6 (.txt x :: (ss.map .txt ++ b)) = if b = [] then false else j6 b
 | [], [] => rfl
 | [], y :: b => by rfl
 | s :: ss, b => by
  rw [List.map_cons, List.cons_append, ut, uu]
theorem Sim.last {φ : Nat → List Nat} {a b : List It} (h : Sim φ a b) : j6 a = j6 b := by
 induction h with
 | nil => rfl
 | @star a b h ih =>
  cases a with
  | nil =>
   have : b = [] := h.nil_iff.mp rfl
   rw [this]
  | cons x r =>
   cases b with
   | nil => have := h.nil_iff.mpr rfl; simp only [*]
   | cons y q => assumption
 | @txt a b s x ss e h ih =>
  rw [uu]
  cases a with
  | nil => rw [if_pos (h.nil_iff.mp rfl)]; rfl
  | cons y q =>
   rw [if_neg (fun q => by have := h.nil_iff.mpr q; cases this), ut]
   exact ih
noncomputable def xw (s : List Nat) : Prop := ∀ x ∈ s, x < 2000
theorem jd {φ : Nat → List Nat} (hφ : ∀ x, x < 2000 → φ x = [x]) : ∀ {s : List Nat}, xw s → s.flatMap φ = s
 | [], _ => rfl
 | x :: r, h => by
  rw [List.flatMap_cons, hφ x (h x (.head _)), jd hφ fun y hy => h y (.tail _ hy)]; rfl
noncomputable def Tk.lo : Tk → Prop
 | .star => True
 | t => ∃ s, t.it = .txt s ∧ xw s
theorem Sim.one {φ : Nat → List Nat} {s : List Nat} {x : List Nat} {ss : List (List Nat)} (e : cat (x :: ss) = s.flatMap φ) : Sim φ [.txt s] ((x :: ss).map .txt) := by
 have := Sim.txt e Sim.nil
 simpa using this
theorem qd {its : List It} {t : Tk} {s : List Nat} (h : t.it = .txt s) : qk its t = its ++ [.txt s] := by
 cases t with
 | star => cases h
 | q => rw [← h]; rfl
 | c ch => rw [← h]; rfl
 | br0 => rw [← h]; rfl
 | brw b => rw [← h]; rfl
noncomputable def XT.lo : XT → Prop
 | .t k => k.lo
 | _ => True
theorem qa2 {w : Nat} {b : Nat → Bool} (hw : w = 32 ∨ w = 9) : ∀ (X : List XT) (i : Nat) (a c : List It), (∀ x ∈ X, x.lo) → Sim (phi w b) a c → Sim (phi w b) (X.foldl wi (a, i)).1 ((real w b i X).foldl qk c)
 | [], i, a, c, _, h => h
 | .t k :: r, i, a, c, hl, h => by
  refine qa2 hw r i (qk a k) (qk c k) (fun x hx => hl x (.tail _ hx)) ?_
  have hk : k.lo := hl _ (.head _)
  cases k with
  | star =>
   simp only [qk, h.last]
   split
   ·exact h
   ·exact h.app (.star .nil)
  | q => refine x_ea hk fun s e hs => ?_; clear hk; rw [qd e, qd e]; exact h.app (Sim.one (ss := []) (by rw [jd (fun x => zf) hs]; simp [cat]))
  | c ch => refine x_ea hk fun s e hs => ?_; clear hk; rw [qd e, qd e]; exact h.app (Sim.one (ss := []) (by rw [jd (fun x => zf) hs]; simp [cat]))
  | br0 => refine x_ea hk fun s e hs => ?_; clear hk; rw [qd e, qd e]; exact h.app (Sim.one (ss := []) (by rw [jd (fun x => zf) hs]; simp [cat]))
  | brw bb => refine x_ea hk fun s e hs => ?_; clear hk; rw [qd e, qd e]; exact h.app (Sim.one (ss := []) (by rw [jd (fun x => zf) hs]; simp [cat]))
 | .ow :: r, i, a, c, hl, h => by
  show Sim _ (r.foldl wi (a ++ [.txt [92, 2000 + 2 * i]], i + 1)).1 (((if b i then [Tk.c 10, .c w] else [.c w]) ++ real w b (i + 1) r).foldl qk c)
  rw [List.foldl_append]
  refine qa2 hw r (i + 1) _ _ (fun x hx => hl x (.tail _ hx)) ?_
  have ew : Tk.it (.c w) = .txt [92, w] := by
   show It.txt (escC w) = _
   unfold escC; rcases hw with rfl | rfl <;> rfl
  have e10 : Tk.it (.c 10) = .txt [92, 10] := rfl
  by_cases hb : b i
  ·rw [if_pos hb]
   simp only [List.foldl_cons, List.foldl_nil]
   rw [qd e10, qd ew, List.append_assoc]
   refine h.app (Sim.one (s := [92, 2000 + 2 * i]) (x := [92, 10]) (ss := [[92, w]]) ?_)
   simp only [List.flatMap_cons, List.flatMap_nil, zf (show 92 < 2000 by decide), qvu, if_pos hb]; rfl
  ·rw [if_neg hb]
   simp only [List.foldl_cons, List.foldl_nil]
   rw [qd ew]
   refine h.app (Sim.one (s := [92, 2000 + 2 * i]) (x := [92, w]) (ss := []) ?_)
   simp only [List.flatMap_cons, List.flatMap_nil, zf (show 92 < 2000 by decide), qvu, if_neg hb]; rfl
 | .iw :: r, i, a, c, hl, h => by
  show Sim _ (r.foldl wi (a ++ [.txt [91, 2001 + 2 * i, 101, 93]], i + 1)).1 ((real w b (i + 1) r).foldl qk (qk c (.brw ((if b i then [10] else []) ++ [w, 101]))))
  refine qa2 hw r (i + 1) _ _ (fun x hx => hl x (.tail _ hx)) ?_
  rw [qd (t := .brw ((if b i then [10] else []) ++ [w, 101])) rfl]
  refine h.app (Sim.one (ss := []) ?_)
  simp only [List.flatMap_cons, List.flatMap_nil, zf (show 91 < 2000 by decide), zf (show 101 < 2000 by decide), zf (show 93 < 2000 by decide), qxi]
  split <;> simp [cat]
theorem xq (x : List Nat) (xs : List (List Nat)) : cat (x :: xs) = x ++ cat xs := rfl
theorem qbn (xs ys : List (List Nat)) : cat (xs ++ ys) = cat xs ++ cat ys := by simp [cat]
theorem qpw : ∀ (ss : List (List Nat)) (b : List It), tx (ss.map .txt ++ b) = ss ++ tx b
 | [], b => rfl
 | s :: ss, b => by simp [qxm, qxn, qxo, qpw ss b]
theorem qjr : ∀ (ss : List (List Nat)) (b : List It), aft (ss.map .txt ++ b) = aft b
 | [], b => rfl
 | s :: ss, b => by simp [qu1, qu2, qu3, qjr ss b]
theorem Sim.tx {φ : Nat → List Nat} {a b : List It} (h : Sim φ a b) : cat (tx b) = (cat (tx a)).flatMap φ := by
 induction h with
 | nil => rfl
 | star _ _ => rfl
 | txt e _ ih =>
  simp only [Mine.tx, qpw, xq, qbn, List.flatMap_append, ih]
  rw [← e, xq, List.append_assoc]
theorem Sim.aft {φ : Nat → List Nat} {a b : List It} (h : Sim φ a b) : Sim φ (aft a) (aft b) := by
 induction h with
 | nil => exact .nil
 | star h _ => exact .star h
 | txt e _ ih =>
  simp only [Mine.aft, qjr]; exact ih
theorem js {n : Nat} {x : It} {r : List It} : grp (n + 1) (.star :: x :: r) = match aft (x :: r) with
   | [] => [jg, cat (tx (x :: r))]
   | r' => (ja ++ cat (tx (x :: r)) ++ [41]) :: grp n r' := rfl
theorem Sim.grp {φ : Nat → List Nat} (hφ : ∀ x, x < 2000 → φ x = [x]) : ∀ (n m : Nat) {a b : List It}, Sim φ a b → a.length ≤ n → b.length ≤ m → cat (grp m b) = (cat (grp n a)).flatMap φ
 | n, m, _, _, .nil, _, _ => by
  have h1 : ∀ k, Mine.grp k ([] : List It) = [] := fun k => by cases k <;> rfl
  rw [h1, h1]; rfl
 | n, m, _, _, .txt e h, _, _ => by
  have h1 : ∀ k s (r : List It), Mine.grp k (.txt s :: r) = [] := fun k s r => by cases k <;> rfl
  rw [h1, h1]; rfl
 | 0, _, _, _, .star h, hn, _ => by simp at hn
 | _ + 1, 0, _, _, .star h, _, hm => by simp at hm
 | n + 1, m + 1, .star :: a, .star :: b, .star h, hn, hm => by
  have lo1 : xw jg := by intro x hx; simp at hx; lia
  have lo2 : xw ja := by intro x hx; simp at hx; lia
  have lo3 : xw [41] := by intro x hx; simp at hx; lia
  cases a with
  | nil =>
   have hb := h.nil_iff.mp rfl
   subst hb
   show cat [jg] = (cat [jg]).flatMap φ
   exact Eq.symm (jd hφ lo1)
  | cons x r =>
   cases b with
   | nil => have := h.nil_iff.mpr rfl; cases this
   | cons y q =>
    rw [js, js]
    have ha := h.aft
    have ht := h.tx
    have l1 := qbk (x :: r)
    have l2 := qbk (y :: q)
    cases e1 : Mine.aft (x :: r) with
    | nil =>
     rw [e1] at ha
     have e2 : Mine.aft (y :: q) = [] := ha.nil_iff.mp rfl
     rw [e2]
     simp only [xq, List.flatMap_append, ht, jd hφ lo1]; rfl
    | cons u v =>
     rw [e1] at ha l1
     cases e2 : Mine.aft (y :: q) with
     | nil => rw [e2] at ha; have := ha.nil_iff.mpr rfl; cases this
     | cons u' v' =>
      rw [e2] at ha l2
      have ih := Sim.grp hφ n m ha (by simp at hn l1 ⊢; lia) (by simp at hm l2 ⊢; lia)
      simp only [xq, List.flatMap_append, ht, ih, jd hφ lo2, jd hφ lo3]
theorem Sim.joined {φ : Nat → List Nat} (hφ : ∀ x, x < 2000 → φ x = [x]) {a b : List It} (h : Sim φ a b) : joined b = (joined a).flatMap φ := by
 unfold Mine.joined
 have h2 := Sim.grp hφ a.length b.length h.aft (qbk a) (qbk b)
 have lo1 : xw [40, 63, 115, 58] := by intro x hx; simp at hx; lia
 have lo2 : xw [41, 92, 90] := by intro x hx; simp at hx; lia
 simp only [qbn, List.flatMap_append, h.tx, h2, jd hφ lo1, jd hφ lo2]
noncomputable def tX (X : List XT) : List Nat := joined (X.foldl wi ([], 0)).1
theorem qb5 {w : Nat} (b : Nat → Bool) (hw : w = 32 ∨ w = 9) {X : List XT} (hl : ∀ x ∈ X, x.lo) : joined (jt (real w b 0 X)) = (tX X).flatMap (phi w b) :=
 Sim.joined (fun x => zf) (qa2 hw X 0 [] [] hl .nil)

end
section

noncomputable def allT : List It → List Nat
 | [] => []
 | .star :: r => allT r
 | .txt s :: r => s ++ allT r
theorem qwj : allT [] = [] := by intros; rfl
theorem qwk : ∀ (r : List It), allT (.star :: r) = allT r := by intros; rfl
theorem qwl : ∀ (s : List Nat) (r : List It), allT (.txt s :: r) = s ++ allT r := by intros; rfl
theorem jr : ∀ (a b : List It), allT (a ++ b) = allT a ++ allT b
 | [], b => rfl
 | .star :: r, b => jr r b
 | .txt s :: r, b => by simp [allT, jr r b]
noncomputable abbrev hi (x : Nat) : Bool := decide (2000 ≤ x)
theorem yu {s : List Nat} (h : xw s) : s.filter hi = [] := by
 rw [List.filter_eq_nil_iff]; intro x hx; have := h x hx; simp; assumption
theorem qhk : ∀ (its : List It), allT its = cat (tx its) ++ allT (aft its)
 | [] => rfl
 | .star :: r => rfl
 | .txt s :: r => by simp [allT, tx, aft, xq, qhk r]
theorem qn6 : ∀ (n : Nat) (its : List It), its.length ≤ n → (its = [] ∨ ∃ r, its = .star :: r) → (cat (grp n its)).filter hi = (allT its).filter hi
 | 0, [], _, _ => rfl
 | n + 1, [], _, _ => rfl
 | 0, _ :: _, h, _ => by simp at h
 | n + 1, .txt s :: r, _, h => by simp at h
 | n + 1, .star :: [], _, _ => by rfl
 | n + 1, .star :: x :: r, hn, _ => by
  rw [js]
  have e := qhk (x :: r)
  have l := qbk (x :: r)
  show _ = (allT (x :: r)).filter hi
  have ih := qn6 n (aft (x :: r)) (by simp at hn l; exact Nat.le_trans l hn) (by
   exact qbj (x :: r))
  rw [e]
  cases e1 : aft (x :: r) with
  | nil =>
   rfl
  | cons u v =>
   rw [e1] at ih
   simp only [xq, List.filter_append, yu (show xw ja by delta xw; decide), yu (show xw [41] by delta xw; decide), ih]
   simp
theorem qol (its : List It) : (joined its).filter hi = (allT its).filter hi := by
 unfold joined
 have h := qn6 its.length (aft its) (qbk its) (qbj its)
 rw [qhk its]
 simp only [qbn, List.filter_append, h, yu (show xw [40, 63, 115, 58] by delta xw; decide), yu (show xw [41, 92, 90] by delta xw; decide)]
 exact List.append_nil ([] ++ (List.filter hi (cat (tx its)) ++ List.filter hi (allT (aft its))))
noncomputable def jy : Nat → List XT → List Nat
 | _, [] => []
 | i, .t _ :: r => jy i r
 | i, .ow :: r => (2000 + 2 * i) :: jy (i + 1) r
 | i, .iw :: r => (2001 + 2 * i) :: jy (i + 1) r
theorem qd8 : ∀ (x : Nat), jy x [] = [] := by intros; rfl
theorem qd9 : ∀ (x : Nat) (k : Tk) (r : List XT), jy x (.t k :: r) = jy x r := by intros; rfl
theorem qea : ∀ (x : Nat) (r : List XT), jy x (.ow :: r) = (2000 + 2 * x) :: jy (x + 1) r := by intros; rfl
theorem qeb : ∀ (x : Nat) (r : List XT), jy x (.iw :: r) = (2001 + 2 * x) :: jy (x + 1) r := by intros; rfl
theorem qtt {its : List It} {k : Tk} (h : k.lo) : (allT (qk its k)).filter hi = (allT its).filter hi := by
 cases k with
 | star =>
  simp only [qk]; split
  ·rfl
  ·rw [jr]; simp [allT]
 | q => refine x_ea h fun s e hs => ?_; clear h; rw [qd e, jr]; simp [allT, List.filter_append, yu hs]
 | c ch => refine x_ea h fun s e hs => ?_; clear h; rw [qd e, jr]; simp [allT, List.filter_append, yu hs]
 | br0 => refine x_ea h fun s e hs => ?_; clear h; rw [qd e, jr]; simp [allT, List.filter_append, yu hs]
 | brw b => refine x_ea h fun s e hs => ?_; clear h; rw [qd e, jr]; simp [allT, List.filter_append, yu hs]
theorem qek : ∀ (X : List XT) (i : Nat) (a : List It), (∀ x ∈ X, x.lo) → (allT (X.foldl wi (a, i)).1).filter hi = (allT a).filter hi ++ jy i X
 | [], i, a, _ => by simp [jy]
 | .t k :: r, i, a, h => by
  show (allT (r.foldl wi (qk a k, i)).1).filter hi = _
  rw [qek r i _ fun x hx => h x (.tail _ hx), qtt (h _ (.head _))]; rfl
 | .ow :: r, i, a, h => by
  show (allT (r.foldl wi (a ++ [.txt [92, 2000 + 2 * i]], i + 1)).1).filter hi = _
  rw [qek r (i + 1) _ fun x hx => h x (.tail _ hx), jr]
  simp [allT, jy, List.filter_cons]
 | .iw :: r, i, a, h => by
  show (allT (r.foldl wi (a ++ [.txt [91, 2001 + 2 * i, 101, 93]], i + 1)).1).filter hi = _
  rw [qek r (i + 1) _ fun x hx => h x (.tail _ hx), jr]
  have h1 : 2000 ≤ 2001 + 2 * i := by lia
  simp [allT, jy, List.filter_cons, h1]
theorem qpq {X : List XT} (h : ∀ x ∈ X, x.lo) : (tX X).filter hi = jy 0 X := by
 unfold tX; rw [qol, qek X 0 [] h]; rfl
theorem qn7 {P : Nat → Prop} (hc : ∀ x ∈ jg ++ ja ++ [41], P x) : ∀ (n : Nat) (its : List It), (∀ x ∈ allT its, P x) → ∀ s ∈ grp n its, ∀ x ∈ s, P x
 | 0, _, _, s, hs => by cases hs
 | n + 1, [], _, s, hs => by cases hs
 | n + 1, .txt _ :: _, _, s, hs => by cases hs
 | n + 1, .star :: [], _, s, hs => by
  have : s = jg := by simpa [grp] using hs
  subst this
  intro x hx; exact hc x (by revert hx; revert x; decide)
 | n + 1, .star :: x :: r, h, s, hs => by
  rw [js] at hs
  have e := qhk (x :: r)
  have h' : ∀ y ∈ cat (tx (x :: r)) ++ allT (aft (x :: r)), P y := by rw [← e]; exact h
  cases e1 : aft (x :: r) with
  | nil =>
   rw [e1] at hs
   simp at hs
   rcases hs with rfl | rfl
   ·intro y hy; exact hc y (by revert hy; revert y; decide)
   ·intro y hy; exact h' y (List.mem_append_left _ hy)
  | cons u v =>
   rw [e1] at hs h'
   rcases List.mem_cons.mp hs with rfl | hs
   ·intro y hy
    simp only [List.mem_append] at hy
    rcases hy with (hy | hy) | hy
    ·exact hc y (by revert hy; revert y; decide)
    ·exact h' y (List.mem_append_left _ hy)
    ·exact hc y (by exact List.mem_append_right (jg ++ ja) hy)
   ·exact qn7 hc n (u :: v) (fun y hy => h' y (List.mem_append_right _ hy)) s hs
noncomputable abbrev qu8 : List Nat := [40, 63, 115, 58, 46, 42, 62, 41, 92, 90]
theorem qlk {P : Nat → Prop} (hc : ∀ x ∈ qu8, P x) {its : List It} (h : ∀ x ∈ allT its, P x) : ∀ x ∈ joined its, P x := by
 have e := qhk its
 intro x hx
 unfold joined at hx
 simp only [qbn, List.mem_append] at hx
 rcases hx with (hx | hx | hx) | hx
 ·exact hc x (by revert hx; revert x; decide)
 ·exact h x (by rw [e]; exact List.mem_append_left _ hx)
 ·refine x_ea (List.mem_flatten.mp hx) fun s hs hxs => ?_
  refine qn7 (P := P) (fun y hy => hc y (by revert hy; revert y; decide)) its.length (aft its) (fun y hy => h y (by rw [e]; exact List.mem_append_right _ hy)) s hs x hxs
 ·exact hc x (by revert hx; revert x; decide)
noncomputable def pv (x : Nat) : Nat := if x % 2 = 0 then 92 else 91
noncomputable def okF : Nat → List Nat → Prop
 | _, [] => True
 | p, x :: r => (2000 ≤ x → p = pv x) ∧ okF x r
noncomputable def Okl (l : List Nat) : Prop := ∀ p, okF p l
theorem qo6 : ∀ {a b : List Nat} {p : Nat}, okF p a → Okl b → okF p (a ++ b)
 | [], b, p, _, hb => hb p
 | x :: a, b, p, ha, hb => ⟨ha.1, qo6 ha.2 hb⟩
theorem Okl.app {a b : List Nat} (ha : Okl a) (hb : Okl b) : Okl (a ++ b) := fun p => qo6 (ha p) hb
theorem Okl.lo : ∀ {s : List Nat}, xw s → Okl s
 | [], _, _ => trivial
 | x :: r, h, p => ⟨fun q => absurd (h x (.head _)) (by exact (fun {a b} => Nat.not_lt.mpr) q), Okl.lo (fun y hy => h y (.tail _ hy)) x⟩
theorem Okl.cat : ∀ {xs : List (List Nat)}, (∀ x ∈ xs, Okl x) → Okl (Mine.cat xs)
 | [], _ => fun ω => trivial
 | x :: xs, h => (h x (.head _)).app (Okl.cat fun y hy => h y (.tail _ hy))
noncomputable def OkT (its : List It) : Prop := ∀ s, .txt s ∈ its → Okl s
theorem qpv : ∀ {its : List It} {s : List Nat}, s ∈ tx its → It.txt s ∈ its
 | .txt u :: r, s, h => by
  rcases List.mem_cons.mp h with rfl | h
  ·exact .head _
  ·exact .tail _ (qpv h)
 | .star :: r, s, h => by cases h
 | [], s, h => by cases h
theorem qif : ∀ {its : List It} {x : It}, x ∈ aft its → x ∈ its
 | .txt u :: r, x, h => .tail _ (qif (its := r) h)
 | .star :: r, x, h => h
 | [], x, h => h
theorem qsl : ∀ (n : Nat) (its : List It), OkT its → ∀ s ∈ grp n its, Okl s
 | 0, _, _, s, hs => by cases hs
 | n + 1, [], _, s, hs => by cases hs
 | n + 1, .txt _ :: _, _, s, hs => by cases hs
 | n + 1, .star :: [], _, s, hs => by
  have : s = jg := by simpa [grp] using hs
  subst this
  exact Okl.lo (by delta xw; decide)
 | n + 1, .star :: x :: r, h, s, hs => by
  rw [js] at hs
  have h1 : OkT (x :: r) := fun s hs => h s (.tail _ hs)
  have h2 : Okl (cat (tx (x :: r))) := Okl.cat fun y hy => h1 y (qpv hy)
  have lo1 : Okl jg := Okl.lo (by delta xw; decide)
  have lo2 : Okl ja := Okl.lo (by delta xw; decide)
  have lo3 : Okl [41] := Okl.lo (by delta xw; decide)
  cases e1 : aft (x :: r) with
  | nil =>
   rw [e1] at hs
   simp at hs
   rcases hs with rfl | rfl
   ·exact lo1
   ·exact h2
  | cons u v =>
   rw [e1] at hs
   rcases List.mem_cons.mp hs with rfl | hs
   ·exact (lo2.app h2).app lo3
   ·exact qsl n (u :: v) (fun s hs => h1 s (qif (by rw [e1]; exact hs))) s hs
theorem qom {its : List It} (h : OkT its) : Okl (joined its) := by
 unfold joined
 refine ((Okl.lo (by delta xw; decide)).app (Okl.cat fun s hs => ?_)).app (Okl.lo (by delta xw; decide))
 rcases List.mem_append.mp hs with hs | hs
 ·exact h s (qpv hs)
 ·exact qsl _ _ (fun s hs => h s (qif hs)) s hs
theorem OkT.step {its : List It} {k : Tk} (h : OkT its) (hk : k.lo) : OkT (qk its k) := by
 have add : ∀ s, xw s → OkT (its ++ [.txt s]) := fun s hs u hu => by
  rcases List.mem_append.mp hu with q | q
  ·exact h u q
  ·simp at q; subst q; exact Okl.lo hs
 cases k with
 | star =>
  simp only [qk]; split
  ·exact h
  ·intro u hu
   rcases List.mem_append.mp hu with q | q
   ·exact h u q
   ·simp at q
 | q => refine x_ea hk fun s e hs => ?_; clear hk; rw [qd e]; exact add s hs
 | c ch => refine x_ea hk fun s e hs => ?_; clear hk; rw [qd e]; exact add s hs
 | br0 => refine x_ea hk fun s e hs => ?_; clear hk; rw [qd e]; exact add s hs
 | brw b => refine x_ea hk fun s e hs => ?_; clear hk; rw [qd e]; exact add s hs
theorem qel : ∀ (X : List XT) (i : Nat) (a : List It), (∀ x ∈ X, x.lo) → OkT a → OkT (X.foldl wi (a, i)).1
 | [], _, _, _, h => h
 | .t k :: r, i, a, hl, h => qel r i _ (fun x hx => hl x (.tail _ hx)) (h.step (hl _ (.head _)))
 | .ow :: r, i, a, hl, h => by
  refine qel r (i + 1) _ (fun x hx => hl x (.tail _ hx)) fun u hu => ?_
  rcases List.mem_append.mp hu with q | q
  ·exact h u q
  ·simp at q; subst q
   intro p
   exact ⟨fun q => by lia, fun ω => by unfold pv; simp, trivial⟩
 | .iw :: r, i, a, hl, h => by
  refine qel r (i + 1) _ (fun x hx => hl x (.tail _ hx)) fun u hu => ?_
  rcases List.mem_append.mp hu with q | q
  ·exact h u q
  ·simp at q; subst q
   intro p
   exact ⟨fun q => by lia, fun ω => by unfold pv; simp, fun q => by lia, fun q => by lia, trivial⟩
theorem quf {X : List XT} (h : ∀ x ∈ X, x.lo) : Okl (tX X) := qom (qel X 0 [] h fun s hs => by cases hs)
noncomputable def jw (x : Nat) : Prop := 2000 ≤ x ∨ (x < 128 ∧ x ≠ 32 ∧ x ≠ 9 ∧ x ≠ 10)
noncomputable def Tk.plain : Tk → Prop
 | .star => True
 | t => ∃ s, t.it = .txt s ∧ ∀ x ∈ s, x < 128 ∧ x ≠ 32 ∧ x ≠ 9 ∧ x ≠ 10
noncomputable def XT.plain : XT → Prop
 | .t k => k.plain
 | _ => True
theorem Tk.plain.lo {k : Tk} (h : k.plain) : k.lo := by
 cases k with
 | star => trivial
 | q => refine x_ea h fun s e hs => ?_; clear h; exact ⟨s, e, fun x hx => by have := (hs x hx).1; lia⟩
 | c ch => refine x_ea h fun s e hs => ?_; clear h; exact ⟨s, e, fun x hx => by have := (hs x hx).1; lia⟩
 | br0 => refine x_ea h fun s e hs => ?_; clear h; exact ⟨s, e, fun x hx => by have := (hs x hx).1; lia⟩
 | brw b => refine x_ea h fun s e hs => ?_; clear h; exact ⟨s, e, fun x hx => by have := (hs x hx).1; lia⟩
theorem XT.plain.lo {x : XT} (h : x.plain) : x.lo := by
 cases x with
 | t k => exact Tk.plain.lo h
 | ow => trivial
 | iw => trivial
theorem qly {its : List It} {k : Tk} (h : ∀ x ∈ allT its, jw x) (hk : k.plain) : ∀ x ∈ allT (qk its k), jw x := by
 have add : ∀ s, (∀ x ∈ s, x < 128 ∧ x ≠ 32 ∧ x ≠ 9 ∧ x ≠ 10) → ∀ x ∈ allT (its ++ [.txt s]), jw x := fun s hs x hx => by
  rw [jr] at hx
  rcases List.mem_append.mp hx with q | q
  ·exact h x q
  ·exact .inr (hs x (by simpa [allT] using q))
 cases k with
 | star =>
  simp only [qk]; split
  ·exact h
  ·intro x hx
   rw [jr] at hx
   rcases List.mem_append.mp hx with q | q
   ·exact h x q
   ·cases q
 | q => refine x_ea hk fun s e hs => ?_; clear hk; rw [qd e]; exact add s hs
 | c ch => refine x_ea hk fun s e hs => ?_; clear hk; rw [qd e]; exact add s hs
 | br0 => refine x_ea hk fun s e hs => ?_; clear hk; rw [qd e]; exact add s hs
 | brw b => refine x_ea hk fun s e hs => ?_; clear hk; rw [qd e]; exact add s hs
theorem w9 : ∀ (X : List XT) (i : Nat) (a : List It), (∀ x ∈ X, x.plain) → (∀ x ∈ allT a, jw x) → ∀ x ∈ allT (X.foldl wi (a, i)).1, jw x
 | [], _, _, _, h => h
 | .t k :: r, i, a, hl, h => w9 r i _ (fun x hx => hl x (.tail _ hx)) (qly h (hl _ (.head _)))
 | .ow :: r, i, a, hl, h => by
  refine w9 r (i + 1) _ (fun x hx => hl x (.tail _ hx)) fun u hu => ?_
  rw [jr] at hu
  rcases List.mem_append.mp hu with q | q
  ·exact h u q
  ·simp [allT] at q; unfold jw; lia
 | .iw :: r, i, a, hl, h => by
  refine w9 r (i + 1) _ (fun x hx => hl x (.tail _ hx)) fun u hu => ?_
  rw [jr] at hu
  rcases List.mem_append.mp hu with q | q
  ·exact h u q
  ·simp [allT] at q; unfold jw; lia
theorem qfg {X : List XT} (h : ∀ x ∈ X, x.plain) : ∀ x ∈ tX X, jw x :=
 qlk (by delta jw; decide) (w9 X 0 [] h fun x hx => by cases hx)
theorem qim : ∀ (n : Nat) (its : List It), (cat (grp n its)).length + 0 ≤ wts its
 | 0, _ => Nat.zero_le _
 | n + 1, [] => Nat.zero_le _
 | n + 1, .txt _ :: _ => Nat.zero_le _
 | n + 1, .star :: [] => by exact Nat.le_of_ble_eq_true rfl
 | n + 1, .star :: x :: r => by
  rw [js, qfk]
  have e := wts_tx (x :: r)
  show _ ≤ 16 + wts (x :: r)
  cases e1 : aft (x :: r) with
  | nil =>
   rw [e1] at e
   simp only [xq, List.length_append, show (cat []).length = 0 from rfl, List.length_cons, List.length_nil] at e ⊢
   lia
  | cons u v =>
   rw [e1] at e
   have ih := qim n (u :: v)
   simp only [xq, List.length_append, List.length_cons, List.length_nil] at e ih ⊢
   lia
where wts_tx : ∀ (its : List It), (cat (tx its)).length + wts (aft its) ≤ wts its
 | [] => by decide
 | .star :: r => by simp [tx, aft, cat]
 | .txt s :: r => by
  have := wts_tx r
  simp only [tx, aft, xq, qfk, List.length_append, It.wt]; lia
theorem qlj (its : List It) : (joined its).length ≤ 7 + wts its := by
 unfold joined
 have h1 := qim its.length (aft its)
 have h2 := qim.wts_tx its
 simp only [qbn, List.length_append, List.length_cons, List.length_nil] at *
 lia

end
section

noncomputable def segs : List Nat → List Nat × List (Nat × List Nat)
 | [] => ([], [])
 | x :: r => if 2000 ≤ x then ([], (x, (segs r).1) :: (segs r).2) else (x :: (segs r).1, (segs r).2)
theorem qpi : segs [] = ([], []) := by intros; rfl
theorem wd : ∀ (x : Nat) (r : List Nat), segs (x :: r) = if 2000 ≤ x then ([], (x, (segs r).1) :: (segs r).2) else (x :: (segs r).1, (segs r).2) := by intros; rfl
noncomputable def ix (x : Nat) : Nat := (x - 2000) / 2
theorem wy {f : Nat → List Nat} (hf : ∀ x, x < 2000 → f x = [x]) : ∀ (T : List Nat), T.flatMap f = (segs T).1 ++ (segs T).2.flatMap fun q => f q.1 ++ q.2
 | [] => rfl
 | x :: r => by
  have ih := wy hf r
  rw [List.flatMap_cons, wd]
  by_cases h : 2000 ≤ x
  ·rw [if_pos h]; simp only [List.flatMap_cons, List.nil_append, List.append_assoc]; rw [ih]
  ·rw [if_neg h, hf x (by exact Nat.lt_of_not_le h), ih]; rfl
theorem wz : ∀ (T : List Nat), (segs T).2.map (·.1) = T.filter hi
 | [] => rfl
 | x :: r => by
  have ih := wz r
  rw [wd]
  by_cases h : 2000 ≤ x
  ·rw [if_pos h, List.filter_cons_of_pos (by exact decide_eq_true h)]; simp [ih]
  ·rw [if_neg h, List.filter_cons_of_neg (by simpa using h)]; exact ih
theorem uc : ∀ (T : List Nat), (∀ x ∈ (segs T).1, x < 2000 ∧ x ∈ T) ∧ ∀ q ∈ (segs T).2, 2000 ≤ q.1 ∧ ∀ x ∈ q.2, x < 2000 ∧ x ∈ T
 | [] => by decide
 | x :: r => by
  obtain ⟨h1, h2⟩ := uc r
  rw [wd]
  by_cases h : 2000 ≤ x
  ·rw [if_pos h]
   refine ⟨by simp, fun q hq => ?_⟩
   rcases List.mem_cons.mp hq with rfl | hq
   ·exact ⟨h, fun y hy => ⟨(h1 y hy).1, .tail _ (h1 y hy).2⟩⟩
   ·exact ⟨(h2 q hq).1, fun y hy => ⟨((h2 q hq).2 y hy).1, .tail _ ((h2 q hq).2 y hy).2⟩⟩
  ·rw [if_neg h]
   refine ⟨fun y hy => ?_, fun q hq => ⟨(h2 q hq).1, fun y hy => ⟨((h2 q hq).2 y hy).1, .tail _ ((h2 q hq).2 y hy).2⟩⟩⟩
   rcases List.mem_cons.mp hy with rfl | hy
   ·exact ⟨by exact Nat.lt_of_not_le h, .head _⟩
   ·exact ⟨(h1 y hy).1, .tail _ (h1 y hy).2⟩
noncomputable def qat : List Nat → List (Nat × List Nat) → Prop
 | _, [] => True
 | t, (s, t') :: r => t.getLast? = some (pv s) ∧ qat t' r
theorem qpd (s : Nat) : pv s = 92 ∨ pv s = 91 := by unfold pv; split <;> simp
theorem qhg : ∀ (T : List Nat) (p : Nat), okF p T → (∀ s t r, segs T = ([], (s, t) :: r) → p = pv s ∧ qat t r) ∧ ((segs T).1 ≠ [] → qat (segs T).1 (segs T).2)
 | [], p, _ => by simp [qpi, wd]
 | x :: r, p, h => by
  obtain ⟨h1, h2⟩ := qhg r x h.2
  rw [wd]
  have key : (segs r).1 = [] → ∀ s t q, (segs r).2 = (s, t) :: q → x = pv s ∧ qat t q := fun e s t q e' => h1 s t q (by exact Prod.ext e e')
  by_cases hx : 2000 ≤ x
  ·rw [if_pos hx]
   refine ⟨fun s t q e => ?_, by exact fun a => False.elim (a rfl)⟩
   simp only [Prod.mk.injEq, List.cons.injEq, true_and] at e
   obtain ⟨⟨rfl, rfl⟩, rfl⟩ := e
   refine ⟨h.1 hx, ?_⟩
   by_cases e : (segs r).1 = []
   ·cases e2 : (segs r).2 with
    | nil => trivial
    | cons a b =>
     obtain ⟨s', t'⟩ := a
     have := (key e s' t' b e2).1
     rcases qpd s' with q | q <;> lia
   ·exact h2 e
  ·rw [if_neg hx]
   refine ⟨fun s t q e => by simp at e, fun ω => ?_⟩
   by_cases e : (segs r).1 = []
   ·rw [e]
    cases e2 : (segs r).2 with
    | nil => trivial
    | cons a b =>
     obtain ⟨s', t'⟩ := a
     obtain ⟨k1, k2⟩ := key e s' t' b e2
     exact ⟨by rw [← k1]; rfl, k2⟩
   ·have h2' := h2 e
    cases e2 : (segs r).2 with
    | nil => trivial
    | cons a b =>
     obtain ⟨s', t'⟩ := a
     rw [e2] at h2'
     refine ⟨?_, h2'.2⟩
     refine x_e2 (List.exists_cons_of_ne_nil e) fun y ys e3 => ?_
     rw [e3, List.getLast?_cons_cons, ← e3]; exact h2'.1
noncomputable def psi (w x : Nat) : Nat := if 2000 ≤ x then w else x
theorem qov (w : Nat) : ∀ (T : List Nat), T.flatMap (phi w fun ω => false) = T.map (psi w)
 | [] => rfl
 | x :: r => by
  rw [List.flatMap_cons, List.map_cons, qov w r]
  unfold phi psi
  by_cases h : 2000 ≤ x
  ·rw [if_neg (by exact (fun {a b} => Nat.not_lt.mpr) h), if_pos h]; simp
  ·rw [if_pos (by exact Nat.lt_of_not_le h), if_neg h]; rfl
theorem qvv {w x : Nat} (h : x < 2000) : psi w x = x := if_neg (by exact Nat.not_le_of_lt h)
theorem qxr {w x : Nat} (h : 2000 ≤ x) : psi w x = w := if_pos h
theorem qt2 {w x : Nat} (hw : w = 32 ∨ w = 9) (h : jw x) : psi w x = w ↔ 2000 ≤ x := by
 unfold psi
 split
 ·simp [*]
 ·unfold jw at h; lia
theorem qjy {w : Nat} (hw : w = 32 ∨ w = 9) : ∀ (T : List Nat) (p : Nat), okF p T → (∀ x ∈ T, jw x) → (p = 92 ∨ p = 91 → psi w p = p) → (psi w p = 92 → p = 92) → cnt2 92 w ((p :: T).map (psi w)) = (T.filter hi).countP (fun x => x % 2 = 0)
 | [], p, _, _, _, _ => rfl
 | x :: r, p, h, hp, h0, h00 => by
  have ih := qjy hw r x h.2 (fun y hy => hp y (.tail _ hy)) (fun q => qvv (by lia)) (fun q => by
   unfold psi at q; split at q <;> lia)
  rw [List.map_cons, List.map_cons, qae, ← List.map_cons, ih]
  have hx := qt2 hw (hp x (.head _))
  by_cases hh : 2000 ≤ x
  ·rw [List.filter_cons_of_pos (by exact decide_eq_true hh), List.countP_cons]
   have hpv := h.1 hh
   have e1 : psi w p = p := h0 (by rw [hpv]; exact qpd x)
   rw [e1, hx.mpr hh, hpv]
   unfold pv
   by_cases he : x % 2 = 0
   ·simp [he]; exact Nat.add_comm 1 (List.countP (fun x => decide (x % 2 = 0)) (List.filter hi r))
   ·simp [he]
  ·rw [List.filter_cons_of_neg (by simpa using hh)]
   rw [if_neg (fun q => hh (hx.mp q.2))]; exact Nat.zero_add (List.countP (fun x => decide (x % 2 = 0)) (List.filter hi r))
noncomputable def jv : Nat → List XT → List Nat
 | _, [] => []
 | i, .t k :: r => k.flat ++ jv i r
 | i, .ow :: r => (2000 + 2 * i) :: jv (i + 1) r
 | i, .iw :: r => 91 :: (2001 + 2 * i) :: 101 :: 93 :: jv (i + 1) r
theorem qr4 : ∀ (x : Nat), jv x [] = [] := by intros; rfl
theorem qfl : ∀ (x : Nat) (k : Tk) (r : List XT), jv x (.t k :: r) = k.flat ++ jv x r := by intros; rfl
theorem qfm : ∀ (x : Nat) (r : List XT), jv x (.ow :: r) = (2000 + 2 * x) :: jv (x + 1) r := by intros; rfl
theorem qfn : ∀ (x : Nat) (r : List XT), jv x (.iw :: r) = 91 :: (2001 + 2 * x) :: 101 :: 93 :: jv (x + 1) r := by intros; rfl
noncomputable def phip (w : Nat) (b : Nat → Bool) (x : Nat) : List Nat := if x < 2000 then [x] else (if b (ix x) then [10, w] else [w])
theorem yy {w : Nat} {b : Nat → Bool} {x : Nat} (h : x < 2000) : phip w b x = [x] := if_pos h
theorem wv {w : Nat} {b : Nat → Bool} {x : Nat} (h : 2000 ≤ x) : phip w b x = (if b (ix x) then [10] else []) ++ [w] := by
 unfold phip; rw [if_neg (by exact (fun {a b} => Nat.not_lt.mpr) h)]; split <;> rfl
noncomputable def XT.fl : XT → Prop
 | .t k => (∀ x ∈ k.flat, x < 128 ∧ x ≠ 32 ∧ x ≠ 9 ∧ x ≠ 10) ∧ k.flat.getLast? ≠ some 91
 | _ => True
theorem ix_o (i : Nat) : ix (2000 + 2 * i) = i := by unfold ix; simp
theorem ix_i (i : Nat) : ix (2001 + 2 * i) = i := by unfold ix; lia
theorem ze (w : Nat) (b : Nat → Bool) : ∀ (X : List XT) (i : Nat), (∀ x ∈ X, x.fl) → qj (real w b i X) = (jv i X).flatMap (phip w b)
 | [], _, _ => rfl
 | .t k :: r, i, h => by
  have ih := ze w b r i fun x hx => h x (.tail _ hx)
  have hk := (h _ (.head _)).1
  rw [qcd, qfl, List.flatMap_append, ← ih, jd (fun x => yy) fun x hx => by have := (hk x hx).1; lia]
  rfl
 | .ow :: r, i, h => by
  have ih := ze w b r (i + 1) fun x hx => h x (.tail _ hx)
  rw [qam, qfm, List.flatMap_cons, ← ih, wv (by simp), ix_o]
  by_cases hb : b i
  ·simp [hb, Tk.flat]
  ·simp [hb, Tk.flat]
 | .iw :: r, i, h => by
  have ih := ze w b r (i + 1) fun x hx => h x (.tail _ hx)
  rw [real, qfn]
  simp only [List.flatMap_cons, yy (show 91 < 2000 by decide), yy (show 101 < 2000 by decide), yy (show 93 < 2000 by decide)]
  rw [← ih, wv (by lia), ix_i]
  by_cases hb : b i
  ·simp [hb, Tk.flat]
  ·simp [hb, Tk.flat]
theorem vj : ∀ (X : List XT) (i : Nat), (∀ x ∈ X, x.fl) → (jv i X).filter hi = jy i X
 | [], _, _ => rfl
 | .t k :: r, i, h => by
  rw [qfl, List.filter_append, vj r i fun x hx => h x (.tail _ hx), yu fun x hx => by have := ((h _ (.head _)).1 x hx).1; lia]; rfl
 | .ow :: r, i, h => by
  rw [qfm, List.filter_cons_of_pos (by simp), vj r (i + 1) fun x hx => h x (.tail _ hx)]; rfl
 | .iw :: r, i, h => by
  rw [qfn, List.filter_cons_of_neg (by exact ne_true_of_eq_false rfl), List.filter_cons_of_pos (by lia), List.filter_cons_of_neg (by exact ne_true_of_eq_false rfl), List.filter_cons_of_neg (by exact ne_true_of_eq_false rfl), vj r (i + 1) fun x hx => h x (.tail _ hx)]; rfl
theorem xp : ∀ (X : List XT) (i : Nat), (∀ x ∈ X, x.fl) → ∀ x ∈ jv i X, jw x
 | [], _, _, x, hx => by cases hx
 | .t k :: r, i, h, x, hx => by
  rcases List.mem_append.mp hx with q | q
  ·exact .inr ((h _ (.head _)).1 x q)
  ·exact xp r i (fun x hx => h x (.tail _ hx)) x q
 | .ow :: r, i, h, x, hx => by
  rcases List.mem_cons.mp hx with rfl | q
  ·exact .inl (by simp)
  ·exact xp r (i + 1) (fun x hx => h x (.tail _ hx)) x q
 | .iw :: r, i, h, x, hx => by
  simp only [qr4, qfl, qfm, qfn, List.mem_cons] at hx
  rcases hx with rfl | rfl | rfl | rfl | q
  ·unfold jw; decide
  ·unfold jw; lia
  ·unfold jw; decide
  ·unfold jw; decide
  ·exact xp r (i + 1) (fun x hx => h x (.tail _ hx)) x q
noncomputable def okP : Nat → List Nat → Prop
 | _, [] => True
 | p, x :: r => (2000 ≤ x → (p = 91 ↔ x % 2 = 1)) ∧ okP x r
theorem qst : ∀ (s : List Nat) (p : Nat) {r : List Nat}, xw s → (∀ q, q ≠ 91 → okP q r) → s.getLast? ≠ some 91 → p ≠ 91 ∨ s ≠ [] → okP p (s ++ r)
 | [], p, r, _, h, _, hp => h p (by simpa using hp)
 | [x], p, r, hl, h, h91, _ => ⟨fun q => absurd (hl x (.head _)) (by exact (fun {a b} => Nat.not_lt.mpr) q), h x (by simpa using h91)⟩
 | x :: y :: s, p, r, hl, h, h91, _ => ⟨fun q => absurd (hl x (.head _)) (by exact (fun {a b} => Nat.not_lt.mpr) q), qst (y :: s) x (fun z hz => hl z (.tail _ hz)) h (by assumption) (.inr (by exact List.cons_ne_nil y s))⟩
theorem u6 : ∀ (X : List XT) (i p : Nat), (∀ x ∈ X, x.fl) → p ≠ 91 → okP p (jv i X)
 | [], _, _, _, _ => trivial
 | .t k :: r, i, p, h, hp => qst k.flat p (fun x hx => by have := ((h _ (.head _)).1 x hx).1; lia) (fun q hq => u6 r i q (fun x hx => h x (.tail _ hx)) hq) (h _ (.head _)).2 (.inl hp)
 | .ow :: r, i, p, h, hp => ⟨fun ω => ⟨fun q => absurd q hp, fun q => by lia⟩, u6 r (i + 1) _ (fun x hx => h x (.tail _ hx)) (by lia)⟩
 | .iw :: r, i, p, h, hp => ⟨fun q => by lia, fun ω => ⟨fun ω => by simp, fun ω => rfl⟩, fun q => by lia, fun q => by lia, u6 r (i + 1) _ (fun x hx => h x (.tail _ hx)) (by exact Nat.ne_of_beq_eq_false rfl)⟩
theorem qni {w : Nat} (hw : w = 32 ∨ w = 9) : ∀ (T : List Nat) (p : Nat), okP p T → (∀ x ∈ T, jw x) → (psi w p = 91 ↔ p = 91) → cnt2 91 w ((p :: T).map (psi w)) = (T.filter hi).countP (fun x => ¬ x % 2 = 0)
 | [], p, _, _, _ => rfl
 | x :: r, p, h, hp, h0 => by
  have ih := qni hw r x h.2 (fun y hy => hp y (.tail _ hy)) (by unfold psi; lia)
  rw [List.map_cons, List.map_cons, qae, ← List.map_cons, ih]
  have hx := qt2 hw (hp x (.head _))
  by_cases hh : 2000 ≤ x
  ·rw [List.filter_cons_of_pos (by exact decide_eq_true hh), List.countP_cons]
   have hpv := h.1 hh
   rw [hx.mpr hh]
   by_cases he : x % 2 = 1
   ·rw [if_pos ⟨h0.mpr (hpv.mpr he), rfl⟩]; simp [he]; exact Nat.add_comm 1 (List.countP (fun x => decide (x % 2 = 1)) (List.filter hi r))
   ·rw [if_neg fun q => he (hpv.mp (h0.mp q.1))]; simp; lia
  ·rw [List.filter_cons_of_neg (by simpa using hh)]
   rw [if_neg (fun q => hh (hx.mp q.2))]; exact Nat.zero_add (List.countP (fun x => decide ¬x % 2 = 0) (List.filter hi r))

end
section
open PySem

noncomputable def pb (w : Nat) : List Nat → List (Nat × List Nat) → List (List Nat × List Nat) × List Nat
 | t, [] => ([], t)
 | t, (_, t') :: r => ((t, [w]) :: (pb w t' r).1, (pb w t' r).2)
theorem qe0 : ∀ (w : Nat) (x : List Nat), pb w x [] = ([], x) := by intros; rfl
theorem qe1 : ∀ (w : Nat) (x : List Nat) (a : Nat) (t : List Nat) (r : List (Nat × List Nat)), pb w x ((a, t) :: r) = ((x, [w]) :: (pb w t r).1, (pb w t r).2) := by intros; rfl
theorem qg8 (w : Nat) : ∀ (L : List (Nat × List Nat)) (f t : List Nat), qp f (pb w t L).1 (pb w t L).2 = (f, t) :: L.map fun q => ([w], q.2)
 | [], f, t => rfl
 | (s, t') :: r, f, t => by simp [qe0, qe1, ui, uj, qg8 w r]
theorem qsu (w : Nat) : ∀ (L : List (Nat × List Nat)) (t : List Nat), cat2 (pb w t L).1 ++ (pb w t L).2 = t ++ L.flatMap fun q => w :: q.2
 | [], t => by simp [qe0, qe1, cat2]
 | (s, t') :: r, t => by
  have := qsu w r t'
  simp only [qe0, qe1, cat2, List.flatMap_cons, List.append_assoc] at this ⊢
  rw [this]; simp
theorem qkf {w : Nat} (hw : w = 32 ∨ w = 9) : ∀ (L : List (Nat × List Nat)) (t : List Nat), qat t L → (∀ x ∈ t, isW x = false) → (∀ q ∈ L, ∀ x ∈ q.2, isW x = false) →
  qdz (pb w t L).1 (pb w t L).2 ∧ ∀ q ∈ (pb w t L).1, q.1 ≠ []
 | [], t, _, h1, _ => ⟨⟨by simp [qe0, qe1], by simp [qe0, qe1], by simp [qe0, qe1], by simp [qe0, qe1], h1⟩, by simp [qe0, qe1]⟩
 | (s, t') :: r, t, hl, h1, h2 => by
  obtain ⟨ih, ih2⟩ := qkf hw r t' hl.2 (fun x hx => h2 (s, t') (.head _) x hx) fun q hq => h2 q (.tail _ hq)
  have hne : t ≠ [] := fun q => by have := hl.1; rw [q] at this; simp at this
  have hww : isW w = true := by rcases hw with rfl | rfl <;> rfl
  refine ⟨⟨fun q hq => ?_, fun q hq => ?_, fun q hq => ?_, fun q hq => ih2 q hq, ih.z⟩, fun q hq => ?_⟩
  ·rcases List.mem_cons.mp hq with rfl | hq
   ·exact h1
   ·exact ih.b q hq
  ·rcases List.mem_cons.mp hq with rfl | hq
   ·intro x hx; simp at hx; rw [hx]; exact hww
   ·exact ih.w q hq
  ·rcases List.mem_cons.mp hq with rfl | hq
   ·exact List.cons_ne_nil w []
   ·exact ih.n q hq
  ·rcases List.mem_cons.mp hq with rfl | hq
   ·exact hne
   ·exact ih2 q hq
noncomputable def mk (w : Nat) (D : List Nat) : Nat → List (Nat × List Nat) → List Nat
 | _, [] => []
 | i, q :: r => (if i ∈ D then [10] else []) ++ (w :: q.2) ++ mk w D (i + 1) r
theorem qxh : ∀ (w : Nat) (D : List Nat) (x : Nat), mk w D x [] = [] := by intros; rfl
theorem qiu : ∀ (w : Nat) (D : List Nat) (x : Nat) (q : Nat × List Nat) (r : List (Nat × List Nat)), mk w D x (q :: r) = (if x ∈ D then [10] else []) ++ w :: q.2 ++ mk w D (x + 1) r := by intros; rfl
theorem qbx (sep : List Nat) : ∀ (xs : List (List Nat)) (a b : List Nat), glue sep (xs ++ [a] ++ [b]) = glue sep (xs ++ [a]) ++ sep ++ b
 | [], a, b => rfl
 | x :: xs, a, b => by
  rw [List.cons_append, List.cons_append, q8 _ _ (by exact List.concat_ne_nil b (xs ++ [a])), q8 _ _ (by exact List.concat_ne_nil a xs), qbx sep xs a b]
  simp
theorem qbw (sep : List Nat) : ∀ (xs : List (List Nat)) (a b : List Nat), glue sep (xs ++ [a ++ b]) = glue sep (xs ++ [a]) ++ b
 | [], a, b => rfl
 | x :: xs, a, b => by
  rw [List.cons_append, List.cons_append, q8 _ _ (by exact List.concat_ne_nil (a ++ b) xs), q8 _ _ (by exact List.concat_ne_nil a xs), qbw sep xs a b]
  exact Eq.symm (List.append_assoc (x ++ sep) (glue sep (xs ++ [a])) b)
theorem z0 (cs : List (List Nat × List Nat)) (f p : List Nat) : qa (cs ++ [(f, p)]) = qa cs ++ (f ++ p) := by
 simp [qa, cat]
noncomputable def l92 (r : List Nat) : Bool := r.getLast? == some 92
theorem qbt (m : Int) {w : Nat} (hw : w = 32 ∨ w = 9) (ev : Nat → Bool) : ∀ (L : List (Nat × List Nat)) (i : Nat) (t : List Nat) (st : FSt), qat t L → st.2 ≠ [] → (qa st.2).getLast? = t.getLast? → (∀ q ∈ L, w ∉ q.2) →
  (∀ j q, L[j]? = some q → ev (i + j) = decide (q.1 % 2 = 0)) → (st.1.map (List.count w)).sum + (qa st.2).count w = i → (begs w 0 st.1).Sublist (List.range i) → (st.1.filter l92).length = ((begs w 0 st.1).filter ev).length →
  ∃ E st', (L.map fun q => ([w], q.2)).foldl (j0 m) st = st' ∧ begs w 0 st'.1 = begs w 0 st.1 ++ E ∧ (∀ e ∈ E, i ≤ e) ∧ (begs w 0 st'.1).Sublist (List.range (i + L.length)) ∧
   glue [10] (st'.1 ++ [qa st'.2]) = glue [10] (st.1 ++ [qa st.2]) ++ mk w (begs w 0 st'.1) i L ∧ (st'.1.filter l92).length = ((begs w 0 st'.1).filter ev).length ∧ st'.2 ≠ [] ∧
   cat (st'.1 ++ [qa st'.2]) = cat (st.1 ++ [qa st.2]) ++ L.flatMap fun q => w :: q.2
 | [], i, t, st, _, hcs, _, _, _, _, hD, hf => (yn [] st rfl (by simp) (by simp) (y_a4 (by simpa using hD) (by simp [qxh, qiu]) hf hcs (by simp)))
 | (s, t') :: r, i, t, st, hl, hcs, he, hlo, hev, hc, hD, hf => by
  have hw' : w ∉ t' := hlo (s, t') (.head _)
  have hci : i ∉ begs w 0 st.1 := fun q => by have := hD.subset q; simp at this
  have hevs := hev 0 (s, t') rfl
  rw [List.map_cons, List.foldl_cons]
  have hlast1 : ∀ (a : List Nat), r ≠ [] ∨ t' ≠ [] → (a ++ (w :: t')).getLast? = t'.getLast? := fun a hne => by
   have : t' ≠ [] := by
    rcases hne with hne | hne
    ·cases r with
     | nil => exact absurd rfl hne
     | cons z r => intro q; have := hl.2.1; rw [q] at this; simp at this
    ·exact hne
   rw [show a ++ w :: t' = (a ++ [w]) ++ t' by exact List.append_cons a w t', List.getLast?_append]
   refine x_e2 (List.exists_cons_of_ne_nil this) fun y ys e => ?_
   rw [e, List.getLast?_cons]; rfl
  by_cases hn : (qg (st.2 ++ [([w], t')]) : Int) ≤ m ∨ st.2 = []
  ·have e1 : j0 m st ([w], t') = (st.1, st.2 ++ [([w], t')]) := if_pos hn
   rw [e1]
   have ea : qa (st.2 ++ [([w], t')]) = qa st.2 ++ (w :: t') := by rw [z0]; rfl
   by_cases hrt : r ≠ [] ∨ t' ≠ []
   ·refine xx (qbt m hw ev r (i + 1) t' (st.1, st.2 ++ [([w], t')]) hl.2 (by exact List.concat_ne_nil ([w], t') st.snd) (by rw [ea]; exact hlast1 _ hrt) (fun q hq => hlo q (.tail _ hq))
     (fun j q hq => by rw [show i + 1 + j = i + (j + 1) by exact Nat.succ_add_eq_add_succ i j]; exact hev (j + 1) q hq) (by
      show (st.1.map (List.count w)).sum + (qa (st.2 ++ [([w], t')])).count w = i + 1
      rw [ea]; simp [List.count_append, List.count_eq_zero.mpr hw']; lia) (hD.trans (by rw [List.range_succ]; exact List.sublist_append_left _ _)) hf) fun E st' h0 h1 h2 z191y => ?_; refine x_a4 z191y fun h3 h4 h5 h6 h7 => ?_; clear z191y
    have hni : i ∉ begs w 0 st'.1 := by
     rw [h1]; intro q
     rcases List.mem_append.mp q with q | q
     ·exact hci q
     ·have := h2 i q; lia
    refine (yn E st' h0 h1 (fun e he => by exact Nat.le_of_succ_le (h2 e he)) (y_a4 (by rw [show i + ((s, t') :: r).length = i + 1 + r.length by exact Eq.symm (Nat.succ_add_eq_add_succ i r.length)]; exact h3) ?_ h5 h6 ?_))
    ·rw [h4, ea, qbw, qiu, if_neg hni]; simp
    ·rw [h7, ea]; simp [cat]
   ·have hr : r = [] := by lia
    have ht : t' = [] := by lia
    subst hr ht
    refine (yn [] (st.1, st.2 ++ [([w], [])]) rfl (by exact Eq.symm (List.append_nil (begs w 0 st.fst))) (by simp) (y_a4 (hD.trans (by simp [List.range_succ])) ?_ hf (by exact List.concat_ne_nil ([w], []) st.snd) ?_))
    ·rw [ea, qbw, qiu, if_neg hci]; rfl
    ·rw [ea]; simp [cat]
  ·have e1 : j0 m st ([w], t') = (st.1 ++ [qa st.2], [([w], t')]) := if_neg hn
   rw [e1]
   have ea : qa [([w], t')] = w :: t' := by simp [qa, cat]
   have eb : begs w 0 (st.1 ++ [qa st.2]) = begs w 0 st.1 ++ [i] := by rw [qd4, Nat.zero_add, hc]
   have hD2 : (begs w 0 st.1 ++ [i]).Sublist (List.range (i + 1)) := by rw [List.range_succ]; exact hD.append (List.Sublist.refl _)
   have hf2 : ((st.1 ++ [qa st.2]).filter l92).length = ((begs w 0 st.1 ++ [i]).filter ev).length := by
    rw [List.filter_append, List.filter_append, List.length_append, List.length_append, hf]
    congr 1
    have h92 : l92 (qa st.2) = ev i := by
     rw [show ev i = ev (i + 0) from rfl, hevs]
     unfold l92
     rw [he, hl.1]
     unfold pv
     split <;> simp_all
    simp only [List.filter_cons, List.filter_nil, h92]
    split <;> rfl
   by_cases hrt : r ≠ [] ∨ t' ≠ []
   ·refine xx (qbt m hw ev r (i + 1) t' (st.1 ++ [qa st.2], [([w], t')]) hl.2 (by exact List.cons_ne_nil ([w], t') []) (by rw [ea]; exact hlast1 [] hrt) (fun q hq => hlo q (.tail _ hq))
     (fun j q hq => by rw [show i + 1 + j = i + (j + 1) by exact Nat.succ_add_eq_add_succ i j]; exact hev (j + 1) q hq) (by
      show ((st.1 ++ [qa st.2]).map (List.count w)).sum + (qa [([w], t')]).count w = i + 1
      rw [ea]; simp [List.count_eq_zero.mpr hw']; assumption) (by rw [show (st.1 ++ [qa st.2], [([w], t')]).1 = st.1 ++ [qa st.2] from rfl, eb]; exact hD2) (by simp only [*])) fun E st' h0 h1 h2 z190y => ?_; refine x_a4 z190y fun h3 h4 h5 h6 h7 => ?_; clear z190y
    rw [show (st.1 ++ [qa st.2], [([w], t')]).1 = st.1 ++ [qa st.2] from rfl, eb] at h1
    have hmi : i ∈ begs w 0 st'.1 := by rw [h1]; simp
    refine (yn (i :: E) st' h0 (by rw [h1]; exact Eq.symm (List.append_cons (begs w 0 st.fst) i E)) (fun e he => by
     rcases List.mem_cons.mp he with rfl | he
     ·exact Nat.le_refl _
     ·exact Nat.le_of_succ_le (h2 e he)) (y_a4 (by rw [show i + ((s, t') :: r).length = i + 1 + r.length by exact Eq.symm (Nat.succ_add_eq_add_succ i r.length)]; exact h3) ?_ h5 h6 ?_))
    ·rw [h4, ea, qbx, qiu, if_pos hmi]; simp
    ·rw [h7, ea]; simp [cat]
   ·have hr : r = [] := by lia
    have ht : t' = [] := by lia
    subst hr ht
    refine (yn [i] (st.1 ++ [qa st.2], [([w], [])]) rfl eb (by simp) (y_a4 ?_ ?_ ?_ (by exact List.cons_ne_nil ([w], []) []) ?_))
    ·rw [show (st.1 ++ [qa st.2], [([w], ([] : List Nat))]).1 = st.1 ++ [qa st.2] from rfl, eb]; exact hD2
    ·rw [show (st.1 ++ [qa st.2], [([w], ([] : List Nat))]).1 = st.1 ++ [qa st.2] from rfl, eb, ea, qbx, qiu, if_pos (by exact List.mem_concat_self)]; exact List.append_assoc (glue [10] (st.fst ++ [qa st.snd])) [10] [w]
    ·simp only [*]
    ·rw [ea]; simp [cat]

end
section
open PySem

theorem qna {cs : List (List Nat × List Nat)} {f p : List Nat} (h : f ++ p ≠ []) : qa (cs ++ [(f, p)]) ≠ [] := by
 rw [z0]; simp at h ⊢; intro ω; exact h
theorem qfa (m : Int) (w : Nat) : ∀ (L : List (Nat × List Nat)) (st : FSt), st.2 ≠ [] → qa st.2 ≠ [] → (L.map fun q => w :: q.2).foldl (qh m) (st.1, qa st.2) = (((L.map fun q => ([w], q.2)).foldl (j0 m) st).1, qa ((L.map fun q => ([w], q.2)).foldl (j0 m) st).2)
 | [], st, _, _ => rfl
 | q :: r, st, h1, h2 => by
  simp only [List.map_cons, List.foldl_cons]
  have hl : qg (st.2 ++ [([w], q.2)]) = (qa st.2).length + (w :: q.2).length := by
   rw [qdd, zy]; simp; exact Nat.add_comm 1 q.snd.length
  by_cases hn : (qg (st.2 ++ [([w], q.2)]) : Int) ≤ m
  ·have e1 : j0 m st ([w], q.2) = (st.1, st.2 ++ [([w], q.2)]) := if_pos (.inl hn)
   have e2 : qh m (st.1, qa st.2) (w :: q.2) = (st.1, qa (st.2 ++ [([w], q.2)])) := by
    unfold qh
    rw [if_neg (fun z => by have := z.2; rw [hl] at hn; simp at hn this; lia), z0]; rfl
   rw [e1, e2]
   exact qfa m w r (st.1, st.2 ++ [([w], q.2)]) (by exact List.concat_ne_nil ([w], q.snd) st.snd) (qna (by simp))
  ·have e1 : j0 m st ([w], q.2) = (st.1 ++ [qa st.2], [([w], q.2)]) := if_neg (by exact not_or_intro hn h1)
   have e2 : qh m (st.1, qa st.2) (w :: q.2) = (st.1 ++ [qa st.2], qa [([w], q.2)]) := by
    unfold qh
    rw [if_pos ⟨fun z => h2 (by simpa using (Prod.mk.inj z).2), by rw [hl] at hn; simp at hn ⊢; assumption⟩]
    simp [qa, cat]
   rw [e1, e2]
   exact qfa m w r (st.1 ++ [qa st.2], [([w], q.2)]) (by exact List.cons_ne_nil ([w], q.snd) []) (by simp [qa, cat])
theorem qbo (x : Str) : ∀ (es as ms : List Str) (k : Nat), es.Perm (as ++ List.replicate k x) → es.foldl xh (ms, as) = (ms ++ List.replicate k x, [])
 | [], as, ms, k, h => by
  have h1 : as ++ List.replicate k x = [] := List.nil_perm.mp h
  obtain ⟨rfl, h2⟩ := List.append_eq_nil_iff.mp h1
  rw [h2]; simp
 | e :: es, as, ms, k, h => by
  rw [List.foldl_cons]
  by_cases he : e ∈ as
  ·have e1 : xh (ms, as) e = (ms, as.erase e) := if_pos he
   rw [e1]
   refine qbo x es (as.erase e) ms k ?_
   have h2 := (List.perm_cons_erase he).append_right (List.replicate k x)
   exact List.Perm.cons_inv (h.trans h2)
  ·have e1 : xh (ms, as) e = (ms ++ [e], as) := if_neg he
   rw [e1]
   have hm : e ∈ as ++ List.replicate k x := h.subset (.head _)
   rcases List.mem_append.mp hm with q | q
   ·exact absurd q he
   ·obtain ⟨hk, rfl⟩ := List.mem_replicate.mp q
    obtain ⟨k', rfl⟩ := Nat.exists_eq_succ_of_ne_zero hk
    have h3 : (as ++ List.replicate (k' + 1) e).Perm (e :: (as ++ List.replicate k' e)) := by
     rw [List.replicate_succ]; exact List.perm_middle
    rw [qbo e es as (ms ++ [e]) k' (List.Perm.cons_inv (h.trans h3)), List.append_assoc]
    rfl
noncomputable abbrev yo (x : List Nat) : List Str := x.map fun c => S [c]
theorem qdg {a b : List Nat} {x k : Nat} (h : a.Perm (b ++ List.replicate k x)) : (yo a).reverse.foldl xh ([], yo b) = (List.replicate k (S [x]), []) := by
 rw [qbo (S [x]) (yo a).reverse (yo b) [] k ?_]
 ·simp
 ·refine (List.reverse_perm _).trans ?_
  have := h.map fun c => S [c]
  simpa using this
theorem qgl (x : Nat) : ∀ (rs : List (List Nat)) (r : List Nat), (glue [x] (rs ++ [r])).Perm (cat (rs ++ [r]) ++ List.replicate rs.length x)
 | [], r => by simp [z6, z7, z8, cat]
 | a :: rs, r => by
  rw [List.cons_append, q8 _ _ (by exact List.concat_ne_nil r rs), xq]
  have ih := qgl x rs r
  simp only [List.length_cons, List.replicate_succ, List.append_assoc, List.singleton_append]
  refine List.Perm.append_left a ?_
  exact List.perm_cons_append_cons x ih
theorem qvt {w : Nat} {b : Nat → Bool} {x : Nat} (h : 2000 ≤ x) : phi w b x = if x % 2 = 0 then (if b (ix x) = true then [10, 92, w] else [w]) else if b (ix x) = true then [10, w] else [w] := by
 unfold phi; rw [if_neg (by exact (fun {a b} => Nat.not_lt.mpr) h)]; rfl
theorem qjz (w : Nat) (b : Nat → Bool) : ∀ (T : List Nat), (T.flatMap (phi w b)).Perm (T.flatMap (phip w b) ++ List.replicate (T.countP fun x => hi x && decide (x % 2 = 0) && b (ix x)) 92)
 | [] => by rfl
 | x :: r => by
  have ih := qjz w b r
  rw [List.flatMap_cons, List.flatMap_cons, List.countP_cons, List.append_assoc]
  by_cases h : x < 2000
  ·have h1 : hi x = false := by simp; assumption
   rw [zf h, yy h, h1]
   exact List.Perm.append_left [x] ih
  ·have h1 : hi x = true := by simp; exact Nat.le_of_not_lt h
   rw [wv (by exact Nat.le_of_not_lt h), h1, qvt (by exact Nat.le_of_not_lt h)]
   by_cases h2 : x % 2 = 0
   ·by_cases h3 : b (ix x) = true
    ·simp only [h2, h3, if_true, decide_true, Bool.and_self, Bool.true_and]
     rw [List.replicate_succ]
     refine List.Perm.trans ?_ (List.Perm.append_left _ List.perm_middle.symm)
     simp only [List.cons_append, List.nil_append, List.append_assoc]
     refine List.Perm.cons 10 ((List.Perm.swap w 92 _).trans (List.Perm.cons w (List.Perm.cons 92 ih)))
    ·simp only [h2, h3, if_true, decide_true, Bool.and_self, Bool.true_and, Bool.false_eq_true, if_false]
     exact List.Perm.append_left [w] ih
   ·by_cases h3 : b (ix x) = true
    ·simp only [h2, h3, if_true, if_false, decide_false, Bool.and_false, Bool.false_and, Bool.false_eq_true]
     exact List.Perm.append_left [10, w] ih
    ·simp only [h2, h3, if_false, decide_false, Bool.and_false, Bool.false_and, Bool.false_eq_true]
     exact List.Perm.append_left [w] ih
theorem qsp {x : Nat} {r : List Nat} : ([92, 10, 92] : List Nat).isPrefixOf (x :: r) = ((92 == x) && ([10, 92] : List Nat).isPrefixOf r) := rfl
theorem qso {x : Nat} {r : List Nat} : ([10, 92] : List Nat).isPrefixOf (x :: r) = ((10 == x) && ([92] : List Nat).isPrefixOf r) := rfl
noncomputable abbrev y3 : List Nat := [92, 10, 92]
theorem u1 {x : Nat} (acc r : List Nat) (h : x ≠ 92) : scan y3 0 acc (x :: r) = scan y3 0 (acc ++ [x]) r :=
 ww _ _ _ (by rw [qsp, beq_eq_false_iff_ne.mpr (Ne.symm h)]; rfl)
theorem zg {w : Nat} (hw : w = 32 ∨ w = 9) (b : Nat → Bool) : ∀ (n : Nat) (T : List Nat) (p : Nat) (acc : List Nat), T.length ≤ n → okF p T → (∀ x ∈ T, jw x) → (∀ x r, T = x :: r → 2000 ≤ x → x % 2 = 0 → b (ix x) = false) →
  glue [92, 10] (scan y3 0 acc (T.flatMap (phi w b))) = acc ++ T.flatMap (phip w b)
 | _, [], p, acc, _, _, _, _ => by simp [qcg, qch, wc, z6, z7, z8]
 | 0, x :: r, p, acc, h, _, _, _ => by simp at h
 | n + 1, x :: r, p, acc, hn, hok, hp, hc => by
  have hw92 : w ≠ 92 := by lia
  have hn' : r.length ≤ n := by simp at hn; assumption
  have hpr : ∀ y ∈ r, jw y := fun y hy => hp y (.tail _ hy)
  by_cases hx : 2000 ≤ x
  ·-- a white
   have hnext : ∀ y q, r = y :: q → 2000 ≤ y → y % 2 = 0 → b (ix y) = false := fun y q e h2 h3 => by
    subst e
    have := hok.2.1 h2
    rcases qpd y with z | z <;> lia
   rw [List.flatMap_cons, List.flatMap_cons, wv hx]
   have key : phi w b x = (if b (ix x) then [10] else []) ++ [w] := by
    unfold phi
    rw [if_neg (by exact (fun {a b} => Nat.not_lt.mpr) hx)]
    show (if x % 2 = 0 then if b (ix x) = true then [10, 92, w] else [w] else if b (ix x) = true then [10, w] else [w]) = _
    by_cases h2 : x % 2 = 0
    ·have := hc x r rfl hx h2
     simp [h2, this]
    ·simp [h2]; split <;> rfl
   rw [key]
   by_cases h3 : b (ix x) = true
   ·rw [if_pos h3]
    simp only [List.cons_append, List.nil_append]
    rw [u1 _ _ (by exact Nat.ne_of_beq_eq_false rfl), u1 _ _ hw92, zg hw b n r x _ hn' hok.2 hpr hnext]
    simp
   ·rw [if_neg h3]
    simp only [List.cons_append, List.nil_append]
    rw [u1 _ _ hw92, zg hw b n r x _ hn' hok.2 hpr hnext]
    exact Eq.symm (List.append_cons acc w (List.flatMap (phip w b) r))
  ·have hx' : x < 2000 := by exact Nat.lt_of_not_le hx
   rw [List.flatMap_cons, List.flatMap_cons, zf hx', yy hx']
   simp only [List.cons_append, List.nil_append]
   by_cases h92 : x = 92
   ·subst h92
    cases r with
    | nil =>
     rfl
    | cons y q =>
     by_cases hy : 2000 ≤ y ∧ y % 2 = 0 ∧ b (ix y) = true
     ·refine x_a2 hy fun hy1 hy2 hy3 => ?_; clear hy
      have e1 : phi w b y = [10, 92, w] := by
       unfold phi
       rw [if_neg (by exact (fun {a b} => Nat.not_lt.mpr) hy1), if_pos hy2]
       show (if b (ix y) = true then _ else _) = _
       exact if_pos hy3
      have e2 : phip w b y = [10, w] := by rw [wv hy1, if_pos hy3]; rfl
      rw [List.flatMap_cons, List.flatMap_cons, e1, e2]
      simp only [List.cons_append, List.nil_append]
      have hnext : ∀ z u, q = z :: u → 2000 ≤ z → z % 2 = 0 → b (ix z) = false := fun z u e h2 h3 => by
       subst e
       have := hok.2.2.1 h2
       rcases qpd z with v | v <;> lia
      rw [qe9 (y := y3) (by exact List.cons_ne_nil 92 [10, 92]) acc (92 :: 10 :: 92 :: w :: q.flatMap (phi w b)) (by rfl)]
      show glue [92, 10] (acc :: scan y3 0 [] (w :: q.flatMap (phi w b))) = _
      rw [u1 _ _ hw92]
      refine x_e2 (ub y3 (q.flatMap (phi w b)) 0 ([] ++ [w])) fun u v e => ?_
      rw [q8 _ _ (by rw [e]; exact List.cons_ne_nil u v), zg hw b n q y _ (by exact Nat.le_of_succ_le hn') hok.2.2 (fun z hz => hpr z (.tail _ hz)) hnext]
      simp
     ·have hmiss : y3.isPrefixOf (92 :: (y :: q).flatMap (phi w b)) = false := by
       rw [qsp, List.flatMap_cons]
       show (true && _) = false
       rw [Bool.true_and]
       by_cases hy1 : 2000 ≤ y
       ·by_cases hy2 : y % 2 = 0
        ·have hy3 : ¬ b (ix y) = true := fun z => hy (y_a2 hy1 hy2 z)
         have e1 : phi w b y = [w] := by
          unfold phi
          rw [if_neg (by exact (fun {a b} => Nat.not_lt.mpr) hy1), if_pos hy2]
          show (if b (ix y) = true then _ else _) = _
          exact if_neg hy3
         rw [e1]
         show ([10, 92] : List Nat).isPrefixOf (w :: _) = false
         rw [qso, beq_eq_false_iff_ne.mpr (by lia)]; rfl
        ·have := hok.2.1 hy1
         unfold pv at this
         rw [if_neg hy2] at this; lia
       ·have hyp := hpr y (.head _)
        rw [zf (by exact Nat.lt_of_not_le hy1)]
        show ([10, 92] : List Nat).isPrefixOf (y :: _) = false
        rw [qso, beq_eq_false_iff_ne.mpr (by unfold jw at hyp; lia)]; rfl
      rw [ww _ _ _ hmiss, zg hw b n (y :: q) 92 _ hn' hok.2 hpr]
      ·exact Eq.symm (List.append_cons acc 92 (List.flatMap (phip w b) (y :: q)))
      ·intro z u e h2 h3
       cases e
       cases hb : b (ix y) with
       | false => rfl
       | true => exact absurd ⟨h2, h3, hb⟩ hy
   ·rw [u1 _ _ h92, zg hw b n r x _ hn' hok.2 hpr]
    ·exact Eq.symm (List.append_cons acc x (List.flatMap (phip w b) r))
    ·intro y q e h2 h3
     subst e
     have := hok.2.1 h2
     unfold pv at this
     rw [if_pos h3] at this
     exact absurd this h92

end
section
open PySem

noncomputable def qs (w : Nat) (f t : List Nat) (L : List (Nat × List Nat)) : List (List Nat × List Nat) := (f, t) :: L.map fun q => ([w], q.2)
theorem qsw (w : Nat) (f t : List Nat) (L : List (Nat × List Nat)) : (qs w f t L).length = L.length + 1 := by simp [qs]
theorem qpf (w : Nat) : ∀ (L : List (Nat × List Nat)) (f t : List Nat), ∃ f', (qs w f t L).getLast? = some (f', (pb w t L).2) ∧ (f' = f ∨ f' = [w])
 | [], f, t => (y_ea f rfl (.inl rfl))
 | (s, t') :: r, f, t => by
  refine x_ea (qpf w r [w] t') fun f' h1 h2 => ?_
  refine (y_ea f' ?_ ?_)
  ·assumption
  ·rcases h2 with h2 | h2 <;> exact .inr h2
theorem qpe (w : Nat) : ∀ (L : List (Nat × List Nat)) (f t : List Nat), qat t L → ∀ i q, i + 1 < (qs w f t L).length → (qs w f t L)[i]? = some q → q.2.getLast? = some 92 ∨ q.2.getLast? = some 91
 | [], f, t, _, i, q, hi, _ => by simp [qs] at hi
 | (s, t') :: r, f, t, hl, 0, q, _, hq => by
  simp [qs] at hq; subst hq
  rcases qpd s with h | h
  ·exact .inl (by rw [hl.1, h])
  ·exact .inr (by rw [hl.1, h])
 | (s, t') :: r, f, t, hl, i + 1, q, hi, hq => qpe w r [w] t' hl.2 i q (by exact (fun {a b} => Nat.succ_lt_succ_iff.mp) hi) (by assumption)
theorem qhb (w : Nat) : ∀ (L : List (Nat × List Nat)) (f t : List Nat), qg (qs w f t L) = f.length + (t ++ L.flatMap fun q => w :: q.2).length
 | [], f, t => by simp [qs, qg]
 | (s, t') :: r, f, t => by
  have ih := qhb w r [w] t'
  have e : qg (qs w f t ((s, t') :: r)) = (f.length + t.length) + qg (qs w [w] t' r) := by rfl
  rw [e, ih]; simp; lia
theorem qdq (m : Int) : ∀ (Q : List (List Nat × List Nat)) (st : FSt), (Q.foldl (j0 m) st).2.getLast? = if Q = [] then st.2.getLast? else Q.getLast?
 | [], st => rfl
 | q :: r, st => by
  have h1 : (j0 m st q).2.getLast? = some q := by unfold j0; split <;> simp
  rw [List.foldl_cons, qdq m r]
  cases r with
  | nil => assumption
  | cons a b => rfl
theorem qo8 (w : Nat) {s : List Nat} (hs : xw s) : ∀ (a : List Nat), (pb w (segs (a ++ s)).1 (segs (a ++ s)).2).2 = (pb w (segs a).1 (segs a).2).2 ++ s
 | [] => by
  have : segs s = (s, []) := by
   clear w
   induction s with
   | nil => rfl
   | cons x r ih =>
    rw [segs, if_neg (by have := hs x (.head _); exact Nat.not_le_of_lt this), ih fun y hy => hs y (.tail _ hy)]
  simp [this, qpi, wd, qe0, qe1]
 | x :: a => by
  have ih := qo8 w hs a
  rw [List.cons_append, wd, wd]
  by_cases h : 2000 ≤ x
  ·rw [if_pos h, if_pos h]; exact ih
  ·rw [if_neg h, if_neg h]
   have e : ∀ (t : List Nat) (L : List (Nat × List Nat)), (pb w (x :: t) L).2 = if L = [] then x :: (pb w t L).2 else (pb w t L).2 := fun t L => by
    cases L with
    | nil => rfl
    | cons q r => rfl
   rw [e, e, ih]
   have e2 : (segs (a ++ s)).2 = [] ↔ (segs a).2 = [] := by
    have h1 := congrArg List.length (wz (a ++ s))
    have h2 := congrArg List.length (wz a)
    rw [List.filter_append, yu hs, List.append_nil, ← h2] at h1
    simp only [List.length_map] at h1
    rw [← List.length_eq_zero_iff, ← List.length_eq_zero_iff, h1]
   by_cases h3 : (segs a).2 = []
   ·rw [if_pos (e2.mpr h3), if_pos h3]; rfl
   ·rw [if_neg fun z => h3 (e2.mp z), if_neg h3]
theorem qit (w : Nat) (D : List Nat) : ∀ (L : List (Nat × List Nat)) (i : Nat), (∀ q ∈ L, 2000 ≤ q.1) → (∀ j q, L[j]? = some q → ix q.1 = i + j) → mk w D i L = L.flatMap fun q => phip w (fun i => decide (i ∈ D)) q.1 ++ q.2
 | [], _, _, _ => rfl
 | q :: r, i, h, hi' => by
  have h0 : ix q.1 = i := hi' 0 q rfl
  rw [qiu, qit w D r (i + 1) (fun z hz => h z (.tail _ hz)) fun j z hz => by rw [hi' (j + 1) z hz]; exact Eq.symm (Nat.succ_add_eq_add_succ i j), List.flatMap_cons, wv (h q (.head _)), h0]
  simp
theorem qg2 (w : Nat) (D : List Nat) : ∀ (L : List (Nat × List Nat)) (i : Nat) (acc : List Nat), yd w D acc i (L.map (·.2)) = acc ++ mk w D i L
 | [], i, acc => by exact Eq.symm ((fun {α} {xs ys} => List.append_right_eq_self.mpr) rfl)
 | q :: r, i, acc => by
  rw [List.map_cons, qow, qg2 w D r (i + 1), qiu]
  exact List.append_assoc acc (qay w D i q.snd) (mk w D (i + 1) r)
theorem w8 : ∀ (X : List XT) (i j x : Nat), (jy i X)[j]? = some x → ix x = i + j
 | [], i, j, x, h => by simp [qd8, qd9, qea, qeb] at h
 | .t k :: r, i, j, x, h => w8 r i j x h
 | .ow :: r, i, 0, x, h => by simp [qd8, qd9, qea, qeb] at h; subst h; rw [ix_o]; rfl
 | .ow :: r, i, j + 1, x, h => by have := w8 r (i + 1) j x (by simpa [jy] using h); lia
 | .iw :: r, i, 0, x, h => by simp [qd8, qd9, qea, qeb] at h; subst h; rw [ix_i]; rfl
 | .iw :: r, i, j + 1, x, h => by have := w8 r (i + 1) j x (by simpa [jy] using h); lia
theorem qqy (X : List XT) (i : Nat) : ∀ x ∈ jy i X, 2000 ≤ x := by
 induction X generalizing i with
 | nil => intro x hx; cases hx
 | cons a r ih =>
  intro x hx
  cases a with
  | t k => exact ih i x hx
  | ow =>
   rcases List.mem_cons.mp hx with rfl | h
   ·simp
   ·exact ih (i + 1) x h
  | iw =>
   rcases List.mem_cons.mp hx with rfl | h
   ·lia
   ·exact ih (i + 1) x h
theorem qap {α : Type} [DecidableEq α] : ∀ {l D : List α}, D.Sublist l → l.Nodup → l.filter (fun x => decide (x ∈ D)) = D
 | [], _, h, _ => by cases h; rfl
 | x :: l, D, h, nd => by
  obtain ⟨nx, nl⟩ := List.nodup_cons.mp nd
  cases h with
  | cons _ h =>
   have hx : x ∉ D := fun q => nx (h.subset q)
   rw [List.filter_cons_of_neg (by simpa using hx)]
   exact qap h nl
  | @cons_cons D' _ _ h =>
   rw [List.filter_cons_of_pos (by simp)]
   congr 1
   have := qap h nl
   rw [← this]
   refine List.filter_congr fun y hy => ?_
   have hyx : y ≠ x := fun q => nx (q ▸ hy)
   rw [this]
   simp [hyx]
theorem qf5 (D : List Nat) (cs : List Nat) (n : Nat) (hn : cs.length = n) (hix : ∀ j x, cs[j]? = some x → ix x = j) (hh : ∀ x ∈ cs, 2000 ≤ x) (hD : D.Sublist (List.range n)) :
  cs.countP (fun x => hi x && decide (x % 2 = 0) && decide (ix x ∈ D)) = (D.filter fun i => decide (((cs[i]?).getD 1) % 2 = 0)).length := by
 have h1 : cs = (List.range n).map fun i => (cs[i]?).getD 1 := by
  apply List.ext_getElem?
  intro j
  rw [List.getElem?_map]
  by_cases hj : j < n
  ·rw [List.getElem?_range hj, List.getElem?_eq_getElem (by exact Nat.lt_of_lt_of_eq hj (id (Eq.symm hn)))]; simp [show j < cs.length by exact Nat.lt_of_lt_of_eq hj (id (Eq.symm hn))]
  ·rw [List.getElem?_eq_none (by lia), List.getElem?_eq_none (by simp; exact Nat.le_of_not_lt hj)]; rfl
 have h2 := qap hD List.nodup_range
 conv => rhs; rw [← h2]
 rw [List.filter_filter, ← List.countP_eq_length_filter]
 conv => lhs; rw [h1]
 rw [List.countP_map]
 refine List.countP_congr fun i hi' => ?_
 have hi2 : i < cs.length := by simp at hi'; exact Nat.lt_of_lt_of_eq hi' (id (Eq.symm hn))
 have e : (cs[i]?).getD 1 = cs[i] := by simp [hi2]
 have h3 := hix i cs[i] (List.getElem?_eq_getElem hi2)
 have h4 := hh cs[i] (List.getElem_mem hi2)
 simp only [Function.comp, e, h3]
 simp [h4]

end
section
open PySem

noncomputable abbrev noB : Nat → Bool := fun ω => false
noncomputable abbrev inB (D : List Nat) : Nat → Bool := fun i => decide (i ∈ D)
noncomputable abbrev t0X (X : List XT) : List Nat := (segs (tX X)).1
noncomputable abbrev LX (X : List XT) : List (Nat × List Nat) := (segs (tX X)).2
noncomputable abbrev yc (w : Nat) (X : List XT) : List Nat := (tX X).map (psi w)
noncomputable abbrev patX (w : Nat) (X : List XT) : List Nat := (jv 0 X).map (psi w)
noncomputable def stX (w : Nat) (m : Int) (X : List XT) : FSt := (qs w [] (t0X X) (LX X)).foldl (j0 m) ([], [])
noncomputable def jz (w : Nat) (m : Int) (X : List XT) : List (List Nat) := (stX w m X).1 ++ [qa (stX w m X).2]
noncomputable def DX (w : Nat) (m : Int) (X : List XT) : List Nat := begs w 0 (stX w m X).1
noncomputable abbrev v9 (w : Nat) (m : Int) (X : List XT) : List Nat := glue [10] (jz w m X)
noncomputable def dueX (w : Nat) (m : Int) (X : List XT) : List Nat := (tX X).flatMap (phi w (inB (DX w m X)))
structure GoodX (X : List XT) : Prop where
 p : ∀ x ∈ X, x.plain
 f : ∀ x ∈ X, x.fl
 l : (tX X).length ≤ 1000
section
variable {w : Nat} {m : Int} {X : List XT}
theorem GoodX.lo (G : GoodX X) : ∀ x ∈ X, x.lo := fun x hx => (G.p x hx).lo
theorem qa0 (w : Nat) : ∀ (T : List Nat), T.flatMap (phip w noB) = T.map (psi w)
 | [] => rfl
 | x :: r => by
  rw [List.flatMap_cons, List.map_cons, qa0 w r]
  unfold phip psi
  by_cases h : 2000 ≤ x
  ·rw [if_neg (by exact (fun {a b} => Nat.not_lt.mpr) h), if_pos h]; rfl
  ·rw [if_pos (by exact Nat.lt_of_not_le h), if_neg h]; rfl
theorem qug (hw : w = 32 ∨ w = 9) (G : GoodX X) : joined (jt (real w noB 0 X)) = yc w X := by rw [qb5 noB hw G.lo, qov]
theorem qva (hw : w = 32 ∨ w = 9) (G : GoodX X) : joined (jt (real w (inB (DX w m X)) 0 X)) = dueX w m X := qb5 _ hw G.lo
theorem qkd (G : GoodX X) : qj (real w noB 0 X) = patX w X := by rw [ze w noB X 0 G.f, qa0]
theorem qb1 : ∀ (l : List Nat), l.countP (fun x => decide (x % 2 = 0)) + l.countP (fun x => decide (¬ x % 2 = 0)) = l.length
 | [] => rfl
 | x :: r => by
  have ih := qb1 r
  simp only [List.countP_cons, List.length_cons]
  by_cases h : x % 2 = 0 <;> simp [h] at ih ⊢ <;> lia
theorem qv4 : ∃ r, tX X = 40 :: r := ⟨_, rfl⟩
theorem qjx (a b x : Nat) (l : List Nat) (h : x ≠ a) : cnt2 a b (x :: l) = cnt2 a b l := by
 cases l with
 | nil => rfl
 | cons y r => rw [qae, if_neg (fun q => h q.1), Nat.zero_add]
theorem qf6 (hw : w = 32 ∨ w = 9) : ∀ (T : List Nat), (∀ x ∈ T, jw x) → (T.map (psi w)).count w = (T.filter hi).length
 | [], _ => rfl
 | x :: r, h => by
  have ih := qf6 hw r fun y hy => h y (.tail _ hy)
  have hx := qt2 hw (h x (.head _))
  rw [List.map_cons, List.count_cons, ih]
  by_cases hh : 2000 ≤ x
  ·rw [List.filter_cons_of_pos (by exact decide_eq_true hh), hx.mpr hh]; simp
  ·rw [List.filter_cons_of_neg (by simpa using hh)]
   have : (psi w x == w) = false := by simpa using fun q => hh (hx.mp q)
   rw [this]; rfl
theorem qqz (hw : w = 32 ∨ w = 9) (G : GoodX X) : Txt.count (S (yc w X)) (S [92, w]) + Txt.count (S (patX w X)) (S [91, w]) = Txt.count (S (patX w X)) (S [w]) := by
 have h1 : cnt2 92 w (yc w X) = (jy 0 X).countP (fun x => decide (x % 2 = 0)) := by
  have := qjy hw (tX X) 0 (quf G.lo 0) (qfg G.p) (by exact fun a => Eq.symm (Nat.eq_of_beq_eq_true rfl)) (by exact fun a => Eq.symm (Nat.eq_zero_of_add_eq_zero_left (id (Eq.symm a))))
  rw [qpq G.lo, List.map_cons, qjx _ _ _ _ (by exact Nat.ne_of_beq_eq_false rfl)] at this
  exact this
 have h2 : cnt2 91 w (patX w X) = (jy 0 X).countP (fun x => decide (¬ x % 2 = 0)) := by
  have := qni hw (jv 0 X) 0 (u6 X 0 0 G.f (by exact Nat.zero_ne_add_one 90)) (xp X 0 G.f) (by rfl)
  rw [vj X 0 G.f, List.map_cons, qjx _ _ _ _ (by exact Nat.ne_of_beq_eq_false rfl)] at this
  exact this
 have h3 : (patX w X).count w = (jy 0 X).length := by rw [qf6 hw _ (xp X 0 G.f), vj X 0 G.f]
 have h4 := qb1 (jy 0 X)
 rw [qsh (by lia), qsh (by lia), qsg, h1, h2, h3]
 exact Eq.symm ((fun {a b} => Int.neg_inj.mp) (congrArg Neg.neg (congrArg Nat.cast (id (Eq.symm h4)))))
theorem qci (G : GoodX X) : t0X X ≠ [] ∧ qat (t0X X) (LX X) := by
 obtain ⟨r, e⟩ := qv4 (X := X)
 have h : t0X X ≠ [] := by
  show (segs (tX X)).1 ≠ []
  rw [e, wd, if_neg (by decide)]; exact List.cons_ne_nil 40 (segs r).fst
 exact ⟨h, (qhg (tX X) 0 (quf G.lo 0)).2 h⟩
theorem yl (w : Nat) (X : List XT) : yc w X = t0X X ++ (LX X).flatMap fun q => w :: q.2 := by
 show (tX X).map (psi w) = (segs (tX X)).1 ++ (segs (tX X)).2.flatMap fun q => w :: q.2
 rw [← qa0, wy (fun x => yy)]
 congr 1
 have h := (uc (tX X)).2
 generalize (segs (tX X)).2 = L at h ⊢
 induction L with
 | nil => rfl
 | cons q r ih =>
  rw [List.flatMap_cons, List.flatMap_cons, ih fun z hz => h z (.tail _ hz), wv (h q (.head _)).1]; rfl
theorem wx (G : GoodX X) : (∀ x ∈ t0X X, x < 128 ∧ x ≠ 32 ∧ x ≠ 9 ∧ x ≠ 10) ∧ ∀ q ∈ LX X, ∀ x ∈ q.2, x < 128 ∧ x ≠ 32 ∧ x ≠ 9 ∧ x ≠ 10 := by
 obtain ⟨h1, h2⟩ := uc (tX X)
 have hp := qfg G.p
 refine ⟨fun x hx => ?_, fun q hq x hx => ?_⟩
 ·have := h1 x hx
  rcases hp x this.2 with z | z
  ·omega
  ·exact z
 ·have := (h2 q hq).2 x hx
  rcases hp x this.2 with z | z
  ·omega
  ·exact z
theorem qsq {x : Nat} (h : x < 128 ∧ x ≠ 32 ∧ x ≠ 9 ∧ x ≠ 10) : isW x = false := by
 unfold isW; simp; lia
theorem w_no (hw : w = 32 ∨ w = 9) {l : List Nat} (h : ∀ x ∈ l, x < 128 ∧ x ≠ 32 ∧ x ≠ 9 ∧ x ≠ 10) : w ∉ l := fun q => by
 have := h w q; lia
theorem qez (hw : w = 32 ∨ w = 9) (G : GoodX X) : qdz (pb w (t0X X) (LX X)).1 (pb w (t0X X) (LX X)).2 ∧ yc w X = cat2 (pb w (t0X X) (LX X)).1 ++ (pb w (t0X X) (LX X)).2 ∧ qp [] (pb w (t0X X) (LX X)).1 (pb w (t0X X) (LX X)).2 = qs w [] (t0X X) (LX X) := by
 obtain ⟨h1, h2⟩ := wx G
 refine (y_a2 ((qkf hw _ _ (qci G).2 (fun x hx => qsq (h1 x hx)) fun q hq x hx => qsq (h2 q hq x hx)).1) ?_ (qg8 w _ _ _))
 rw [qsu, yl]
theorem qko : (yc w X).length = (tX X).length := by exact List.length_map (psi w)
theorem qsa (X : List XT) : (LX X).length ≤ (tX X).length := by
 have := congrArg List.length (wz (tX X))
 simp only [List.length_map] at this
 rw [this]; exact List.length_filter_le _ _
theorem qnh (hw : w = 32 ∨ w = 9) (G : GoodX X) : qfp w (qs w [] (t0X X) (LX X)) := by
 have hl := G.l
 have hL := qsa X
 refine ⟨fun i q hi hq => ?_, fun i q hi hq x hx => ?_, by rw [qsw]; lia, ?_⟩
 ·cases i with
  | zero => lia
  | succ i =>
   have : (((LX X).map fun q => ([w], q.2)) : List (List Nat × List Nat))[i]? = some q := by assumption
   rw [List.getElem?_map] at this
   cases h : (LX X)[i]? with
   | none => rw [h] at this; cases this
   | some z => rw [h] at this; cases this; rfl
 ·have hx' : x = 59 ∨ x = 44 ∨ x = 32 ∨ x = 9 := by simpa [chs] using hx
  rcases qpe w _ _ _ (qci G).2 i q hi hq with h | h <;> rw [h] <;> simp <;> lia
 ·rw [qhb, ← yl, qko]; simp; lia
theorem qon (X : List XT) : ∃ a, (pb w (t0X X) (LX X)).2 = a ++ [41, 92, 90] := by
 have h : ∃ a, tX X = a ++ [41, 92, 90] := ⟨_, rfl⟩
 obtain ⟨a, e⟩ := h
 refine ⟨(pb w (segs a).1 (segs a).2).2, ?_⟩
 show (pb w (segs (tX X)).1 (segs (tX X)).2).2 = _
 rw [e]
 exact qo8 w (by intro x hx; simp at hx; lia) a
theorem qud (hw : w = 32 ∨ w = 9) (m : Int) (X : List XT) : ∃ cs f, (stX w m X).2 = cs ++ [(f, (pb w (t0X X) (LX X)).2)] ∧ (f = [] ∨ f = [w]) := by
 refine x_ea (qpf w (LX X) [] (t0X X)) fun f h1 h2 => ?_
 have h3 := qdq m (qs w [] (t0X X) (LX X)) ([], [])
 rw [if_neg (by simp [qs]), h1] at h3
 obtain ⟨cs, e⟩ := List.getLast?_eq_some_iff.mp h3
 exact (qho cs f e h2)
theorem qag (hw : w = 32 ∨ w = 9) (G : GoodX X) : (DX w m X).Sublist (List.range (LX X).length) ∧ v9 w m X = t0X X ++ mk w (DX w m X) 0 (LX X) ∧
  ((stX w m X).1.filter l92).length = ((DX w m X).filter fun i => decide ((((jy 0 X)[i]?).getD 1) % 2 = 0)).length ∧ cat (jz w m X) = yc w X := by
 have hs := qci G
 obtain ⟨p1, p2⟩ := wx G
 have hc : (LX X).map (·.1) = jy 0 X := by rw [wz, qpq G.lo]
 have e0 : stX w m X = ((LX X).map fun q => ([w], q.2)).foldl (j0 m) ([], [([], t0X X)]) := by
  unfold stX qs
  rw [List.foldl_cons]
  congr 1
  unfold j0
  rw [if_pos (.inr rfl)]; rfl
 have ea : qa [([], t0X X)] = t0X X := by simp [qa, cat]
 refine xx (qbt m hw (fun i => decide ((((jy 0 X)[i]?).getD 1) % 2 = 0)) (LX X) 0 (t0X X) ([], [([], t0X X)]) hs.2 (by exact List.cons_ne_nil ([], t0X X) []) (by rw [ea]) (fun q hq => w_no hw (p2 q hq)) (fun j q hq => by
   have : (jy 0 X)[j]? = some q.1 := by rw [← hc, List.getElem?_map, hq]; rfl
   rw [Nat.zero_add, this]; rfl) (by
   show 0 + (qa [([], t0X X)]).count w = 0
   rw [ea, List.count_eq_zero.mpr (w_no hw p1)]) (by simp [qd6, qd7]) (by simp [qd6, qd7])) fun E st' h0 h1 h2 z193y => ?_; refine x_a4 z193y fun h3 h4 h5 h6 h7 => ?_; clear z193y
 rw [← e0] at h0
 subst h0
 rw [show ([] : List (List Nat)) ++ [qa [([], t0X X)]] = [t0X X] by rw [ea]; rfl] at h4 h7
 refine (y_a3 (by simpa [DX] using h3) ?_ h5 ?_)
 ·show glue [10] ((stX w m X).1 ++ [qa (stX w m X).2]) = _
  rw [h4]; rfl
 ·show cat ((stX w m X).1 ++ [qa (stX w m X).2]) = _
  rw [h7, yl]; simp [cat]
theorem qwu (G : GoodX X) : ∀ j q, (LX X)[j]? = some q → ix q.1 = 0 + j := fun j q hq => by
 have hc : (LX X).map (·.1) = jy 0 X := by rw [wz, qpq G.lo]
 exact w8 X 0 j q.1 (by rw [← hc, List.getElem?_map, hq]; rfl)
theorem qgi (hw : w = 32 ∨ w = 9) (G : GoodX X) : v9 w m X = (tX X).flatMap (phip w (inB (DX w m X))) := by
 rw [(qag hw G).2.1, wy (fun x => yy), qit w _ _ 0 (fun q hq => ((uc (tX X)).2 q hq).1) (qwu G)]
theorem ql2 (hw : w = 32 ∨ w = 9) (G : GoodX X) : Txt.replace (S (dueX w m X)) (S [92, 10, 92]) (S [92, 10]) = S (v9 w m X) := by
 rw [qau (List.cons_ne_nil _ _), qgi hw G]
 congr 1
 have := zg hw (inB (DX w m X)) (tX X).length (tX X) 0 [] (Nat.le_refl _) (quf G.lo 0) (qfg G.p) (fun x r e h1 h2 => by
  obtain ⟨r', e'⟩ := qv4 (X := X)
  rw [e'] at e; cases e; lia)
 exact this
theorem qke (w : Nat) (X : List XT) : patX w X = glue [w] ((segs (jv 0 X)).1 :: ((segs (jv 0 X)).2.map (·.2))) := by
 obtain ⟨h1, h2⟩ := uc (jv 0 X)
 show (jv 0 X).map (psi w) = _
 rw [← qa0, wy (fun x => yy)]
 generalize (segs (jv 0 X)).1 = a at *
 generalize (segs (jv 0 X)).2 = L at *
 clear h1
 induction L generalizing a with
 | nil => simp [z6, z7, z8]
 | cons q r ih =>
  rw [List.map_cons, q8 _ _ (by exact List.cons_ne_nil q.snd (List.map (fun x => x.snd) r)), ← ih q.2 (fun z hz => h2 z (.tail _ hz)), List.flatMap_cons, wv (h2 q (.head _)).1]
  exact Eq.symm (List.append_assoc a [w] (q.snd ++ List.flatMap (fun q => phip w noB q.fst ++ q.snd) r))
theorem qox (G : GoodX X) : Txt.split (S (patX w X)) (S [w]) = ((segs (jv 0 X)).1 :: ((segs (jv 0 X)).2.map (·.2))).map S ∨ ¬ (w = 32 ∨ w = 9) := by
 by_cases hw : w = 32 ∨ w = 9
 ·refine .inl ?_
  have hp := xp X 0 G.f
  obtain ⟨h1, h2⟩ := uc (jv 0 X)
  have e := qke w X
  rw [e]
  refine qfc (by exact List.cons_ne_nil (segs (jv 0 X)).fst (List.map (fun x => x.snd) (segs (jv 0 X)).snd)) fun p hp' => ?_
  have lo : ∀ x, x < 2000 ∧ x ∈ jv 0 X → x ≠ w := fun x hx => by
   rcases hp x hx.2 with z | z <;> lia
  rcases List.mem_cons.mp hp' with rfl | hp'
  ·exact fun q => lo w (h1 w q) rfl
  ·refine x_ea (List.mem_map.mp hp') fun q hq z192y => ?_; subst z192y
   exact fun z => lo w ((h2 q hq).2 w z) rfl
 ·exact .inr hw
theorem qtu (G : GoodX X) (D : List Nat) : yd w D (segs (jv 0 X)).1 0 ((segs (jv 0 X)).2.map (·.2)) = qj (real w (inB D) 0 X) := by
 rw [ze w _ X 0 G.f, qg2, wy (fun x => yy), qit w D _ 0 (fun q hq => ((uc (jv 0 X)).2 q hq).1) fun j q hq => ?_]
 have hc : (segs (jv 0 X)).2.map (·.1) = jy 0 X := by rw [wz, vj X 0 G.f]
 exact w8 X 0 j q.1 (by rw [← hc, List.getElem?_map, hq]; rfl)
theorem qn1 (hw : w = 32 ∨ w = 9) (G : GoodX X) : (yo (v9 w m X)).reverse.foldl xh ([], yo (yc w X)) = (List.replicate (stX w m X).1.length (S [10]), []) := by
 refine qdg ?_
 have := qgl 10 (stX w m X).1 (qa (stX w m X).2)
 rw [show cat ((stX w m X).1 ++ [qa (stX w m X).2]) = yc w X from (qag hw G).2.2.2] at this
 exact this
theorem qq2 (hw : w = 32 ∨ w = 9) (G : GoodX X) : (yo (dueX w m X)).reverse.foldl xh ([], yo (v9 w m X)) = (List.replicate ((stX w m X).1.filter l92).length (S [92]), []) := by
 refine qdg ?_
 have h := qjz w (inB (DX w m X)) (tX X)
 rw [← qgi hw G] at h
 have hc : (LX X).map (·.1) = jy 0 X := by rw [wz, qpq G.lo]
 have hl : (jy 0 X).length = (LX X).length := by rw [← hc]; simp
 have hk : (tX X).countP (fun x => hi x && decide (x % 2 = 0) && (inB (DX w m X)) (ix x)) = ((stX w m X).1.filter l92).length := by
  rw [(qag hw G).2.2.1, ← qf5 (DX w m X) (jy 0 X) (LX X).length hl (fun j x hx => by rw [w8 X 0 j x hx, Nat.zero_add]) (qqy X 0) (qag hw G).1, ← qpq G.lo, List.countP_filter]
  refine List.countP_congr fun x ω => ?_
  by_cases h : 2000 ≤ x <;> simp [h]
 rw [hk] at h
 exact h
end

end
section
open PySem

noncomputable def qg9 : Nat → List XT
 | 0 => [.t (.c 97)]
 | 1 => [.t (.c 98), .t (.c 99)]
 | 2 => [.t .star]
 | 3 => [.t .q]
 | 4 => [.t (.c 59)]
 | 5 => [.t (.c 44)]
 | 6 => [.t (.c 46)]
 | 7 => [.t (.c 35)]
 | 8 => [.t .br0]
 | 9 => [.iw]
 | 10 => [.ow]
 | 11 => [.ow, .t (.c 104)]
 | _ => []
noncomputable def qps : List XT := [.t (.c 97), .t (.c 59), .ow, .t (.c 98), .t .star, .ow, .iw, .t (.c 102), .ow, .t .star, .t (.c 103), .ow, .t (.c 35), .t (.c 104)]
noncomputable def XS (nums : List Int) : List XT := nums.flatMap (fun x => qg9 (x.fmod 12).toNat) ++ qps
noncomputable def xfl (w : Nat) : XT → List Nat
 | .t k => k.flat
 | .ow => [w]
 | .iw => [91, w, 101, 93]
theorem qnz (a b : List Tk) : qj (a ++ b) = qj a ++ qj b := by exact List.flatMap_append
theorem uz (w : Nat) : ∀ (X : List XT) (i : Nat), qj (real w noB i X) = X.flatMap (xfl w)
 | [], _ => rfl
 | .t k :: r, i => by rw [qcd, List.flatMap_cons, ← uz w r i]; rfl
 | .ow :: r, i => by rw [qam, List.flatMap_cons, ← uz w r (i + 1)]; rfl
 | .iw :: r, i => by rw [qe4, List.flatMap_cons, ← uz w r (i + 1)]; rfl
theorem qlx (w : Nat) : ∀ i, i < 12 → (qg9 i).flatMap (xfl w) = ((pcs w)[i]?).getD []
 | 0, _ => rfl | 1, _ => rfl | 2, _ => rfl | 3, _ => rfl | 4, _ => rfl | 5, _ => rfl | 6, _ => rfl | 7, _ => rfl | 8, _ => rfl | 9, _ => rfl | 10, _ => rfl | 11, _ => rfl
 | n + 12, h => by rfl
theorem qvs (w : Nat) (nums : List Int) : (XS nums).flatMap (xfl w) = qrm w nums := by
 unfold XS qrm
 rw [List.flatMap_append]
 congr 1
 induction nums with
 | nil => rfl
 | cons x r ih =>
  rw [List.flatMap_cons, List.flatMap_append, ih, qlx w _ (by lia)]
  rfl
structure XT.fine (x : XT) : Prop where
 p : x.plain
 f : x.fl
 k : ∀ k, x = .t k → k.ok ∧ k.flat.length ≤ 6
theorem uo {ch : Nat} (h : ch ∈ [97, 98, 99, 59, 44, 46, 35, 104, 102, 103]) : XT.fine (.t (.c ch)) := by
 refine ⟨⟨escC ch, rfl, ?_⟩, ⟨?_, ?_⟩, fun k e => ?_⟩
 ·revert h; revert ch; decide
 ·revert h; revert ch; decide
 ·revert h; revert ch; decide
 ·cases e
  refine ⟨?_, (by decide : 1 ≤ 6)⟩
  show vq ch ∨ qaz ch
  delta vq qaz
  revert h; revert ch; decide
theorem qgf : XT.fine (.t .star) := ⟨trivial, ⟨by decide, by decide⟩, fun k e => by cases e; exact ⟨trivial, by decide⟩⟩
theorem qvc : XT.fine (.t .q) := ⟨⟨_, rfl, by decide⟩, ⟨by decide, by decide⟩, fun k e => by cases e; exact ⟨trivial, by decide⟩⟩
theorem qq6 : XT.fine (.t .br0) := ⟨⟨_, rfl, by decide⟩, ⟨by decide, by decide⟩, fun k e => by cases e; exact ⟨trivial, by decide⟩⟩
theorem qii : XT.fine .ow := ⟨trivial, trivial, fun k e => by cases e⟩
theorem qny : XT.fine .iw := ⟨trivial, trivial, fun k e => by cases e⟩
theorem q7 {a : XT} {l : List XT} (h : a.fine) (t : ∀ x ∈ l, x.fine) : ∀ x ∈ a :: l, x.fine := List.forall_mem_cons.mpr ⟨h, t⟩
theorem jm : ∀ x ∈ ([] : List XT), x.fine := fun ω h => nomatch h
theorem qlw : ∀ i, ∀ x ∈ qg9 i, x.fine
 | 0 => q7 (uo (by decide)) jm
 | 1 => q7 (uo (by decide)) (q7 (uo (by decide)) jm)
 | 2 => q7 qgf jm
 | 3 => q7 qvc jm
 | 4 => q7 (uo (by decide)) jm
 | 5 => q7 (uo (by decide)) jm
 | 6 => q7 (uo (by decide)) jm
 | 7 => q7 (uo (by decide)) jm
 | 8 => q7 qq6 jm
 | 9 => q7 qny jm
 | 10 => q7 qii jm
 | 11 => q7 qii (q7 (uo (by decide)) jm)
 | _ + 12 => jm
theorem qpa : ∀ i, (qg9 i).length ≤ 2
 | 0 => by decide | 1 => by decide | 2 => by decide | 3 => by decide | 4 => by decide | 5 => by decide | 6 => by decide | 7 => by decide | 8 => by decide | 9 => by decide | 10 => by decide | 11 => by decide
 | n + 12 => by exact (fun {α} {l} {i} => List.getElem?_eq_none_iff.mp) rfl
theorem qpt : ∀ x ∈ qps, x.fine := by
 delta qps
 repeat refine q7 (by first | exact qgf | exact qii | exact qny | exact uo (by decide)) ?_
 exact jm
theorem qbh (nums : List Int) : ∀ x ∈ XS nums, x.fine := by
 intro x h
 rcases List.mem_append.mp h with h | h
 ·refine x_ea (List.mem_flatMap.mp h) fun y ω h => ?_
  exact qlw _ x h
 ·exact qpt x h
theorem qm8 (nums : List Int) : (XS nums).length ≤ 2 * nums.length + 14 := by
 unfold XS
 rw [List.length_append]
 have : (nums.flatMap fun x => qg9 (x.fmod 12).toNat).length ≤ 2 * nums.length := by
  induction nums with
  | nil => decide
  | cons x r ih =>
   have := qpa (x.fmod 12).toNat
   rw [List.flatMap_cons, List.length_append, List.length_cons]; omega
 have h2 : qps.length = 14 := rfl
 exact Nat.add_le_add_right this qps.length
theorem qj3 : ∀ (X : List XT) (i : Nat) (a : List It), (∀ x ∈ X, x.fine) → wts (X.foldl wi (a, i)).1 ≤ wts a + 16 * X.length
 | [], _, _, _ => by simp
 | x :: r, i, a, h => by
  have h0 := h x (.head _)
  have hx : wts (wi (a, i) x).1 ≤ wts a + 16 := by
   cases x with
   | t k => exact qb4 (h0.k k rfl).1
   | ow => show wts (a ++ _) ≤ _; rw [qi6]; simp [wts, It.wt]
   | iw => show wts (a ++ _) ≤ _; rw [qi6]; simp [wts, It.wt]
  have ih := qj3 r (wi (a, i) x).2 (wi (a, i) x).1 fun y hy => h y (.tail _ hy)
  rw [List.foldl_cons, List.length_cons]
  show wts (r.foldl wi ((wi (a, i) x).1, (wi (a, i) x).2)).1 ≤ _
  lia
theorem qbi {nums : List Int} (hl : nums.length ≤ 12) : GoodX (XS nums) := by
 refine ⟨fun x hx => (qbh nums x hx).p, fun x hx => (qbh nums x hx).f, ?_⟩
 have h1 := qlj ((XS nums).foldl wi ([], 0)).1
 have h2 := qj3 (XS nums) 0 [] (qbh nums)
 have h3 := qm8 nums
 show (joined _).length ≤ 1000
 simp only [show wts [] = 0 from rfl] at h2
 lia
theorem qcc {w : Nat} (hw : w = 32 ∨ w = 9) (b : Nat → Bool) : ∀ (X : List XT) (i : Nat), (∀ x ∈ X, x.fine) → ∀ t ∈ real w b i X, t.ok
 | [], _, _, t, h => by cases h
 | .t k :: r, i, hf, t, h => by
  rcases List.mem_cons.mp h with rfl | h
  ·exact ((hf _ (.head _)).k _ rfl).1
  ·exact qcc hw b r i (fun x hx => hf x (.tail _ hx)) t h
 | .ow :: r, i, hf, t, h => by
  rcases List.mem_append.mp h with h | h
  ·have ok10 : Tk.ok (.c 10) := .inr (by unfold qaz; exact mem4)
   have okw : Tk.ok (.c w) := .inr (by unfold qaz; rcases hw with rfl | rfl <;> simp)
   by_cases hb : b i
   ·rw [if_pos hb] at h
    simp at h
    rcases h with rfl | rfl
    ·exact ok10
    ·exact okw
   ·rw [if_neg hb] at h
    simp at h; subst h; exact okw
  ·exact qcc hw b r (i + 1) (fun x hx => hf x (.tail _ hx)) t h
 | .iw :: r, i, hf, t, h => by
  rcases List.mem_cons.mp h with rfl | h
  ·show _ ∈ w4
   by_cases hb : b i <;> rcases hw with rfl | rfl <;> simp [hb, w4]
  ·exact qcc hw b r (i + 1) (fun x hx => hf x (.tail _ hx)) t h
theorem vd (w : Nat) (b : Nat → Bool) : ∀ (X : List XT) (i : Nat), (∀ x ∈ X, x.fine) → (qj (real w b i X)).length ≤ 6 * X.length
 | [], _, _ => by simp [qix, qcd, qam, qe4]
 | .t k :: r, i, hf => by
  have h1 := ((hf _ (.head _)).k _ rfl).2
  have h2 := vd w b r i fun x hx => hf x (.tail _ hx)
  simp only [qix, qcd, qam, qe4, qj, List.flatMap_cons, List.length_append, List.length_cons] at *; lia
 | .ow :: r, i, hf => by
  have h2 := vd w b r (i + 1) fun x hx => hf x (.tail _ hx)
  rw [qam, qnz, List.length_append, List.length_cons]
  have : (qj (if b i = true then [Tk.c 10, Tk.c w] else [Tk.c w])).length ≤ 2 := by split <;> simp [Tk.flat]
  lia
 | .iw :: r, i, hf => by
  have h2 := vd w b r (i + 1) fun x hx => hf x (.tail _ hx)
  have : (Tk.flat (.brw ((if b i then [10] else []) ++ [w, 101]))).length ≤ 5 := by simp [Tk.flat]; split <;> simp
  simp only [qix, qcd, qam, qe4, qj, List.flatMap_cons, List.length_append, List.length_cons] at *; lia
theorem qvr (w : Nat) {nums : List Int} (hl : nums.length ≤ 12) : qrm w nums = patX w (XS nums) := by
 rw [← qvs, ← uz w (XS nums) 0, qkd (qbi hl)]

end
section
open PySem

section
variable {w : Nat} {m : Int} {X : List XT}
theorem qlv (hw : w = 32 ∨ w = 9) (G : GoodX X) : ∃ r0, outs (pb w (t0X X) (LX X)).1 ++ [(pb w (t0X X) (LX X)).2] = t0X X :: r0 := by
 have h := z4 [] (pb w (t0X X) (LX X)).1 (pb w (t0X X) (LX X)).2
 rw [(qez hw G).2.2] at h
 have e : ∃ r, outs (qs w [] (t0X X) (LX X)) = [] :: t0X X :: r := ⟨_, rfl⟩
 obtain ⟨r, e⟩ := e
 rw [e, List.cons_append] at h
 exact ⟨r, (List.cons.inj h).2.symm⟩
theorem ud (G : GoodX X) : (yc w X).length ≤ 1000 := by rw [qko]; exact G.l
theorem qxl (G : GoodX X) : (t0X X).length ≤ 1000 := by
 have := ud (w := 32) G
 rw [yl] at this
 simp only [List.length_append] at this; lia
theorem qqf (G : GoodX X) : (LX X).length ≤ 1000 := Nat.le_trans (qsa X) G.l
theorem qe6 (hw : w = 32 ∨ w = 9) (G : GoodX X) : cat (jz w m X) = yc w X := (qag hw G).2.2.2
theorem qe7 (hw : w = 32 ∨ w = 9) (G : GoodX X) : ((jz w m X).map List.length).sum ≤ 1000 := by
 rw [← wm, qe6 hw G]; exact ud G
theorem qpm (hw : w = 32 ∨ w = 9) (G : GoodX X) : (stX w m X).1.length ≤ 1000 := by
 have h := (qag (m := m) hw G).1.length_le
 rw [List.length_range] at h
 have : (DX w m X).length = (stX w m X).1.length := qd5 ..
 have := qqf G
 lia
theorem u0 (hw : w = 32 ∨ w = 9) (G : GoodX X) : (jz w m X).length ≤ 1001 := by
 have := qpm (m := m) hw G
 simp [jz]; assumption
theorem quc (G : GoodX X) : (stX w m X).2.length ≤ 1001 := by
 refine x_ea (yf m (qs w [] (t0X X) (LX X)) ([], []) [] (Nat.le_refl _)) fun t' h1 h2 => ?_
 have := congrArg List.length h1
 simp only [List.nil_append, List.length_append, qsw] at this
 have := qqf G
 show ((qs w [] (t0X X) (LX X)).foldl (j0 m) ([], [])).2.length ≤ _
 lia
theorem quz (hw : w = 32 ∨ w = 9) (G : GoodX X) : qg (stX w m X).2 ≤ 1000 := by
 rw [← qdd]
 have := qe7 (m := m) hw G
 simp only [jz, List.map_append, List.sum_append, List.map_cons, List.map_nil, List.sum_cons, List.sum_nil] at this
 lia
theorem qjt (hw : w = 32 ∨ w = 9) (G : GoodX X) : ∀ x ∈ yc w X, x < 128 ∧ x ≠ 10 := by
 obtain ⟨h1, h2⟩ := wx G
 rw [yl]
 intro x hx
 rcases List.mem_append.mp hx with h | h
 ·exact ⟨(h1 x h).1, (h1 x h).2.2.2⟩
 ·refine x_ea (List.mem_flatMap.mp h) fun q hq h => ?_
  rcases List.mem_cons.mp h with rfl | h
  ·lia
  ·exact ⟨(h2 q hq x h).1, (h2 q hq x h).2.2.2⟩
theorem qjs (hw : w = 32 ∨ w = 9) (G : GoodX X) : ∀ r ∈ jz w m X, ∀ x ∈ r, x < 128 ∧ x ≠ 10 := by
 intro r hr x hx
 refine qjt hw G x ?_
 rw [← qe6 (m := m) hw G]
 exact List.mem_flatten.mpr (y_ea r hr hx)
theorem qqw (hw : w = 32 ∨ w = 9) (G : GoodX X) : asc (pb w (t0X X) (LX X)).2 := by
 intro x hx
 refine (qjt hw G x ?_).1
 rw [(qez hw G).2.1]
 exact List.mem_append_right _ hx
theorem ql3 (hw : w = 32 ∨ w = 9) (G : GoodX X) : Txt.split (S (v9 w m X)) (S [10]) = (jz w m X).map S :=
 qfc (by simp [jz]) fun p hp q => (qjs hw G p hp 10 q).2 rfl
theorem qo4 (l a b : List Nat) (h : l = a ++ 90 :: b) : Txt.isspace (S l) = false := by
 subst h
 unfold Txt.isspace
 rw [Bool.and_eq_false_iff]
 refine .inr ?_
 rw [← Array.all_toList, qm0, List.all_append, List.all_cons]
 rw [show Unicode.isSpace 90 = false from by rfl]; simp
noncomputable def psX (w : Nat) (X : List XT) : List (List Nat) := t0X X :: (LX X).map fun q => w :: q.2
theorem qhd (hw : w = 32 ∨ w = 9) (G : GoodX X) : Txt.replace (S (yc w X)) (S [w]) (S [10, w]) = S (glue [10] (psX w X)) := by
 obtain ⟨h1, h2⟩ := wx G
 have e : yc w X = glue [w] (t0X X :: (LX X).map (·.2)) := by
  rw [yl]
  generalize t0X X = a at *
  generalize LX X = L at *
  clear h1
  induction L generalizing a with
  | nil => simp [z6, z7, z8]
  | cons q r ih =>
   rw [List.map_cons, q8 _ _ (by exact List.cons_ne_nil q.snd (List.map (fun x => x.snd) r)), ← ih q.2 (fun z hz => h2 z (.tail _ hz)), List.flatMap_cons]
   simp
 rw [qau (by exact List.cons_ne_nil w []), e, qrs (by exact List.cons_ne_nil (t0X X) (List.map (fun x => x.snd) (LX X))) fun p hp => ?_]
 ·congr 1
  unfold psX
  generalize t0X X = a
  generalize LX X = L
  induction L generalizing a with
  | nil => rfl
  | cons q r ih =>
   show a ++ [10, w] ++ glue [10, w] (q.2 :: r.map (·.2)) = a ++ [10] ++ glue [10] ((w :: q.2) :: r.map fun q => w :: q.2)
   rw [ih q.2]
   cases r with
   | nil => simp [z6, z7, z8]
   | cons z r => simp [z6, z7, z8]
 ·rcases List.mem_cons.mp hp with rfl | hp
  ·exact w_no hw h1
  ·refine x_ea (List.mem_map.mp hp) fun q hq z188y => ?_; subst z188y
   exact w_no hw (h2 q hq)
theorem qsv (hw : w = 32 ∨ w = 9) (G : GoodX X) : ∀ p ∈ psX w X, ∀ x ∈ p, x < 128 ∧ x ≠ 10 := by
 obtain ⟨h1, h2⟩ := wx G
 intro p hp x hx
 rcases List.mem_cons.mp hp with rfl | hp
 ·exact ⟨(h1 x hx).1, (h1 x hx).2.2.2⟩
 ·refine x_ea (List.mem_map.mp hp) fun q hq z187y => ?_; subst z187y
  rcases List.mem_cons.mp hx with rfl | hx
  ·lia
  ·exact ⟨(h2 q hq x hx).1, (h2 q hq x hx).2.2.2⟩
theorem ql1 (hw : w = 32 ∨ w = 9) (G : GoodX X) : Txt.split (Txt.replace (S (yc w X)) (S [w]) (S [10, w])) (S [10]) = (psX w X).map S := by
 rw [qhd hw G]
 exact qfc (by simp [psX]) fun p hp q => (qsv hw G p hp 10 q).2 rfl
theorem qpb : cat (psX w X) = yc w X := by
 rw [yl]; rfl
theorem qpc : (psX w X).length = (LX X).length + 1 := by simp [psX]
theorem qeo (sep : List Nat) : ∀ (xs : List (List Nat)), (glue sep xs).length ≤ (cat xs).length + xs.length * sep.length
 | [] => by exact Nat.le_add_right (glue sep []).length ([].length * sep.length)
 | [x] => by simp [z6, z7, z8, cat]
 | x :: y :: r => by
  have := qeo sep (y :: r)
  rw [q8 _ _ (by exact List.cons_ne_nil y r)]
  simp only [List.length_append, cat, List.flatten_cons, List.length_cons] at this ⊢
  rw [Nat.add_mul]; lia
theorem qt4 (hw : w = 32 ∨ w = 9) (G : GoodX X) : (Txt.replace (S (yc w X)) (S [w]) (S [10, w])).length ≤ 11000 := by
 rw [qhd hw G, jb]
 have h1 := qeo [10] (psX w X)
 rw [qpb, qpc] at h1
 have := ud (w := w) G
 have := qqf G
 simp only [List.length_cons, List.length_nil] at h1; lia
theorem qrq (hw : w = 32 ∨ w = 9) (G : GoodX X) : (psX w X).foldl (qh m) ([], []) = ((stX w m X).1, qa (stX w m X).2) := by
 have e0 : stX w m X = ((LX X).map fun q => ([w], q.2)).foldl (j0 m) ([], [([], t0X X)]) := by
  unfold stX qs
  rw [List.foldl_cons]
  congr 1
  unfold j0
  rw [if_pos (.inr rfl)]; rfl
 have e1 : qh m ([], []) (t0X X) = ([], t0X X) := by
  unfold qh
  rw [if_neg (by exact (fun {a b} => not_and.mpr) fun a a_1 => a rfl)]; rfl
 have ea : qa [([], t0X X)] = t0X X := by simp [qa, cat]
 have := qfa m w (LX X) ([], [([], t0X X)]) (by exact List.cons_ne_nil ([], t0X X) []) (by rw [ea]; exact (qci G).1)
 rw [ea, ← e0] at this
 show ((LX X).map fun q => w :: q.2).foldl (qh m) (qh m ([], []) (t0X X)) = _
 rw [e1]; exact this
theorem qn0 (hw : w = 32 ∨ w = 9) (G : GoodX X) : (v9 w m X).length ≤ 2001 := by
 have h1 := qeo [10] (jz w m X)
 rw [qe6 hw G] at h1
 have h2 := u0 (m := m) hw G
 have := ud (w := w) G
 simp only [List.length_cons, List.length_nil] at h1
 show (glue [10] (jz w m X)).length ≤ _
 lia
end

end
section
noncomputable def jc (i : Nat) : Stmt := match (qu (jj 24))[i]? with
 | some s => s
 | none => .Pass ⟨0, 0, 0, 0⟩
noncomputable abbrev jn (L : Addr) : EF := efOf qsk L 280 qsr qsm
section
variable {c : CX} {n : Nat} {L : Addr} {os : List AO} {K : AF → Loc → List AO → Prop} {a1 a2 a3 a4 a5 a6 a7 a8 a9 a10 a11 : Option AV}
theorem qn5 (sep : List Nat) : ∀ (xs : List (List Nat)), (xs.map List.length).sum + (xs.length - 1) * sep.length ≤ (glue sep xs).length
 | [] => by simp
 | [x] => by simp [z6, z7, z8]
 | x :: y :: r => by
  have := qn5 sep (y :: r)
  rw [q8 _ _ (by exact List.cons_ne_nil y r)]
  simp only [List.length_append, List.map_cons, List.sum_cons, List.length_cons, Nat.add_sub_cancel] at this ⊢
  rw [Nat.add_mul]; lia
theorem yp {k : Nat} : ∀ (xs : List Int), AVs.Un k (qb2 xs)
 | [] => trivial
 | x :: xs => ⟨trivial, yp xs⟩
theorem law0 {l : Addr} {vs : List Value} {ns : List Int} (hB : c.B.heap.IsList l vs.toArray) (hi : IntsAre vs ns) (hl : ns.length ≤ 63) (h : K .next [some (.glob (.ref l)), some (.ref 0), a3, a4, a5, a6, a7, a8, a9, a10, a11] [.list (qb2 (ns.take 12))]) :
  EX c n (jn L) [some (.glob (.ref l)), a2, a3, a4, a5, a6, a7, a8, a9, a10, a11] [] (jc 0) K := by
 have hz : sizeLine = 16777216 := rfl
 conv => arg 6; whnf
 repeat x_close
 refine qkx (b := 12) hB hi (by lia) ?_
 repeat x_close
 exact h
theorem law1 {ns : List Int} (h : K .next [a1, some (.ref 0), some (.int ns.sum), a4, a5, a6, a7, a8, a9, a10, a11] (.list (qb2 ns) :: os)) (C : c.Std) :
  EX c n (jn L) [a1, some (.ref 0), a3, a4, a5, a6, a7, a8, a9, a10, a11] (.list (qb2 ns) :: os) (jc 1) K := by
 conv => arg 6; whnf
 repeat x_close
 refine qwc (ns := ns) rfl ?_
 repeat x_close
 exact h
theorem law2 (C : c.Std) {T : Int} {rest : List Stmt} (h : ∀ w t, (w = 32 ∨ w = 9) → c.B.toks ≤ t → 0 < t → EXs (c.tk (t + 1)) n (jn L) [a1, a2, some (.int T), some (.strT (S [w]) t), a5, a6, a7, a8, a9, a10, a11] os rest K) :
  EXs c n (jn L) [a1, a2, some (.int T), a4, a5, a6, a7, a8, a9, a10, a11] os (jc 2 :: rest) K := by
 conv => arg 6; arg 1; whnf
 refine qh0 ?_
 repeat x_close
 refine qky (by decide) (by decide) ?_
 repeat x_close
 refine qf1 (by decide) ?_
 have h2 : (T.fdiv 20).fmod 2 = 0 ∨ (T.fdiv 20).fmod 2 = 1 := by
  rw [Int.fmod_eq_emod_of_nonneg _ (by simp)]; exact Int.emod_two_eq (T.fdiv 20)
 rcases h2 with e | e <;> rw [e]
 ·exact (yn 0 32 rfl (by decide) rfl (fun t h1 h3 => (y_ea _ StAt.a3 (h 32 t (.inl rfl) h1 h3))))
 ·exact (yn 1 9 rfl (by decide) rfl (fun t h1 h3 => (y_ea _ StAt.a3 (h 9 t (.inr rfl) h1 h3))))
theorem law3 (C : c.Std) {T : Int} (h : ∀ m, K .next [a1, a2, some (.int T), a4, some (.int m), a6, a7, a8, a9, a10, a11] os) :
  EX c n (jn L) [a1, a2, some (.int T), a4, a5, a6, a7, a8, a9, a10, a11] os (jc 3) K := by
 conv => arg 6; whnf
 repeat x_close
 refine qf1 (by decide) ?_
 repeat x_close
 exact h _
theorem law4 (C : c.Std) {w t : Nat} {ns : List Int} (hl : ns.length ≤ 12) (h : K .next [a1, some (.ref 0), a3, some (.strT (S [w]) t), a5, some (.str (S (patX w (XS ns)))), a7, a8, a9, a10, a11] [.list (qb2 ns)]) :
  EX c (n + 1) (jn L) [a1, some (.ref 0), a3, some (.strT (S [w]) t), a5, a6, a7, a8, a9, a10, a11] [.list (qb2 ns)] (jc 4) K := by
 conv => arg 6; whnf
 repeat x_close
 refine qg7 (nums := ns) C rfl (by lia) ⟨yp _, trivial⟩ ?_
 rw [qvr w hl]
 repeat x_close
 exact h
theorem law5 (C : c.Std) {w : Nat} {ns : List Int} (hw : w = 32 ∨ w = 9) (hl : ns.length ≤ 12) (hu : AOs.Un os.length os) (h : K .next [a1, a2, a3, a4, a5, some (.str (S (patX w (XS ns)))), some (.str (S (yc w (XS ns)))), a8, a9, a10, a11] os) :
  EX c (n + 4) (jn L) [a1, a2, a3, a4, a5, some (.str (S (patX w (XS ns)))), a7, a8, a9, a10, a11] os (jc 5) K := by
 have G := qbi hl
 have hf := qbh ns
 have hlen := qm8 ns
 have hr := vd w noB (XS ns) 0 hf
 conv => arg 6; whnf
 repeat x_close
 rw [← qkd G]
 refine v0 C (qcc hw noB _ _ hf) (by lia) hu ?_
 rw [qug hw G, qkd G]
 repeat x_close
 exact h
theorem law6 (C : c.Std) {w t : Nat} {X : List XT} (hw : w = 32 ∨ w = 9) (G : GoodX X) (h : K .next [a1, a2, a3, some (.strT (S [w]) t), a5, some (.str (S (patX w X))), some (.str (S (yc w X))), a8, a9, a10, a11] os) :
  EX c n (jn L) [a1, a2, a3, some (.strT (S [w]) t), a5, some (.str (S (patX w X))), some (.str (S (yc w X))), a8, a9, a10, a11] os (jc 6) K := by
 conv => arg 6; whnf
 repeat x_close
 refine vn [92] [w] (h := ?_)
 repeat x_close
 refine qdt ?_
 repeat x_close
 refine vn [91] [w] (h := ?_)
 repeat x_close
 refine qdt ?_
 repeat x_close
 refine qdt ?_
 repeat x_close
 rw [show [92] ++ [w] = [92, w] from rfl, show [91] ++ [w] = [91, w] from rfl, qqz hw G, bne_self_eq_false]
 refine ⟨fun z => (nomatch z), fun ω => ?_⟩
 repeat x_close
 exact h
theorem law7 (C : c.Std) {w : Nat} {m : Int} {X : List XT} (hw : w = 32 ∨ w = 9) (G : GoodX X) (hu : AOs.Un os.length os) (h : K .next [a1, a2, a3, a4, some (.int m), a6, some (.str (S (yc w X))), some (.str (S (v9 w m X))), a9, a10, a11] os) :
  EX c (n + 9) (jn L) [a1, a2, a3, a4, some (.int m), a6, some (.str (S (yc w X))), a8, a9, a10, a11] os (jc 7) K := by
 refine x_a2 (qez hw G) fun p1 p2 p3 => ?_
 obtain ⟨r0, e0⟩ := qlv hw G
 refine q9 (qud hw m X) fun cs f e2 hf => ?_
 obtain ⟨a, ea⟩ := qon (w := w) X
 have hc := qnh hw G
 have e1 : (qp [] (pb w (t0X X) (LX X)).1 (pb w (t0X X) (LX X)).2).foldl (j0 m) ([], []) = ((stX w m X).1, cs ++ [(f, (pb w (t0X X) (LX X)).2)]) := by rw [p3, ← e2]; rfl
 have l1 := quc (w := w) (m := m) G
 have l2 := qpm (m := m) hw G
 have l3 := quz (m := m) hw G
 have l4 := qe7 (m := m) hw G
 have l5 := u0 (m := m) hw G
 have l6 := qxl G
 have l7 := ud (w := w) G
 have hrow : (stX w m X).1 ++ [qa (cs ++ [(f, (pb w (t0X X) (LX X)).2)])] = jz w m X := by rw [← e2]; rfl
 rw [e2] at l1 l3
 simp only [List.length_append] at l1
 have hsp : Txt.isspace (S (qa (cs ++ [(f, (pb w (t0X X) (LX X)).2)]))) = false := by
  rw [z0, ea]
  exact qo4 _ (qa cs ++ (f ++ (a ++ [41, 92]))) [] (by simp)
 conv => arg 6; whnf
 repeat x_close
 refine qij (n := n) C hw (P := (pb w (t0X X) (LX X)).1) (B := (pb w (t0X X) (LX X)).2) p1 p2 (by lia) e0 (qci G).1 (by lia) (by rw [p3]; exact hc) e1 ?_ (qqw hw G) (by rw [ea]; simp) (by lia) (by lia) (by lia) hsp (by rw [hrow]; lia) hu ?_
 ·rcases hf with rfl | rfl <;> intro x hx
  ·cases hx
  ·simp at hx; lia
 rw [hrow]
 repeat x_close
 exact h
theorem law8 (C : c.Std) {w : Nat} {m : Int} {X : List XT} (hw : w = 32 ∨ w = 9) (G : GoodX X) (h : K .next [a1, a2, a3, a4, a5, a6, a7, some (.str (S (v9 w m X))), some (.ref os.length), a10, a11] (os ++ [.list (sls (jz w m X))])) :
  EX c n (jn L) [a1, a2, a3, a4, a5, a6, a7, some (.str (S (v9 w m X))), a9, a10, a11] os (jc 8) K := by
 have hz : sizeLine = 16777216 := rfl
 have l := qn0 (m := m) hw G
 conv => arg 6; whnf
 repeat x_close
 refine qh3 (by rfl) (by rw [jb]; lia) ?_
 rw [show Txt.split (S (v9 w m X)) ("\n" : Str) = (jz w m X).map S from ql3 hw G, List.map_map]
 repeat x_close
 exact h
theorem law9 (C : c.Std) {w t : Nat} {m : Int} {X : List XT} (hw : w = 32 ∨ w = 9) (ht : t < c.B.toks) (ht0 : 0 < t) (G : GoodX X) {ao : AO} (hu : AO.Un 2 ao) (h : K .next [a1, a2, a3, some (.strT (S [w]) t), some (.int m), a6, some (.str (S (yc w X))), a8, some (.ref 1), a10, a11] [ao, .list (sls (jz w m X)), .list (sls (jz w m X))]) :
  EX c (n + 1) (jn L) [a1, a2, a3, some (.strT (S [w]) t), some (.int m), a6, some (.str (S (yc w X))), a8, some (.ref 1), a10, a11] [ao, .list (sls (jz w m X))] (jc 9) K := by
 have l7 := ud (w := w) G
 have l8 := qqf G
 have l9 := qt4 hw G
 have hs : ((psX w X).map List.length).sum ≤ 1000 := by rw [← wm, qpb]; exact l7
 conv => arg 6; whnf
 iterate 8 x_close
 refine zv (by dl_there) ?_
 repeat x_close
 refine qph C ht ht0 (by lia) (by lia) (ql1 hw G) (fun p hp x hx => (qsv hw G p hp x hx).1) (by lia) (by rw [qpc]; lia) (by lia) ⟨hu, jf _, trivial⟩ ?_
 rw [qrq hw G]
 have hsh := qan fun r hr x hx => (qjs (m := m) hw G r hr x hx).1
 refine uh (.ref rfl (qao (jz w m X))) (.ref rfl (qao (jz w m X))) hsh hsh (y_ea _ rfl ?_)
 rw [show PyData.eqv (.list (sld (jz w m X))) (.list (sld (jz w m X))) = true by simp only [PyData.eqv, qeh, beq_self_eq_true]]
 refine ⟨fun z => (nomatch z), fun ω => ?_⟩
 repeat x_close
 exact h
theorem qwx (C : c.Std) {w t : Nat} {m : Int} {ns : List Int} (hw : w = 32 ∨ w = 9) (hl : ns.length ≤ 12) (hu : AOs.Un os.length os) (hk : os[1]? = some (.list (sls (jz w m (XS ns))))) (h : K .next [a1, a2, a3, some (.strT (S [w]) t), a5, some (.str (S (patX w (XS ns)))), a7, a8, some (.ref 1), some (.str (S (dueX w m (XS ns)))), a11] os) :
  EX c (n + 4) (jn L) [a1, a2, a3, some (.strT (S [w]) t), a5, some (.str (S (patX w (XS ns)))), a7, a8, some (.ref 1), a10, a11] os (jc 10) K := by
 have G := qbi hl
 have hf := qbh ns
 have hlen := qm8 ns
 have hr := vd w noB (XS ns) 0 hf
 have hr2 := vd w (inB (DX w m (XS ns))) (XS ns) 0 hf
 have hrl := u0 (m := m) hw G
 have hpat : (patX w (XS ns)).length ≤ 228 := by rw [← qkd G]; lia
 have hsp := (qox (w := w) G).resolve_right (fun z => z hw)
 have hg := qke w (XS ns)
 have hseg := qn5 [w] ((segs (jv 0 (XS ns))).1 :: (segs (jv 0 (XS ns))).2.map (·.2))
 rw [← hg] at hseg
 simp only [List.length_cons, List.length_nil, List.map_cons, List.sum_cons, Nat.add_sub_cancel, Nat.zero_add, Nat.mul_one] at hseg
 conv => arg 6; whnf
 repeat x_close
 refine qis (n := n + 3) C hk hsp (fun r ω => qsg r w) (by lia) (by lia) (by lia) (by lia) (by lia) hu ?_
 rw [show begs w 0 ((jz w m (XS ns)).take ((jz w m (XS ns)).length - 1)) = DX w m (XS ns) by unfold DX jz; simp, qtu G]
 repeat x_close
 refine v0 C (qcc hw _ _ _ hf) (by lia) hu ?_
 rw [qva hw G]
 repeat x_close
 exact h
theorem qwy (C : c.Std) (hB : 0 < c.B.toks) {w : Nat} {m : Int} {X : List XT} (hw : w = 32 ∨ w = 9) (G : GoodX X) (hd : (dueX w m X).length ≤ 100000) (h : K .next [a1, a2, a3, a4, a5, a6, a7, some (.str (S (v9 w m X))), a9, some (.str (S (dueX w m X))), a11] os) :
  EX c n (jn L) [a1, a2, a3, a4, a5, a6, a7, some (.str (S (v9 w m X))), a9, some (.str (S (dueX w m X))), a11] os (jc 11) K := by
 conv => arg 6; whnf
 iterate 3 x_close
 refine qmh hB (by decide) (by rfl) ?_
 repeat x_close
 refine ⟨by rw [jb]; lia, ?_⟩
 rw [show Txt.replace (S (dueX w m X)) ("\\\n\\" : Str) ("\\\n" : Str) = S (v9 w m X) from ql2 hw G]
 refine qjo (y_ea _ rfl ?_)
 rw [bne_self_eq_false]
 refine ⟨fun z => (nomatch z), fun ω => ?_⟩
 repeat x_close
 exact h
end
end
section
theorem qtq (row : List Nat) : (Txt.slice (S row) (some (-1)) none == ("\\" : Str)) = l92 row := by
 rcases List.eq_nil_or_concat row with rfl | ⟨a, x, rfl⟩
 ·rfl
 ·rw [List.concat_eq_append]
  have h := StrLaws.sliceText_from_neg (x := S (a ++ [x])) (i := -1) (by decide) (by rw [jb]; simp; exact (fun a b => (Z.leB_iff a b).mp) 1 (↑a.length + 1) rfl)
  rw [show Txt.slice (S (a ++ [x])) (some (-1)) none = StrLaws.sliceText (S (a ++ [x])) (some (-1)) none from rfl, h]
  have e : ((-1 : Int) + (S (a ++ [x])).length).toNat = a.length := by rw [jb]; simp; lia
  have e2 : (((S (a ++ [x])).cps.toList.length : Int) - (-1 + (S (a ++ [x])).length)).toNat = 1 := by rw [jb, qm0]; simp; lia
  rw [e2, e, qm0, List.drop_left]
  show (S [x] == S [92]) = _
  rw [qfz]
  unfold l92
  rw [List.getLast?_append]
  rw [Bool.eq_iff_iff]; simp
noncomputable def pRow (v : Value) : Bool := match v with
 | .str s _ => l92 s.cps.toList
 | _ => false
noncomputable def gRow (_ v : Value) : Prop := ∃ t, v = .str (S [92]) t
theorem qef {ρ : List Addr} {h : Heap} : ∀ {rs : List (List Nat)} {vs : List Value}, VRs ρ h (sls rs) vs → ∀ {ys : List Value}, Paired gRow (vs.filter pRow) ys → ∀ ρ' h', VRs ρ' h' (sls (List.replicate (rs.filter l92).length [92])) ys
 | [], vs, V, ys, P, ρ', h' => by
  obtain rfl : vs = [] := V
  cases P; exact rfl
 | r :: rs, _, V, ys, P, ρ', h' => by
  refine qc V fun ω vs z255y z256y V1 => ?_; clear V; subst z255y; obtain ⟨t, rfl⟩ := z256y
  have e : pRow (.str (S r) t) = l92 r := by simp [pRow, S]
  by_cases q : l92 r = true
  ·rw [List.filter_cons_of_pos (by assumption)] at P
   rw [List.filter_cons_of_pos q]
   cases P with
   | cons hy P' =>
    obtain ⟨u, rfl⟩ := hy
    exact ⟨_, _, rfl, ⟨u, rfl⟩, qef V1 P' ρ' h'⟩
  ·rw [List.filter_cons_of_neg (by assumption)] at P
   rw [List.filter_cons_of_neg q]
   exact qef V1 P ρ' h'
section
variable {c : CX} {n : Nat} {L : Addr} {os : List AO} {K : AF → Loc → List AO → Prop} {a1 a2 a3 a4 a5 a6 a7 a8 a9 a10 a11 : Option AV}
theorem qrp {A : Around} {E' : Value → Shared → Prop} {s : Shared} {env : Env} {m : Str → Option Value} {px p1 p2 p3 p4 p5 p6 : Pos} {whole : Sem Value} {k1 k2 : Nat} {row : List Nat} {t : Tok} (hn : s.heap.Ns env.locals m) (hx : m "row" = some (.str (S row) t)) (hl : row.length ≤ 100000) (hk : env.scope.kind = .function) (hlk : env.scope.names.lookup ("row" : Str) = some NameKind.local) :
  wpAny (MM c.w) A (isTrue (.Compare (.Subscript (.Name "row" px) (.Slice (some (.UnaryOp .USub (.Constant (.int 1) k1 p1) p2)) none none p3) p4) [.Eq] [.Constant (.str "\\") k2 p5] p6) env whole) (fun b s₄ => b = l92 row ∧ Keeps s s₄) E' s := by
 refine wpAny_isTrue_Compare1 (Subscript_ (ldG hn hx (wpAny_Slice ?_) (hk := hk) (hl := hlk))) (by with_unfolding_all rfl)
 show wpAny _ A (eval (.UnaryOp .USub (.Constant (.int 1) k1 p1) p2) _) _ _ _
 refine wpAny_UnaryOp (wpAny_Constant_int (neg_int ?_))
 rw [evalPart_none]
 refine wpAny_pure ?_
 refine wpAny_pure ?_
 have kp := qf (h := s.heap) (ob := qkm (.int (-1) (s.toks + 1)) .none)
 refine xr (typeIs_str _ _ t) F.slot_str_getitem.lookup (wpAny_getItem_str_slice (l := some (-1, s.toks + 1)) (u := none) (st := none) ⟨_, Heap.get?_push_size _ rfl, rfl, rfl⟩ rfl
  (post_val_or_str ⟨Nat.le_trans (Txt.slice_le _ _ _) (by rw [jb]; have hz : sizeLine = 16777216 := rfl; lia), fun t' k => ?_⟩))
 refine Constant_str (eq_str (wpAny_truthy_bool ⟨?_, _, _, rfl, fun b o e => kp b o e⟩))
 exact qtq row
set_option maxHeartbeats 1000000 in
theorem qwz (C : c.Std) {rs : List (List Nat)} {r : List Nat} (hr : ∀ x ∈ rs, x.length ≤ 100000) (hl : rs.length ≤ 10000) (hos : os.length = 3) (hk : os[1]? = some (.list (sls (rs ++ [r])))) (h : K .next [a1, a2, a3, a4, a5, a6, a7, a8, some (.ref 1), a10, some (.ref 4)] (os ++ [.list (sls rs), .list (sls (List.replicate (rs.filter l92).length [92]))])) :
  EX c n (jn L) [a1, a2, a3, a4, a5, a6, a7, a8, some (.ref 1), a10, a11] os (jc 12) K := fun A hA ρ s F => by
 have hz : sizeLine = 16777216 := rfl
 obtain ⟨e, he⟩ : ∃ e, e = jn L := ⟨_, rfl⟩
 rw [← he] at F ⊢
 obtain ⟨st, hst⟩ : ∃ st, jc 12 = st := ⟨_, rfl⟩
 rw [hst]
 have hst' := hst
 conv at hst' => lhs; whnf
 subst hst'
 refine qbl (cl := []) (k := os.length) (xs := sls rs) (zs := sls (List.replicate (rs.filter l92).length [92])) (os2 := os ++ [.list (sls rs)]) hA F pRow gRow ?_ (by simp; lia) ?_ ?_ ?_ ?_ ?_ ?_ ?_ ?_ (fun ρ h vs ys V pr => qef V pr) (by rw [List.append_assoc]; exact h)
 ·subst he
  refine (?_ : EV c n _ _ _ _ _) A hA ρ s F
  repeat x_close
  refine qf0 hk (by simp; lia) ?_
  rw [show (sls (rs ++ [r])).take ((sls (rs ++ [r])).length - 1) = sls rs by simp [List.map_take]]
  exact (y_a2 rfl (by exact List.getElem?_concat_length) rfl)
 ·subst he; kernel_rfl
 ·rfl
 ·decide
 ·rfl
 ·decide
 ·rfl
 ·subst he
  have : (os ++ [AO.list (sls rs)]).length = 4 := by simp [hos]
  rw [this]
  exact StAt.a10
 ·intro ρ2 s1 s2 vs it F2 E2 rv kp hit
  have row : ∀ (i : Nat) (v : Value), vs.toArray[i]? = some v → ∃ x t, x.length ≤ 100000 ∧ v = .str (S x) t := by
   intro i v hv
   have hv' : vs[i]? = some v := by simpa using hv
   have h1 := (List.getElem?_eq_some_iff.mp hv').1
   rw [rv.length, List.length_map] at h1
   refine x_ea (rv.get (x := .str (S rs[i])) (n := i) (by rw [List.getElem?_map, List.getElem?_eq_getElem h1]; rfl)) fun u hu' z254y => ?_; obtain ⟨t, rfl⟩ := z254y
   rw [hu'] at hv'; cases hv'
   exact (qho _ t (hr _ (List.getElem_mem h1)) rfl)
  refine ⟨fun CC i v s₃ m₃ E' ω hv hn hx ω ω => ?_, fun CC i v s₃ m₃ E' ω hv ω hn hx hk' ω => ?_⟩
  ·refine q9 (row i v hv) fun x t hxl z253y => ?_; subst z253y
   rw [List.forIn_cons]
   refine wpAny_bind ?_
   rw [if_pos rfl]
   refine wpAny_bind (wpAny_mono (qrp hn hx hxl rfl (by kernel_rfl)) (fun b s4 z => ?_) fun ω ω z => z)
   refine wpAny_pure ?_
   dsimp only
   rw [List.forIn_nil]
   exact wpAny_pure ⟨by rw [z.1]; simp [pRow, S], z.2⟩
  ·exact Constant_str ⟨⟨_, rfl⟩, _, _, rfl, fun ω ω e => e⟩
end
end
section
section
variable {c : CX} {n : Nat} {e : EF} {loc : Loc} {os : List AO} {A : Around} {ρ : List Addr} {s : Shared}
theorem qv9 {K : AV → List AO → Prop} {f : Expr} {args : List Expr} {p : Pos} (hA : AR A n) (F : FR c e loc os ρ s) (hp : ∀ env, (backTo p (starEach args env)).all (!·.1) = true)
  (h : EV c n e loc os f fun fa os1 => EVs c n e loc os1 args fun as os2 => Kp c fa ∧ ∀ ρ2 s2 vf vs, FR c e loc os2 ρ2 s2 → VR ρ2 s2.heap fa vf → VRs ρ2 s2.heap as vs → wpAny (MM c.w) A (call vf vs []) (Post c ρ2 s2 K) NoE s2)
  (he : ∀ env, eval (.Call f args [] p) env = (do callWith p (← eval f env) [] (backTo p (starEach args env)) (backToKw p (keywordEach [] env))) := by intro ω; rfl) : wpAny (MM c.w) A (eval (.Call f args [] p) e.env) (Post c ρ s K) NoE s := by
 refine Call_ (wpAny_mono (h A hA ρ s F) (fun vf s1 y => ?_) fun ω ω z => z) (he _)
 obtain ⟨fa, os1, ρ1, k1, H1, E1, r1⟩ := y
 have F1 := F.ext E1 H1
 refine cw (hp _) (wpAny_mono (k1 A hA p ρ1 s1 F1) (fun vs s2 y => ?_) fun ω ω z => z)
 obtain ⟨as, os2, ρ2, ⟨kk, kc⟩, H2, E2, r2⟩ := y
 have r1' := H1.vr E2 r1
 exact ⟨kk os2 ρ2 s2 vf H2 r1', wpAny_mono (kc ρ2 s2 vf vs (F1.ext E2 H2) r1' r2) (fun v s3 y => Post.from (E1.trans E2) y) fun ω ω z => z⟩
theorem CmpA {K : AV → List AO → Prop} {l r : Expr} {op : CmpOp} {p : Pos} (hA : AR A n) (F : FR c e loc os ρ s) (hm : behindInMarks op r = false)
  (h : wpAny (MM c.w) A (eval l e.env) (Post c ρ s fun a os1 => EV c n e loc os1 r fun b os2 => TV2 c n (compareOp op) a b os2 K) NoE s) : wpAny (MM c.w) A (eval (.Compare l [op] [r] p) e.env) (Post c ρ s K) NoE s := by
 show wpAny _ A (do compareChain p (← eval l e.env) [op] (markedEach [op] [r] (evalEach [r] e.env))) _ _ s
 have q : markedEach [op] [r] (evalEach [r] e.env) = [eval r e.env] := by
  show [markedBehindIn op r (eval r e.env)] = _
  unfold markedBehindIn; rw [hm]
 rw [q]
 refine wpAny_bind (wpAny_mono h (fun va s1 x => ?_) fun ω ω z => z)
 obtain ⟨a, os1, ρ1, k1, H1, E1, r1⟩ := x
 show wpAny _ A (do let rv ← holding [va] (eval r e.env); standAt p; operate [va, rv] (compareOp op va rv)) _ _ s1
 refine wpAny_bind (wpAny_holding (wpAny_mono (k1 A hA ρ1 s1 (F.ext E1 H1)) (fun vb s2 x => ?_) fun ω ω z => z))
 obtain ⟨b, os2, ρ2, k2, H2, E2, r2⟩ := x
 exact wpAny_bind (wpAny_standAt (wpAny_operating (wpAny_mono (k2 A hA ρ2 s2 va vb H2 (H1.vr E2 r1) r2) (fun v s3 y => Post.from (E1.trans E2) y) fun ω ω z => z)))
theorem IfA {K : AF → Loc → List AO → Prop} {l r : Expr} {op : CmpOp} {p p2 : Pos} {a b : List Stmt} (hA : AR A n) (F : FR c e loc os ρ s) (hm : behindInMarks op r = false)
  (h : wpAny (MM c.w) A (eval l e.env) (Post c ρ s fun va os1 => EV c n e loc os1 r fun vb os2 => TV2 c n (compareOp op) va vb os2 fun v os3 => v = .bool false ∧ EXs c n e loc os3 b K) NoE s) :
  wpAny (MM c.w) A (exec (.If (.Compare l [op] [r] p) a b p2) e.env) (PostF c e ρ s K) NoE s := by
 refine wpAny_If (wpAny_isTrue_Compare1 (wpAny_mono h (fun va s1 y => ?_) fun ω ω z => z) hm)
 obtain ⟨x, os1, ρ1, k1, H1, E1, r1⟩ := y
 refine wpAny_mono (k1 A hA ρ1 s1 (F.ext E1 H1)) (fun vb s2 y => ?_) fun ω ω z => z
 obtain ⟨y, os2, ρ2, k2, H2, E2, r2⟩ := y
 refine wpAny_mono (k2 A hA ρ2 s2 va vb H2 (H1.vr E2 r1) r2) (fun v s3 y => ?_) fun ω ω z => z
 obtain ⟨ω, os3, ρ3, ⟨rfl, k3⟩, H3, E3, r3⟩ := y
 rw [show v = .bool false from r3]
 have E := (E1.trans E2).trans E3
 exact wpAny_truthy_bool (wpAny_mono (k3 A hA ρ3 s3 (F.ext E H3)) (fun v s3 y => PostF.from E.up y) fun ω ω z => z)
theorem RetA {K : AF → Loc → List AO → Prop} {x : Expr} {p : Pos} (F : FR c e loc os ρ s) (h : wpAny (MM c.w) A (eval x e.env) (Post c ρ s fun a os1 => K (.ret a) loc os1) NoE s) :
  wpAny (MM c.w) A (exec (.Return (some x) p) e.env) (PostF c e ρ s K) NoE s := by
 refine wpAny_Return_some (wpAny_mono h (fun va s1 y => ?_) fun ω ω z => z)
 obtain ⟨a, os1, ρ1, k, H1, E1, r1⟩ := y
 exact ⟨.ret a, loc, os1, ρ1, k, F.ext E1 H1, E1.up, va, rfl, r1⟩
end
theorem qpo (k z : Nat) : j5 (List.replicate k (S [z])) = sls (List.replicate k [z]) := by simp
section
variable {c : CX} {n : Nat} {L : Addr} {loc : Loc} {os : List AO} {A : Around} {ρ : List Addr} {s : Shared}
theorem qdr (C : c.Std) {K : AV → List AO → Prop} {x y : Str} {xa xb : List Nat} {k z : Nat} {p1 p2 p3 p4 p5 p6 p7 p8 : Pos} (hA : AR A (n + 1)) (hfr : A.frames = some [(jn L).env]) (F : FR c (jn L) loc os ρ s)
  (hx : LkAt (jn L).ls loc x (.str (S xa))) (hy : LkAt (jn L).ls loc y (.str (S xb))) (hxl : xa.length ≤ 10000) (hyl : xb.length ≤ 10000) (hd : (yo xa).reverse.foldl xh ([], yo xb) = (List.replicate k (S [z]), [])) (hu : AOs.Un os.length os)
  (h : K (.tup [.ref (os.length + 2), .ref (os.length + 1)]) (os ++ [.list [], .list [], .list (sls (List.replicate k [z]))])) (hdx : (x == ("__debug__" : Str)) = false := by rfl) (hdy : (y == ("__debug__" : Str)) = false := by rfl) :
  wpAny (MM c.w) A (eval (.Call (.Name "unorderable_list_difference" p1) [.Call (.Name "list" p2) [.Name x p3] [] p4, .Call (.Name "list" p5) [.Name y p6] [] p7] [] p8) (jn L).env) (Post c ρ s K) NoE s := by
 have hz : sizeLine = 16777216 := rfl
 refine qv9 hA F (fun ω => rfl) ?_
 x_close
 x_close
 x_close
 x_close
 x_close
 refine zv hx ?_
 repeat x_close
 refine qda (by lia) ?_
 x_close
 x_close
 x_close
 x_close
 refine zv hy ?_
 repeat x_close
 refine qda (by lia) ?_
 repeat x_close
 intro ρ2 s2 vf vs F2 rf V
 obtain rfl : vf = .ref 249 := rf
 refine x_ea F2.ns fun m z257y hm => ?_; refine qw z257y fun o es ep ho ho2 ho3 => ?_; clear z257y
 have e1 : (os ++ [AO.list (List.map AV.str (List.map (fun ch => S [ch]) xa))]).length = os.length + 1 := by simp
 rw [e1] at V
 rw [List.append_assoc] at F2
 change FR c (jn L) loc (os ++ [.list (j5 (yo xa)), .list (j5 (yo xb))]) ρ2 s2 at F2
 refine qma (n := n) (ke := os.length) (ka := os.length + 1) (es := yo xa) (as := yo xb) C hA hfr rfl (by exact not_eq_of_beq_eq_false rfl) (qi7 o es ep ho ho2) F2.out F2.new F2.hr V (by simp) (by simp) (by exact Nat.ne_add_one os.length) (by simpa using hxl) (by simpa using hyl) ?_ ?_
 ·refine AOs.Un_app.mpr ⟨AOs.Un.le (by simp) _ hu, u3 _, u3 _, trivial⟩
 rw [hd]
 have e2 : ((os ++ [AO.list (j5 (yo xa)), AO.list (j5 (yo xb))]).set os.length (.list [])).set (os.length + 1) (.list (j5 [])) ++ [AO.list (j5 (List.replicate k (S [z])))] = os ++ [.list [], .list [], .list (sls (List.replicate k [z]))] := by
  rw [qpo, List.set_append_right _ _ (Nat.le_refl _), List.set_append_right _ _ (Nat.le_succ _)]
  simp
 have e3 : (os ++ [AO.list (j5 (yo xa)), AO.list (j5 (yo xb))]).length = os.length + 2 := by simp
 rw [e2, e3]
 exact h
theorem qed (xs : List (List Nat)) {i j : Nat} (hi : os[i]? = some (.list (sls xs))) (hj : os[j]? = some (.list [])) : AVD os (.tup [.ref i, .ref j]) (.tuple [.list (sld xs), .list []]) :=
 .tup (.cons (.ref hi (qao xs)) (.cons (.ref hj .nil) .nil))
theorem qkl {xs : List (List Nat)} (h : ∀ x ∈ xs, asc x) : SeqAt.shaped (.tuple [.list (sld xs), .list []]) = true := by
 obtain ⟨a, b⟩ := qad h
 simp [SeqAt.shaped, PyData.canLay0, PyData.canLayAll0, PyData.depth, PyData.depthAll, a, b]
theorem qsj (xs : List (List Nat)) : PyData.eqv (.tuple [.list (sld xs), .list []]) (.tuple [.list (sld xs), .list []]) = true := by
 simp only [PyData.eqv, PyData.eqvAll, qeh, beq_self_eq_true, Bool.and_self]
theorem qnc (k z : Nat) (hz : z < 128) : ∀ x ∈ List.replicate k [z], asc x := fun x hx => by
 rw [(List.mem_replicate.mp hx).2]
 intro y hy
 rw [List.mem_singleton.mp hy]; exact hz
theorem qq7 (k : Nat) (x : AV) : (List.replicate k [x]).flatten = List.replicate k x := by
 exact List.flatten_replicate_singleton
variable {a1 a2 a3 a4 a5 a6 a7 a8 a9 a10 a11 : Option AV} {K : AF → Loc → List AO → Prop}
theorem qw0 (C : c.Std) {xa xb : List Nat} {rs : List (List Nat)} (hA : AR A (n + 1)) (hfr : A.frames = some [(jn L).env]) (hxl : xa.length ≤ 10000) (hyl : xb.length ≤ 10000) (hrl : rs.length ≤ 10000) (hk : os[1]? = some (.list (sls rs))) (hd : (yo xa).reverse.foldl xh ([], yo xb) = (List.replicate (rs.length - 1) (S [10]), [])) (hr1 : 1 ≤ rs.length) (hu : AOs.Un os.length os)
  (F : FR c (jn L) [a1, a2, a3, a4, a5, a6, some (.str (S xb)), some (.str (S xa)), some (.ref 1), a10, a11] os ρ s)
  (h : ∀ more, AOs.Un (os.length + more.length) more → K .next [a1, a2, a3, a4, a5, a6, some (.str (S xb)), some (.str (S xa)), some (.ref 1), a10, a11] (os ++ more)) :
  wpAny (MM c.w) A (exec (jc 13) (jn L).env) (PostF c (jn L) ρ s K) NoE s := by
 have hz : sizeLine = 16777216 := rfl
 obtain ⟨st, hst⟩ : ∃ st, jc 13 = st := ⟨_, rfl⟩
 rw [hst]
 conv at hst => lhs; whnf
 subst hst
 refine IfA hA F (by with_unfolding_all rfl) ?_
 refine qdr C hA hfr F (by dl_there) (by dl_there) hxl hyl hd hu ?_
 refine zu ?_
 x_close
 x_close
 refine j7 ?_
 repeat x_close
 refine ⟨by decide, ?_⟩
 repeat x_close
 refine w7 (xs := sls rs) (by rw [List.append_assoc]; exact xf hk) (by simp; lia) ?_
 repeat x_close
 have e1 : (os ++ [AO.list [], AO.list [], AO.list (sls (List.replicate (rs.length - 1) [10]))]).length = os.length + 3 := by simp
 rw [e1, List.append_assoc, show ((sls rs).length : Int) - 1 = ((rs.length - 1 : Nat) : Int) by simp; lia]
 refine qk0 (xs := [.str ("\n" : Str)]) (by simp) (by simp) (by lia) (by simp; lia) ?_
 rw [Int.toNat_natCast, qq7]
 x_close
 refine j7 ?_
 repeat x_close
 refine ⟨by simp, ?_⟩
 repeat x_close
 refine ⟨by exact (fun {α} {l} {i} => List.getElem?_eq_none_iff.mp) rfl, ?_⟩
 have e2 : (List.replicate (rs.length - 1) (AV.str ("\n" : Str))) = sls (List.replicate (rs.length - 1) [10]) := by
  show List.replicate (rs.length - 1) (AV.str (S [10])) = _
  exact Eq.symm List.map_replicate
 rw [e2]
 have hasc := qnc (rs.length - 1) 10 (by decide)
 generalize List.replicate (rs.length - 1) [10] = R at *
 refine uh (qed R (by simp) (by simp)) (qed R (by simp) (by exact List.getElem?_concat_length)) (qkl hasc) (qkl hasc) ⟨by rw [qsj]; rfl, ?_⟩
 repeat x_close
 rw [List.append_assoc, List.append_assoc]
 exact h _ ⟨trivial, trivial, jf _, ⟨trivial, trivial⟩, jf _, trivial, trivial⟩
theorem qw1 (C : c.Std) {xa xb : List Nat} {k : Nat} (hA : AR A (n + 1)) (hfr : A.frames = some [(jn L).env]) (hxl : xa.length ≤ 10000) (hyl : xb.length ≤ 10000) (hk : os[4]? = some (.list (sls (List.replicate k [92])))) (hd : (yo xa).reverse.foldl xh ([], yo xb) = (List.replicate k (S [92]), [])) (hu : AOs.Un os.length os)
  (F : FR c (jn L) [a1, a2, a3, a4, a5, a6, a7, some (.str (S xb)), a9, some (.str (S xa)), some (.ref 4)] os ρ s)
  (h : ∀ os', K (.ret (.bool true)) [a1, a2, a3, a4, a5, a6, a7, some (.str (S xb)), a9, some (.str (S xa)), some (.ref 4)] os') :
  wpAny (MM c.w) A (exec (jc 14) (jn L).env) (PostF c (jn L) ρ s K) NoE s := by
 have hz : sizeLine = 16777216 := rfl
 have hkl : 4 < os.length := (List.getElem?_eq_some_iff.mp hk).1
 obtain ⟨st, hst⟩ : ∃ st, jc 14 = st := ⟨_, rfl⟩
 rw [hst]
 conv at hst => lhs; whnf
 subst hst
 refine RetA F (CmpA hA F (by with_unfolding_all rfl) ?_)
 refine qdr C hA hfr F (by dl_there) (by dl_there) hxl hyl hd hu ?_
 refine zu ?_
 x_close
 x_close
 x_close
 refine j7 ?_
 repeat x_close
 refine ⟨by simp, ?_⟩
 repeat x_close
 refine ⟨by exact (fun {α} {l} {i} => List.getElem?_eq_none_iff.mp) rfl, ?_⟩
 have e1 : (os ++ [AO.list [], AO.list [], AO.list (sls (List.replicate k [92]))]).length = os.length + 3 := by simp
 rw [e1, List.append_assoc]
 have hasc := qnc k 92 (by decide)
 generalize List.replicate k [92] = R at *
 refine qm2 (qed R (by simp) (by simp)) (qed R (xf hk) (by simp)) (qkl hasc) (qkl hasc) ?_
 rw [qsj]
 exact h _
end
end
section
theorem qrf : qu (jj 24) = [jc 0, jc 1, jc 2, jc 3, jc 4, jc 5, jc 6, jc 7, jc 8, jc 9, jc 10, jc 11, jc 12] ++ [jc 13, jc 14] := by kernel_rfl
theorem qts {a : Nat} : ∀ (l : List Nat), a ∈ l → a ≤ l.sum
 | x :: l, h => by
  exact vc h
theorem qt0 (w : Nat) (b : Nat → Bool) (x : Nat) : (phi w b x).length ≤ 3 := by
 unfold phi
 repeat (first | split | simp)
theorem qsi {w : Nat} {m : Int} {X : List XT} (G : GoodX X) : (dueX w m X).length ≤ 3000 := by
 have h : ∀ (T : List Nat), (T.flatMap (phi w (inB (DX w m X)))).length ≤ 3 * T.length := by
  intro T
  induction T with
  | nil => exact Nat.le_mul_self (List.flatMap (phi w (inB (DX w m X))) []).length
  | cons x T ih =>
   have := qt0 w (inB (DX w m X)) x
   rw [List.flatMap_cons, List.length_append, List.length_cons]; lia
 have h1 := h (tX X)
 have := G.l
 unfold dueX
 lia
section
variable {c : CX} {A : Around} {s : Shared}
noncomputable def qv7 (l : Addr) (ns : List Int) (lc : Loc) (o : List AO) : Prop :=
 ∃ (w t : Nat) (m : Int), (w = 32 ∨ w = 9) ∧ lc = [some (.glob (.ref l)), some (.ref 0), some (.int ns.sum), some (.strT (S [w]) t), some (.int m), some (.str (S (patX w (XS ns)))), some (.str (S (yc w (XS ns)))), some (.str (S (v9 w m (XS ns)))), some (.ref 1), some (.str (S (dueX w m (XS ns)))), some (.ref 4)] ∧
  o = [.list (qb2 ns), .list (sls (jz w m (XS ns))), .list (sls (jz w m (XS ns))), .list (sls (stX w m (XS ns)).1), .list (sls (List.replicate ((stX w m (XS ns)).1.filter l92).length [92]))]
theorem qoo (C : c.Std) {L l : Addr} {vs : List Value} {ns : List Int} (hB : c.B.heap.IsList l vs.toArray) (hi : IntsAre vs ns) (hl : ns.length ≤ 63) :
  EXs c 19 (jn L) [some (.glob (.ref l)), none, none, none, none, none, none, none, none, none, none] [] [jc 0, jc 1, jc 2, jc 3, jc 4, jc 5, jc 6, jc 7, jc 8, jc 9, jc 10, jc 11, jc 12] fun f lc o => f = .next ∧ qv7 l (ns.take 12) lc o := by
 refine qx (law0 hB hi hl ?_)
 have h12 : (ns.take 12).length ≤ 12 := by simp; exact Nat.min_le_left 12 ns.length
 generalize ns.take 12 = nl at h12 ⊢
 refine qx (law1 ?_ C)
 refine law2 C fun w t hw ht h0 => ?_
 have C' := C.tk (t + 1)
 have ht' : t < (c.tk (t + 1)).B.toks := Nat.lt_succ_self t
 have hB' : 0 < (c.tk (t + 1)).B.toks := Nat.succ_pos t
 generalize c.tk (t + 1) = c' at C' ht' hB' ⊢
 have G := qbi h12
 refine qx (law3 C' fun m => ?_)
 refine qx (law4 (n := 18) C' h12 ?_)
 refine qx (law5 (n := 15) C' hw h12 ⟨yp _, trivial⟩ ?_)
 refine qx (law6 C' hw G ?_)
 refine qx (law7 (n := 10) C' hw G ⟨yp _, trivial⟩ ?_)
 refine qx (law8 C' hw G ?_)
 refine qx (law9 (n := 18) C' hw ht' h0 G (yp _) ?_)
 refine qx (qwx (n := 15) C' hw h12 ⟨yp _, jf _, jf _, trivial⟩ rfl ?_)
 refine qx (qwy C' hB' hw G (Nat.le_trans (qsi G) (by decide)) ?_)
 have hrs : ∀ x ∈ (stX w m (XS nl)).1, x.length ≤ 100000 := fun x hx => by
  have h1 := qe7 (m := m) hw G
  have h2 : x.length ≤ ((stX w m (XS nl)).1.map List.length).sum := qts _ (List.mem_map_of_mem hx)
  simp only [jz, List.map_append, List.sum_append] at h1
  lia
 refine qx (qwz C' (rs := (stX w m (XS nl)).1) (r := qa (stX w m (XS nl)).2) hrs (Nat.le_trans (qpm hw G) (by decide)) rfl rfl ?_)
 refine xz ⟨rfl, w, t, m, hw, rfl, rfl⟩
theorem qrg (C : c.Std) {l : Addr} {vs : List Value} {ns : List Int} (hA : AR A 20) (hfr : A.frames = some []) (hB : c.B.heap.IsList l vs.toArray) (hi : IntsAre vs ns) (hl : ns.length ≤ 63) (H : c.HR [] [] s) :
  wpAny (MM c.w) A (call (.ref 280) [.ref l] []) (Post c [] s fun a os => a = .bool true ∧ os = []) NoE s := by
 refine qjv C.ok (qwf C.hK) (args := [.glob (.ref l)]) hA H ⟨_, _, rfl, rfl, rfl⟩ (BindsTo.of_eq rfl) fun s1 F1 E1 => ?_
 have hA1 : AR (A.deeper (jn s.heap.objs.size).env) 19 := hA.deeper _
 have hfr1 : (A.deeper (jn s.heap.objs.size).env).frames = some [(jn s.heap.objs.size).env] := by
  show A.frames.map _ = _
  rw [hfr]; rfl
 change wpAny _ (A.deeper (jn s.heap.objs.size).env) (execs (qu (jj 24)) (jn s.heap.objs.size).env) _ _ _
 generalize A.deeper (jn s.heap.objs.size).env = A1 at hA1 hfr1 ⊢
 rw [qrf]
 refine qnp hA1 F1 (qoo C hB hi hl) fun lc o ρ2 s2 k F2 E2 => ?_
 have h12 : (ns.take 12).length ≤ 12 := by simp; exact Nat.min_le_left 12 ns.length
 generalize ns.take 12 = nl at h12 k
 refine qw k fun w t m hw z258y z259y => ?_; clear k; subst z258y; subst z259y
 have G := qbi h12
 have b1 := qn0 (m := m) hw G
 have b2 := ud (w := w) G
 have b3 := qsi (w := w) (m := m) G
 have b4 := u0 (m := m) hw G
 have hr1 : (jz w m (XS nl)).length - 1 = (stX w m (XS nl)).1.length := by simp [jz]
 refine wpAny_execs_cons (wpAny_mono (qw0 (n := 18) (K := fun f lc o => f = .next ∧ ∃ more, lc = _ ∧ o = _ ++ more ∧ AOs.Un (5 + more.length) more) C hA1 hfr1 (by lia) (by lia) (rs := jz w m (XS nl)) (by lia) rfl (by rw [hr1]; exact qn1 hw G) (by simp [jz]) ?hu F2 fun more hm => ⟨rfl, more, rfl, rfl, hm⟩) (fun f s3 z => ?_) fun ω ω z => z)
 case hu => exact ⟨yp _, jf _, jf _, jf _, jf _, trivial⟩
 obtain ⟨ω, ω, ω, ρ3, ⟨rfl, more, rfl, rfl, hm⟩, F3, E3, rfl⟩ := z
 refine wpAny_execs_cons (wpAny_mono (qw1 (n := 18) (K := fun f lc o => f = .ret (.bool true)) C hA1 hfr1 (by lia) (by lia) rfl (qq2 hw G) ?_ F3 fun ω => rfl) (fun f s4 z => ?_) fun ω ω z => z)
 ·exact AOs.Un_app.mpr ⟨⟨yp _, jf _, jf _, jf _, jf _, trivial⟩, AOs.Un.le (by simp; lia) _ hm⟩
 obtain ⟨ω, l4, o4, ρ4, rfl, F4, E4, v, rfl, rv⟩ := z
 exact ⟨.ret (.bool true), l4, o4, ρ4, ⟨[], o4, rfl, Nat.zero_le _, trivial, trivial, rfl, rfl⟩, F4, E3.trans E4, v, rfl, rv⟩
end
end
section
open PySem PySem.W PyProof.Rows PySem.Calls PySem.Spec

noncomputable def KX (P : Params) : Frag := KF P ++ [(200, { cls := .none, data := .fields #[] }), (207, { cls := .none, data := .fields #[] }), (64, { cls := .none, data := .fields #[] })]
noncomputable def KXas : List Addr := KFas ++ [200, 207, 64]
theorem qww {P : Params} {h : Heap} (X : (KX P).In h) : (KF P).In h := fun a o e => X a o (by rw [KX, List.lookup_append, e]; rfl)
theorem qvi {P : Params} : ((KF P).all fun p => match p.2.cls with | .none => p.1 == 2 | _ => true) = true := by kernel_rfl
theorem qwv {P : Params} (a : Addr) (o : Obj) (e : (KF P).lookup a = some o) : o.cls ≠ .none ∨ a = cStatics := by
 have hm : (a, o) ∈ KF P := by
  generalize KF P = K at e
  exact mem_of_lookupK e
 have := List.all_eq_true.mp (qvi (P := P)) _ hm
 by_cases hc : o.cls = .none
 ·dsimp only at this; rw [hc] at this; exact .inr (show a = 2 from eq_of_beq (show (a == 2) = true from this))
 ·exact .inl hc
noncomputable def gtOk (P : Params) : Bool := GT.all fun p => match nsIn (KF P) 3 p.1 with
 | some (some v) => decide (v = p.2)
 | some none => decide (bootBuiltins p.1 = some p.2) && !(p.1 == ("__name__" : Str))
 | none => false
theorem qwq (P : Params) : gtOk P = true := by kernel_rfl
theorem qog {R : WRecords} {cl : Str → Option Addr} {h : Heap} : ∀ {xs : List WData} {vs : List Value} {as : List Addr}, WShape.hasItems R xs .int = true → ReadsAllW R cl h vs xs as → ∃ ns, IntsAre vs ns ∧ ns.length = xs.length
 | [], _, _, _, r => by cases r; exact (y_ea [] .nil rfl)
 | x :: xs, _, _, hx, r => by
  cases r with
  | cons r1 r2 =>
  have hx := Bool.and_eq_true_iff.mp (show (WShape.has R x .int && WShape.hasItems R xs .int) = true from hx)
  obtain ⟨i, rfl⟩ := hasW_int hx.1
  refine x_ea (qog hx.2 r2) fun ns h1 h2 => ?_
  cases r1 with
  | int _ t => exact (y_ea (i :: ns) (.cons _ _ h1) (by exact (fun {a b} => Nat.succ_inj.mpr) h2))
theorem qpr {B : Shared} {t : Tab} {oc : Obj} {vs : Array Value} {file : Str} {tf flags tg inF text tt} (hc : B.heap.get? t.c = some oc) (hcl : oc.cls = .type "code") (hd : oc.data = .fields vs) (h11 : vs[11]? = some (.ref t.P)) (h11' : vs.getD 11 .none = .ref t.P) (h18 : vs.getD 18 .none = .str file tf) (h7 : vs.getD 7 .none = .int flags tg) (h9 : vs.getD 9 .none = .bool inF) (h10 : vs.getD 10 .none = .int text tt)
  (hP : B.heap.get? t.P = some { cls := .none, data := .fields #[] }) (hne : t.c ≠ t.P) (hm : t.made = []) : TabInv B.heap B.heap t := by
 have at0 : B.heap.TableAt t.c t.P #[] := ⟨(yn oc vs hc hcl hd h11), hP⟩
 refine ⟨at0, #[], ⟨oc, vs, file, tf, flags, tg, inF, text, tt, _, hc, hd, h11', h18, h7, h9, h10, hP, rfl, ?_, hne⟩, at0, fun m h => by rw [hm] at h; cases h⟩
 exact trivial
theorem qtr {w : World} {s₀ s₁ : Shared} {p : Program} {loose : List Str} {mean : ExcName → Option Value} {mg mb : Str → Option Value} (T : Top p loose mean mg mb s₁.heap) (Y : (KX w.params).In s₁.heap) (hg : s₁.gens = #[]) {a : Addr} (hmg : mg "law" = some (.ref a)) {args : List WData} {vals : List Value} {as : List Addr}
  (hpre : PySem.Challenge.rw_ik0126_01.row.toRowW.claim.pre args = true) (hrd : ReadsAllW PySem.Challenge.rw_ik0126_01.row.toRowW.records (classAt s₀.heap) s₁.heap vals args as) :
  wpAny (model PySem.Challenge.rw_ik0126_01.row.toRowW.prog w) callerA (call (.ref a) vals []) (fun v s' => GoodWG PySem.Challenge.rw_ik0126_01.row.toRowW.claim (classAt s₀.heap) (ExcName.means s₀.heap) args s₁ (.ok (.ret v)) s')
   (fun e s' => GoodWG PySem.Challenge.rw_ik0126_01.row.toRowW.claim (classAt s₀.heap) (ExcName.means s₀.heap) args s₁ (.error e) s') s₁ := by
 have X := qww Y
 have ha : mg "law" = some (.ref 280) := mg_of X T.g (by kernel_rfl)
 obtain rfl : a = 280 := by rw [hmg] at ha; cases ha; rfl
 obtain ⟨h1, h2⟩ := pre_splitW hpre
 refine qc (hasAllW_cons h1) fun d r z185y hd hr => ?_; subst z185y
 obtain rfl := hasAllW_nil hr
 refine x_ea (hasW_list hd) fun xs z184y hx => ?_; subst z184y
 cases hrd with
 | cons r1 r2 =>
 cases r2
 cases r1 with
 | @list l o vs k _ as ho hc hdt hall =>
 refine x_ea (qog hx hall) fun ns hi hn => ?_
 have hl : ns.length ≤ 63 := by
  rw [hn]
  have h2' : WTm.holds [] PySem.Challenge.rw_ik0126_01.pre { args := [.list xs] } = true := h2
  by_cases q : xs.length ≤ 63
  ·exact q
  ·exfalso
   have e : PySem.Challenge.rw_ik0126_01.pre = .and (.not (.lt (.lit (.int 63)) (.len (.arg 0)))) (.lit (.bool true)) := rfl
   rw [e] at h2'
   have h6 : WTm.holds [] (.and (.not (.lit (.bool (decide ((63 : Int) < xs.length))))) (.lit (.bool true))) { args := [.list xs] } = true := h2'
   rw [decide_eq_true (show (63 : Int) < xs.length by lia)] at h6
   exact Bool.noConfusion (show false = true from h6)
 let c : CX := ⟨w, s₁, KF w.params, TABS, GT⟩
 have C : c.Std := by
  refine ⟨⟨X, qwv, mg, mb, ⟨T.g, by decide⟩, ⟨T.b, by exact Nat.ne_of_beq_eq_false rfl⟩, fun x v h => ?_⟩, rfl, rfl, rfl⟩
  have := List.all_eq_true.mp (qwq w.params) _ h
  dsimp only at this
  cases q : nsIn (KF w.params) 3 x with
  | none => rw [q] at this; cases this
  | some u =>
   rw [q] at this
   cases u with
   | some u =>
    rw [← of_decide_eq_true (show decide (u = v) = true from this)]
    exact .inl (mg_of X T.g q)
   | none =>
    have this := Bool.and_eq_true_iff.mp (show (decide (bootBuiltins x = some v) && !(x == ("__name__" : Str))) = true from this)
    refine .inr ⟨mg_none_of X T.g q, ?_⟩
    rw [T.builtins _ (by simpa using this.2)]
    exact of_decide_eq_true this.1
 have G : c.GI s₁ := by
  refine ⟨.refl _, fun t ht => ?_, rfl, .of_eq hg, Nat.le_refl _, T.nolimit, ⟨?_, show ∀ t ∈ TABS, t.P ≠ cStatics by decide⟩, Nat.le_refl _, fun o e => e⟩
  ·have h200 : s₁.heap.get? 200 = some { cls := .none, data := .fields #[] } := Y _ _ (by kernel_rfl)
   have h207 : s₁.heap.get? 207 = some { cls := .none, data := .fields #[] } := Y _ _ (by kernel_rfl)
   have h64 : s₁.heap.get? 64 = some { cls := .none, data := .fields #[] } := Y _ _ (by kernel_rfl)
   refine x_ea ((wg _ rfl rfl (qar _ rfl rfl rfl (y_a3 rfl rfl rfl rfl))) : ∃ o, (KF w.params).lookup 204 = some o ∧ (o.cls = .type "code" ∧ ∃ vs, o.data = .fields vs ∧ vs[11]? = some (.ref 200) ∧ vs.getD 11 .none = .ref 200 ∧ vs.getD 18 .none = .str "/claim/cut.py" 729 ∧ vs.getD 7 .none = .int 3 0 ∧ vs.getD 9 .none = .bool true ∧ vs.getD 10 .none = .int 276 0)) fun o1 c1 d1 => ?_
   refine x_ea ((wg _ rfl rfl (qar _ rfl rfl rfl (y_a3 rfl rfl rfl rfl))) : ∃ o, (KF w.params).lookup 211 = some o ∧ (o.cls = .type "code" ∧ ∃ vs, o.data = .fields vs ∧ vs[11]? = some (.ref 207) ∧ vs.getD 11 .none = .ref 207 ∧ vs.getD 18 .none = .str "/claim/cut.py" 736 ∧ vs.getD 7 .none = .int 3 0 ∧ vs.getD 9 .none = .bool true ∧ vs.getD 10 .none = .int 276 0)) fun o2 c2 d2 => ?_
   refine x_ea ((wg _ rfl rfl (qar _ rfl rfl rfl (y_a3 rfl rfl rfl rfl))) : ∃ o, (KF w.params).lookup 68 = some o ∧ (o.cls = .type "code" ∧ ∃ vs, o.data = .fields vs ∧ vs[11]? = some (.ref 64) ∧ vs.getD 11 .none = .ref 64 ∧ vs.getD 18 .none = .str "/claim/cut.py" 512 ∧ vs.getD 7 .none = .int 3 0 ∧ vs.getD 9 .none = .bool true ∧ vs.getD 10 .none = .int 276 0)) fun o3 c3 d3 => ?_
   obtain ⟨cl1, v1, e1, a1, b1, g1, i1, j1, k1⟩ := d1
   obtain ⟨cl2, v2, e2, a2, b2, g2, i2, j2, k2⟩ := d2
   obtain ⟨cl3, v3, e3, a3, b3, g3, i3, j3, k3⟩ := d3
   have ht' : t ∈ TABS := ht
   simp only [TABS, List.mem_cons, List.not_mem_nil, or_false] at ht'
   rcases ht' with rfl | rfl | rfl
   ·exact qpr (t := ⟨204, 200, []⟩) (X _ _ c1) cl1 e1 a1 b1 g1 i1 j1 k1 h200 (by exact Nat.ne_of_beq_eq_false rfl) rfl
   ·exact qpr (t := ⟨211, 207, []⟩) (X _ _ c2) cl2 e2 a2 b2 g2 i2 j2 k2 h207 (by decide) rfl
   ·exact qpr (t := ⟨68, 64, []⟩) (X _ _ c3) cl3 e3 a3 b3 g3 i3 j3 k3 h64 (by exact Nat.ne_of_beq_eq_false rfl) rfl
  ·have h2 : ∃ o, (KF w.params).lookup 2 = some o := ⟨_, rfl⟩
   obtain ⟨o, e⟩ := h2
   exact Heap.lt_size (X 2 o e)
 have H : c.HR [] [] s₁ := ⟨G, rfl, fun n ao e => by simp at e, List.nodup_nil, fun a h => by cases h⟩
 refine wpAny_mono (qrg (c := c) C (A := callerA) ⟨rfl, by exact Nat.le_of_ble_eq_true hr, by exact Nat.le_of_ble_eq_true hr⟩ rfl ⟨o, ho, hc, k, hdt⟩ hi hl H) (fun v s' z => ?_) fun ω ω z => z.elim
 obtain ⟨ω, ω, ρ', ⟨rfl, rfl⟩, H', E', rv⟩ := z
 obtain rfl : v = .bool true := rv
 refine ⟨.inl (u8 _ (.bool true) [] rfl (fun cls => rfl) (.bool true) ?_ (fun ω => ⟨List.nodup_nil, fun a h => by cases h⟩)), H'.gi.old, H'.gi.os, H'.gi.bare⟩
 show (WShape.has [] (.bool true) .bool && WTm.holds [] (.eq .res (.lit (.bool true))) { args := [.list xs], res := some (.bool true), after := [.list xs] }) = true
 show (WShape.has [] (.bool true) .bool && WTm.holds [] (.lit (.bool (W.same (.bool true) (.bool true)))) { args := [.list xs] }) = true
 rw [show W.same (.bool true) (.bool true) = true from by exact W.same_self (WData.bool true)]; rfl

end
section
open PySem PySem.W PyProof.Rows PySem.Calls PySem.Spec

noncomputable abbrev hP : Program := PySem.Challenge.rw_ik0126_01.row.prog
noncomputable def hQ : Program := view hP [0, 1, 3, 4, 6, 7, 9, 10, 12, 13, 14, 15, 16, 18, 20, 21, 22, 23, 24]
noncomputable abbrev hL : List Str := [Str.ofString "twin_re_1_fnmatch", Str.ofString "_special_chars_map", Str.ofString "twin_re_1_header", Str.ofString "_Accumulator"]
noncomputable abbrev hX (s : Shared) : Bool := xlAt hQ [] s && recOk [] s
noncomputable abbrev hH : Hook := kHook KX KXas (fun ω => by kernel_rfl)
noncomputable def hput : List Obj → BT → Nat → Option BT
 | [], t, _ => some t
 | o :: r, t, n => match ((t.ins n o).get n).isSome with
  | true => hput r (t.ins n o) (n + 1)
  | false => none
theorem qsn (o : Obj) (r : List Obj) (t : BT) (n : Nat) : hput (o :: r) t n = Bool.rec none (hput r (t.ins n o) (n + 1)) ((t.ins n o).get n).isSome := by
 show (match ((t.ins n o).get n).isSome with | true => hput r (t.ins n o) (n + 1) | false => none) = _
 cases ((t.ins n o).get n).isSome <;> rfl
theorem qod : ∀ (r : List Obj) (t t' : BT) (n : Nat) (life : Life), hput r t n = some t' → absHeap t' (n + r.length) life = ⟨(absHeap t n life).objs ++ r.toArray, life⟩
 | [], t, t', n, life, h => by
  cases h
  show absHeap t n life = ⟨(absHeap t n life).objs ++ #[], life⟩
  rw [Array.append_empty]; rfl
 | o :: r, t, t', n, life, h => by
  cases g : ((t.ins n o).get n).isSome with
  | false => rw [qsn, g] at h; cases h
  | true =>
   rw [qsn, g] at h
   have := qod r _ t' (n + 1) life h
   rw [List.length_cons, ← Nat.add_assoc, Nat.add_right_comm, this, absHeap_ins g]
   show Heap.mk ((absHeap t n life).objs.push o ++ r.toArray) life = _
   exact congrArg (Heap.mk · life) (by simp)
noncomputable def hrun (w : World) (n₀ : Nat) (ann : Option Value) : Nat → SharedT → Thread → Option SharedT
 | 0, _, _ => none
 | n + 1, s, t => match through t with
  | true => some s
  | false => match Fast.tw6613529449190102663 n₀ ann t with
   | false => none
   | true => match Fast.tw10156331382660048174 (Fast.tw11892475500146522536 Fast.tw14364793385576792824) hP w s t with
    | some (s', t') => hrun w n₀ ann n s' t'
    | none => none
theorem qvf (w : World) (n₀ : Nat) (ann : Option Value) (n : Nat) (s : SharedT) (t : Thread) : hrun w n₀ ann (n + 1) s t = (match through t with
  | true => some s
  | false => match stepOk n₀ ann t with
   | false => none
   | true => match stepT (denote treeTable) hP w s t with
    | some (s', t') => hrun w n₀ ann n s' t'
    | none => none) := by
 rw [Fast.te6613529449190102663, Fast.te10156331382660048174, Fast.te11892475500146522536, Fast.te14364793385576792824]; rfl
theorem qoe {w : World} {n₀ : Nat} {ann : Option Value} : ∀ {n : Nat} {s s' : SharedT} {t : Thread}, hrun w n₀ ann n s t = some s' → topRun treeTable hP w n₀ ann n s.abs t = some s'.abs
 | 0, _, _, _, h => by cases h
 | n + 1, s, s', t, h => by
  rw [qvf] at h
  unfold topRun
  cases he : through t with
  | true => rw [he] at h; cases h; rfl
  | false =>
   rw [he] at h
   cases hk : stepOk n₀ ann t with
   | false => rw [hk] at h; cases h
   | true =>
    rw [hk] at h
    cases hs : stepT (denote treeTable) hP w s t with
    | none => rw [hs] at h; cases h
    | some r => obtain ⟨s₂, t₂⟩ := r; rw [hs] at h; rw [stepT_spec hs]; exact qoe h
noncomputable def qtp (w : World) : Option Shared :=
 (Fast.tw10274390034422433532 Fast.tw14364793385576792824 (opening hP) w 5786 (Fast.tw1435165496053646825 (opening hP)).1 (Fast.tw1435165496053646825 (opening hP)).2).bind (Fast.tw14289696077712309145 hP)
theorem qrb (w : World) : qtp w = fencedOpening treeTable hP w 5786 := by
 unfold qtp fencedOpening
 rw [← Fast.te10274390034422433532, ← Fast.te14364793385576792824, ← Fast.te1435165496053646825, ← Fast.te14289696077712309145]
noncomputable def hend {β : Type} (f : Shared → β) (w : World) : Bool × Option (Bool × β) :=
 match qtp w with
 | none => (false, none)
 | some s₀ => match hput s₀.heap.objs.toList .nil 0 with
  | none => (false, none)
  | some T => (s₀.heap.isNs mainGlobals && s₀.gens.size == 0, (hrun w s₀.heap.objs.size (s₀.heap.nsMap mainGlobals "__annotations__") 5786 ⟨T, s₀.heap.objs.size, s₀.heap.life, s₀.gens, s₀.drawn, s₀.toks, s₀.os⟩ (topStub hP)).map fun s₁ =>
   (staticsOk (importedModules hP.main.body) s₀.heap s₁.abs.heap && namesBound hP s₁.abs.heap && gensDone s₁.abs && laidKept s₀.heap s₁.abs.heap, f s₁.abs))
theorem qeq {β : Type} {f : Shared → β} {w : World} {r : β} (h : hend f w = (true, some (true, r))) : (openEnds treeTable hP w 5786).map f = some r := by
 unfold hend at h
 rw [qrb] at h
 unfold openEnds
 cases ho : fencedOpening treeTable hP w 5786 with
 | none => rw [ho] at h; cases h
 | some s₀ =>
  rw [ho] at h
  show (topFrom treeTable hP w 5786 s₀).map _ = _
  dsimp only at h
  cases hp : hput s₀.heap.objs.toList .nil 0 with
  | none => rw [hp] at h; cases h
  | some T =>
   rw [hp] at h
   obtain ⟨h1, h2⟩ := Prod.mk.inj h
   obtain ⟨s₁, h3, h4⟩ := Option.map_eq_some_iff.mp h2
   obtain ⟨h5, h6⟩ := Prod.mk.inj h4
   have ha : SharedT.abs ⟨T, s₀.heap.objs.size, s₀.heap.life, s₀.gens, s₀.drawn, s₀.toks, s₀.os⟩ = s₀ := by
    have := qod _ _ _ 0 s₀.heap.life hp
    rw [Nat.zero_add, Array.length_toList] at this
    show Shared.mk (absHeap T s₀.heap.objs.size s₀.heap.life) _ _ _ _ = _
    rw [this]
    show Shared.mk ⟨#[] ++ s₀.heap.objs.toList.toArray, _⟩ _ _ _ _ = _
    rw [Array.empty_append, Array.toArray_toList]
   have h7 := qoe h3
   rw [ha] at h7
   unfold topFrom
   rw [h1, h7]
   show Option.map _ (match staticsOk (importedModules hP.main.body) s₀.heap s₁.abs.heap && namesBound hP s₁.abs.heap && gensDone s₁.abs && laidKept s₀.heap s₁.abs.heap with | true => some s₁.abs | false => none) = _
   rw [h5]
   exact congrArg some h6
noncomputable abbrev hsee (s : Shared) := (Fast.tw4187177175401517315 hQ hL (importedModules hP.main.body) hX true s, hH.obs s)
noncomputable abbrev hW (w : World) (a b : Bool) : World := (w.withFollow "special-get-raises" b).withFollow "comprehension-iter-twice" a
theorem hw00 (w : World) : hend hsee (hW w false false) = (true, some (true, (openGood hQ hL, hH.val (hW w false false)))) := by kernel_rfl
theorem hw01 (w : World) : hend hsee (hW w false true) = (true, some (true, (openGood hQ hL, hH.val (hW w false true)))) := by kernel_rfl
theorem hw10 (w : World) : hend hsee (hW w true false) = (true, some (true, (openGood hQ hL, hH.val (hW w true false)))) := by kernel_rfl
theorem hw11 (w : World) : hend hsee (hW w true true) = (true, some (true, (openGood hQ hL, hH.val (hW w true true)))) := by kernel_rfl
noncomputable def hS (w : World) : Prop := (openEnds treeTable hP w 5786).map hsee = some (openGood hQ hL, hH.val w)
theorem hs00 (w : World) : hS (hW w false false) := qeq (hw00 w)
theorem hs01 (w : World) : hS (hW w false true) := qeq (hw01 w)
theorem hs10 (w : World) : hS (hW w true false) := qeq (hw10 w)
theorem hs11 (w : World) : hS (hW w true true) := qeq (hw11 w)
theorem qwr : LeftO hP hQ hL hX hH.obs hH.val 5786 := by
 unfold LeftO
 rw [Fast.te4187177175401517315]
 exact byRow2 (P := hS) "comprehension-iter-twice" (byRow2 (P := fun w => hS (w.withFollow "comprehension-iter-twice" false)) "special-get-raises" hs00 hs01) (byRow2 (P := fun w => hS (w.withFollow "comprehension-iter-twice" true)) "special-get-raises" hs10 hs11)
theorem qws : PySem.Challenge.rw_ik0126_01.wellSaid = true := by
 rw [Fast.te9446332074065402090]
 kernel_rfl
set_option maxHeartbeats 0 in
theorem head : PySem.Challenge.rw_ik0126_01.Holds := by
 w_on
 refine holds_law qws fun said => ?_
 refine holds_open (q := hQ) (loose := hL) (Xt := hX) (XP := XL hQ []) (Yf := hH.obs) (Ya := hH.val) (YP := hH.says) (N := 5786) qwr hH.of hH.keeps (fun s e => xl_of s (Bool.and_eq_true_iff.mp e).1) XL.keeps (by rfl) (by rfl) (by rfl) (fun s e => recFacts_of (Bool.and_eq_true_iff.mp e).2) (by rfl) said (by decide +kernel) ⟨rfl, rfl, rfl, rfl, rfl, by decide +kernel⟩ ?hw ?hc
 case hw => w_witness2
 intro w s₀ s₁ mg mb G Y fa o pm cd doc dV kV ho hd hcd hD hmg hg args vals as hpre hlay hrd hwl hlo
 exact qtr G.T (kIn_of Y) hg hmg hpre hrd

end
end Mine
end
theorem PySem.Challenge.cw_ik0126_01_holds : PySem.Challenge.rw_ik0126_01.Holds :=
  Mine.head
