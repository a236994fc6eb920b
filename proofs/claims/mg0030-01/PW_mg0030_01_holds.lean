import PyProof.Rows.All
import Wide.All
import OpenK.AllK
import Wide.FinOn
import KE.KPairComp
import KE.KLcTest
import PySem.Challenge.RW_mg0030_01
set_option compiler.extract_closed false
section PartXl
namespace Mine
universe u1 u2 u3 u4 u5 u6 u7 u8 u9 u10
variable {α1 : Sort u1} {α2 : Sort u2} {α3 : Sort u3} {α4 : Sort u4} {α5 : Sort u5} {α6 : Sort u6} {α7 : Sort u7} {α8 : Sort u8} {α9 : Sort u9} {α10 : Sort u10} {C : Prop}
theorem i2_1 {P1 : α1 → α2 → Prop} (x1 : α1) (x2 : α2) (h1 : P1 x1 x2) : ∃ x1 x2, P1 x1 x2 := ⟨x1, x2, h1⟩
theorem i3_1 {P1 : α1 → α2 → α3 → Prop} (x1 : α1) (x2 : α2) (x3 : α3) (h1 : P1 x1 x2 x3) : ∃ x1 x2 x3, P1 x1 x2 x3 := ⟨x1, x2, x3, h1⟩
theorem i4_1 {P1 : α1 → α2 → α3 → α4 → Prop} (x1 : α1) (x2 : α2) (x3 : α3) (x4 : α4) (h1 : P1 x1 x2 x3 x4) : ∃ x1 x2 x3 x4, P1 x1 x2 x3 x4 := ⟨x1, x2, x3, x4, h1⟩
theorem i5_1 {P1 : α1 → α2 → α3 → α4 → α5 → Prop} (x1 : α1) (x2 : α2) (x3 : α3) (x4 : α4) (x5 : α5) (h1 : P1 x1 x2 x3 x4 x5) : ∃ x1 x2 x3 x4 x5, P1 x1 x2 x3 x4 x5 := ⟨x1, x2, x3, x4, x5, h1⟩
theorem i6_1 {P1 : α1 → α2 → α3 → α4 → α5 → α6 → Prop} (x1 : α1) (x2 : α2) (x3 : α3) (x4 : α4) (x5 : α5) (x6 : α6) (h1 : P1 x1 x2 x3 x4 x5 x6) : ∃ x1 x2 x3 x4 x5 x6, P1 x1 x2 x3 x4 x5 x6 := ⟨x1, x2, x3, x4, x5, x6, h1⟩
theorem i7_1 {P1 : α1 → α2 → α3 → α4 → α5 → α6 → α7 → Prop} (x1 : α1) (x2 : α2) (x3 : α3) (x4 : α4) (x5 : α5) (x6 : α6) (x7 : α7) (h1 : P1 x1 x2 x3 x4 x5 x6 x7) : ∃ x1 x2 x3 x4 x5 x6 x7, P1 x1 x2 x3 x4 x5 x6 x7 := ⟨x1, x2, x3, x4, x5, x6, x7, h1⟩
theorem i8_1 {P1 : α1 → α2 → α3 → α4 → α5 → α6 → α7 → α8 → Prop} (x1 : α1) (x2 : α2) (x3 : α3) (x4 : α4) (x5 : α5) (x6 : α6) (x7 : α7) (x8 : α8) (h1 : P1 x1 x2 x3 x4 x5 x6 x7 x8) : ∃ x1 x2 x3 x4 x5 x6 x7 x8, P1 x1 x2 x3 x4 x5 x6 x7 x8 := ⟨x1, x2, x3, x4, x5, x6, x7, x8, h1⟩
theorem i9_1 {P1 : α1 → α2 → α3 → α4 → α5 → α6 → α7 → α8 → α9 → Prop} (x1 : α1) (x2 : α2) (x3 : α3) (x4 : α4) (x5 : α5) (x6 : α6) (x7 : α7) (x8 : α8) (x9 : α9) (h1 : P1 x1 x2 x3 x4 x5 x6 x7 x8 x9) : ∃ x1 x2 x3 x4 x5 x6 x7 x8 x9, P1 x1 x2 x3 x4 x5 x6 x7 x8 x9 := ⟨x1, x2, x3, x4, x5, x6, x7, x8, x9, h1⟩
theorem i10_1 {P1 : α1 → α2 → α3 → α4 → α5 → α6 → α7 → α8 → α9 → α10 → Prop} (x1 : α1) (x2 : α2) (x3 : α3) (x4 : α4) (x5 : α5) (x6 : α6) (x7 : α7) (x8 : α8) (x9 : α9) (x10 : α10) (h1 : P1 x1 x2 x3 x4 x5 x6 x7 x8 x9 x10) : ∃ x1 x2 x3 x4 x5 x6 x7 x8 x9 x10, P1 x1 x2 x3 x4 x5 x6 x7 x8 x9 x10 := ⟨x1, x2, x3, x4, x5, x6, x7, x8, x9, x10, h1⟩
theorem i1_2 {P1 P2 : α1 → Prop} (x1 : α1) (h1 : P1 x1) (h2 : P2 x1) : ∃ x1, P1 x1 ∧ P2 x1 := ⟨x1, h1, h2⟩
theorem i1_3 {P1 P2 P3 : α1 → Prop} (x1 : α1) (h1 : P1 x1) (h2 : P2 x1) (h3 : P3 x1) : ∃ x1, P1 x1 ∧ P2 x1 ∧ P3 x1 := ⟨x1, h1, h2, h3⟩
theorem i1_4 {P1 P2 P3 P4 : α1 → Prop} (x1 : α1) (h1 : P1 x1) (h2 : P2 x1) (h3 : P3 x1) (h4 : P4 x1) : ∃ x1, P1 x1 ∧ P2 x1 ∧ P3 x1 ∧ P4 x1 := ⟨x1, h1, h2, h3, h4⟩
theorem i2_2 {P1 P2 : α1 → α2 → Prop} (x1 : α1) (x2 : α2) (h1 : P1 x1 x2) (h2 : P2 x1 x2) : ∃ x1 x2, P1 x1 x2 ∧ P2 x1 x2 := i2_1 (P1 := fun x1 x2 => P1 x1 x2 ∧ P2 x1 x2) x1 x2 ⟨h1, h2⟩
theorem i2_3 {P1 P2 P3 : α1 → α2 → Prop} (x1 : α1) (x2 : α2) (h1 : P1 x1 x2) (h2 : P2 x1 x2) (h3 : P3 x1 x2) : ∃ x1 x2, P1 x1 x2 ∧ P2 x1 x2 ∧ P3 x1 x2 := i2_1 (P1 := fun x1 x2 => P1 x1 x2 ∧ P2 x1 x2 ∧ P3 x1 x2) x1 x2 ⟨h1, h2, h3⟩
theorem i2_4 {P1 P2 P3 P4 : α1 → α2 → Prop} (x1 : α1) (x2 : α2) (h1 : P1 x1 x2) (h2 : P2 x1 x2) (h3 : P3 x1 x2) (h4 : P4 x1 x2) : ∃ x1 x2, P1 x1 x2 ∧ P2 x1 x2 ∧ P3 x1 x2 ∧ P4 x1 x2 := i2_1 (P1 := fun x1 x2 => P1 x1 x2 ∧ P2 x1 x2 ∧ P3 x1 x2 ∧ P4 x1 x2) x1 x2 ⟨h1, h2, h3, h4⟩
theorem i2_5 {P1 P2 P3 P4 P5 : α1 → α2 → Prop} (x1 : α1) (x2 : α2) (h1 : P1 x1 x2) (h2 : P2 x1 x2) (h3 : P3 x1 x2) (h4 : P4 x1 x2) (h5 : P5 x1 x2) : ∃ x1 x2, P1 x1 x2 ∧ P2 x1 x2 ∧ P3 x1 x2 ∧ P4 x1 x2 ∧ P5 x1 x2 := i2_1 (P1 := fun x1 x2 => P1 x1 x2 ∧ P2 x1 x2 ∧ P3 x1 x2 ∧ P4 x1 x2 ∧ P5 x1 x2) x1 x2 ⟨h1, h2, h3, h4, h5⟩
theorem i2_7 {P1 P2 P3 P4 P5 P6 P7 : α1 → α2 → Prop} (x1 : α1) (x2 : α2) (h1 : P1 x1 x2) (h2 : P2 x1 x2) (h3 : P3 x1 x2) (h4 : P4 x1 x2) (h5 : P5 x1 x2) (h6 : P6 x1 x2) (h7 : P7 x1 x2) : ∃ x1 x2, P1 x1 x2 ∧ P2 x1 x2 ∧ P3 x1 x2 ∧ P4 x1 x2 ∧ P5 x1 x2 ∧ P6 x1 x2 ∧ P7 x1 x2 := i2_1 (P1 := fun x1 x2 => P1 x1 x2 ∧ P2 x1 x2 ∧ P3 x1 x2 ∧ P4 x1 x2 ∧ P5 x1 x2 ∧ P6 x1 x2 ∧ P7 x1 x2) x1 x2 ⟨h1, h2, h3, h4, h5, h6, h7⟩
theorem i2_8 {P1 P2 P3 P4 P5 P6 P7 P8 : α1 → α2 → Prop} (x1 : α1) (x2 : α2) (h1 : P1 x1 x2) (h2 : P2 x1 x2) (h3 : P3 x1 x2) (h4 : P4 x1 x2) (h5 : P5 x1 x2) (h6 : P6 x1 x2) (h7 : P7 x1 x2) (h8 : P8 x1 x2) : ∃ x1 x2, P1 x1 x2 ∧ P2 x1 x2 ∧ P3 x1 x2 ∧ P4 x1 x2 ∧ P5 x1 x2 ∧ P6 x1 x2 ∧ P7 x1 x2 ∧ P8 x1 x2 := i2_1 (P1 := fun x1 x2 => P1 x1 x2 ∧ P2 x1 x2 ∧ P3 x1 x2 ∧ P4 x1 x2 ∧ P5 x1 x2 ∧ P6 x1 x2 ∧ P7 x1 x2 ∧ P8 x1 x2) x1 x2 ⟨h1, h2, h3, h4, h5, h6, h7, h8⟩
theorem i3_3 {P1 P2 P3 : α1 → α2 → α3 → Prop} (x1 : α1) (x2 : α2) (x3 : α3) (h1 : P1 x1 x2 x3) (h2 : P2 x1 x2 x3) (h3 : P3 x1 x2 x3) : ∃ x1 x2 x3, P1 x1 x2 x3 ∧ P2 x1 x2 x3 ∧ P3 x1 x2 x3 := i3_1 (P1 := fun x1 x2 x3 => P1 x1 x2 x3 ∧ P2 x1 x2 x3 ∧ P3 x1 x2 x3) x1 x2 x3 ⟨h1, h2, h3⟩
theorem i3_4 {P1 P2 P3 P4 : α1 → α2 → α3 → Prop} (x1 : α1) (x2 : α2) (x3 : α3) (h1 : P1 x1 x2 x3) (h2 : P2 x1 x2 x3) (h3 : P3 x1 x2 x3) (h4 : P4 x1 x2 x3) : ∃ x1 x2 x3, P1 x1 x2 x3 ∧ P2 x1 x2 x3 ∧ P3 x1 x2 x3 ∧ P4 x1 x2 x3 := i3_1 (P1 := fun x1 x2 x3 => P1 x1 x2 x3 ∧ P2 x1 x2 x3 ∧ P3 x1 x2 x3 ∧ P4 x1 x2 x3) x1 x2 x3 ⟨h1, h2, h3, h4⟩
theorem i3_5 {P1 P2 P3 P4 P5 : α1 → α2 → α3 → Prop} (x1 : α1) (x2 : α2) (x3 : α3) (h1 : P1 x1 x2 x3) (h2 : P2 x1 x2 x3) (h3 : P3 x1 x2 x3) (h4 : P4 x1 x2 x3) (h5 : P5 x1 x2 x3) : ∃ x1 x2 x3, P1 x1 x2 x3 ∧ P2 x1 x2 x3 ∧ P3 x1 x2 x3 ∧ P4 x1 x2 x3 ∧ P5 x1 x2 x3 := i3_1 (P1 := fun x1 x2 x3 => P1 x1 x2 x3 ∧ P2 x1 x2 x3 ∧ P3 x1 x2 x3 ∧ P4 x1 x2 x3 ∧ P5 x1 x2 x3) x1 x2 x3 ⟨h1, h2, h3, h4, h5⟩
theorem i3_6 {P1 P2 P3 P4 P5 P6 : α1 → α2 → α3 → Prop} (x1 : α1) (x2 : α2) (x3 : α3) (h1 : P1 x1 x2 x3) (h2 : P2 x1 x2 x3) (h3 : P3 x1 x2 x3) (h4 : P4 x1 x2 x3) (h5 : P5 x1 x2 x3) (h6 : P6 x1 x2 x3) : ∃ x1 x2 x3, P1 x1 x2 x3 ∧ P2 x1 x2 x3 ∧ P3 x1 x2 x3 ∧ P4 x1 x2 x3 ∧ P5 x1 x2 x3 ∧ P6 x1 x2 x3 := i3_1 (P1 := fun x1 x2 x3 => P1 x1 x2 x3 ∧ P2 x1 x2 x3 ∧ P3 x1 x2 x3 ∧ P4 x1 x2 x3 ∧ P5 x1 x2 x3 ∧ P6 x1 x2 x3) x1 x2 x3 ⟨h1, h2, h3, h4, h5, h6⟩
theorem i3_7 {P1 P2 P3 P4 P5 P6 P7 : α1 → α2 → α3 → Prop} (x1 : α1) (x2 : α2) (x3 : α3) (h1 : P1 x1 x2 x3) (h2 : P2 x1 x2 x3) (h3 : P3 x1 x2 x3) (h4 : P4 x1 x2 x3) (h5 : P5 x1 x2 x3) (h6 : P6 x1 x2 x3) (h7 : P7 x1 x2 x3) : ∃ x1 x2 x3, P1 x1 x2 x3 ∧ P2 x1 x2 x3 ∧ P3 x1 x2 x3 ∧ P4 x1 x2 x3 ∧ P5 x1 x2 x3 ∧ P6 x1 x2 x3 ∧ P7 x1 x2 x3 := i3_1 (P1 := fun x1 x2 x3 => P1 x1 x2 x3 ∧ P2 x1 x2 x3 ∧ P3 x1 x2 x3 ∧ P4 x1 x2 x3 ∧ P5 x1 x2 x3 ∧ P6 x1 x2 x3 ∧ P7 x1 x2 x3) x1 x2 x3 ⟨h1, h2, h3, h4, h5, h6, h7⟩
theorem i3_8 {P1 P2 P3 P4 P5 P6 P7 P8 : α1 → α2 → α3 → Prop} (x1 : α1) (x2 : α2) (x3 : α3) (h1 : P1 x1 x2 x3) (h2 : P2 x1 x2 x3) (h3 : P3 x1 x2 x3) (h4 : P4 x1 x2 x3) (h5 : P5 x1 x2 x3) (h6 : P6 x1 x2 x3) (h7 : P7 x1 x2 x3) (h8 : P8 x1 x2 x3) : ∃ x1 x2 x3, P1 x1 x2 x3 ∧ P2 x1 x2 x3 ∧ P3 x1 x2 x3 ∧ P4 x1 x2 x3 ∧ P5 x1 x2 x3 ∧ P6 x1 x2 x3 ∧ P7 x1 x2 x3 ∧ P8 x1 x2 x3 := i3_1 (P1 := fun x1 x2 x3 => P1 x1 x2 x3 ∧ P2 x1 x2 x3 ∧ P3 x1 x2 x3 ∧ P4 x1 x2 x3 ∧ P5 x1 x2 x3 ∧ P6 x1 x2 x3 ∧ P7 x1 x2 x3 ∧ P8 x1 x2 x3) x1 x2 x3 ⟨h1, h2, h3, h4, h5, h6, h7, h8⟩
theorem i3_9 {P1 P2 P3 P4 P5 P6 P7 P8 P9 : α1 → α2 → α3 → Prop} (x1 : α1) (x2 : α2) (x3 : α3) (h1 : P1 x1 x2 x3) (h2 : P2 x1 x2 x3) (h3 : P3 x1 x2 x3) (h4 : P4 x1 x2 x3) (h5 : P5 x1 x2 x3) (h6 : P6 x1 x2 x3) (h7 : P7 x1 x2 x3) (h8 : P8 x1 x2 x3) (h9 : P9 x1 x2 x3) : ∃ x1 x2 x3, P1 x1 x2 x3 ∧ P2 x1 x2 x3 ∧ P3 x1 x2 x3 ∧ P4 x1 x2 x3 ∧ P5 x1 x2 x3 ∧ P6 x1 x2 x3 ∧ P7 x1 x2 x3 ∧ P8 x1 x2 x3 ∧ P9 x1 x2 x3 := i3_1 (P1 := fun x1 x2 x3 => P1 x1 x2 x3 ∧ P2 x1 x2 x3 ∧ P3 x1 x2 x3 ∧ P4 x1 x2 x3 ∧ P5 x1 x2 x3 ∧ P6 x1 x2 x3 ∧ P7 x1 x2 x3 ∧ P8 x1 x2 x3 ∧ P9 x1 x2 x3) x1 x2 x3 ⟨h1, h2, h3, h4, h5, h6, h7, h8, h9⟩
theorem i4_3 {P1 P2 P3 : α1 → α2 → α3 → α4 → Prop} (x1 : α1) (x2 : α2) (x3 : α3) (x4 : α4) (h1 : P1 x1 x2 x3 x4) (h2 : P2 x1 x2 x3 x4) (h3 : P3 x1 x2 x3 x4) : ∃ x1 x2 x3 x4, P1 x1 x2 x3 x4 ∧ P2 x1 x2 x3 x4 ∧ P3 x1 x2 x3 x4 := i4_1 (P1 := fun x1 x2 x3 x4 => P1 x1 x2 x3 x4 ∧ P2 x1 x2 x3 x4 ∧ P3 x1 x2 x3 x4) x1 x2 x3 x4 ⟨h1, h2, h3⟩
theorem i4_4 {P1 P2 P3 P4 : α1 → α2 → α3 → α4 → Prop} (x1 : α1) (x2 : α2) (x3 : α3) (x4 : α4) (h1 : P1 x1 x2 x3 x4) (h2 : P2 x1 x2 x3 x4) (h3 : P3 x1 x2 x3 x4) (h4 : P4 x1 x2 x3 x4) : ∃ x1 x2 x3 x4, P1 x1 x2 x3 x4 ∧ P2 x1 x2 x3 x4 ∧ P3 x1 x2 x3 x4 ∧ P4 x1 x2 x3 x4 := i4_1 (P1 := fun x1 x2 x3 x4 => P1 x1 x2 x3 x4 ∧ P2 x1 x2 x3 x4 ∧ P3 x1 x2 x3 x4 ∧ P4 x1 x2 x3 x4) x1 x2 x3 x4 ⟨h1, h2, h3, h4⟩
theorem i4_6 {P1 P2 P3 P4 P5 P6 : α1 → α2 → α3 → α4 → Prop} (x1 : α1) (x2 : α2) (x3 : α3) (x4 : α4) (h1 : P1 x1 x2 x3 x4) (h2 : P2 x1 x2 x3 x4) (h3 : P3 x1 x2 x3 x4) (h4 : P4 x1 x2 x3 x4) (h5 : P5 x1 x2 x3 x4) (h6 : P6 x1 x2 x3 x4) : ∃ x1 x2 x3 x4, P1 x1 x2 x3 x4 ∧ P2 x1 x2 x3 x4 ∧ P3 x1 x2 x3 x4 ∧ P4 x1 x2 x3 x4 ∧ P5 x1 x2 x3 x4 ∧ P6 x1 x2 x3 x4 := i4_1 (P1 := fun x1 x2 x3 x4 => P1 x1 x2 x3 x4 ∧ P2 x1 x2 x3 x4 ∧ P3 x1 x2 x3 x4 ∧ P4 x1 x2 x3 x4 ∧ P5 x1 x2 x3 x4 ∧ P6 x1 x2 x3 x4) x1 x2 x3 x4 ⟨h1, h2, h3, h4, h5, h6⟩
theorem i4_7 {P1 P2 P3 P4 P5 P6 P7 : α1 → α2 → α3 → α4 → Prop} (x1 : α1) (x2 : α2) (x3 : α3) (x4 : α4) (h1 : P1 x1 x2 x3 x4) (h2 : P2 x1 x2 x3 x4) (h3 : P3 x1 x2 x3 x4) (h4 : P4 x1 x2 x3 x4) (h5 : P5 x1 x2 x3 x4) (h6 : P6 x1 x2 x3 x4) (h7 : P7 x1 x2 x3 x4) : ∃ x1 x2 x3 x4, P1 x1 x2 x3 x4 ∧ P2 x1 x2 x3 x4 ∧ P3 x1 x2 x3 x4 ∧ P4 x1 x2 x3 x4 ∧ P5 x1 x2 x3 x4 ∧ P6 x1 x2 x3 x4 ∧ P7 x1 x2 x3 x4 := i4_1 (P1 := fun x1 x2 x3 x4 => P1 x1 x2 x3 x4 ∧ P2 x1 x2 x3 x4 ∧ P3 x1 x2 x3 x4 ∧ P4 x1 x2 x3 x4 ∧ P5 x1 x2 x3 x4 ∧ P6 x1 x2 x3 x4 ∧ P7 x1 x2 x3 x4) x1 x2 x3 x4 ⟨h1, h2, h3, h4, h5, h6, h7⟩
theorem i4_8 {P1 P2 P3 P4 P5 P6 P7 P8 : α1 → α2 → α3 → α4 → Prop} (x1 : α1) (x2 : α2) (x3 : α3) (x4 : α4) (h1 : P1 x1 x2 x3 x4) (h2 : P2 x1 x2 x3 x4) (h3 : P3 x1 x2 x3 x4) (h4 : P4 x1 x2 x3 x4) (h5 : P5 x1 x2 x3 x4) (h6 : P6 x1 x2 x3 x4) (h7 : P7 x1 x2 x3 x4) (h8 : P8 x1 x2 x3 x4) : ∃ x1 x2 x3 x4, P1 x1 x2 x3 x4 ∧ P2 x1 x2 x3 x4 ∧ P3 x1 x2 x3 x4 ∧ P4 x1 x2 x3 x4 ∧ P5 x1 x2 x3 x4 ∧ P6 x1 x2 x3 x4 ∧ P7 x1 x2 x3 x4 ∧ P8 x1 x2 x3 x4 := i4_1 (P1 := fun x1 x2 x3 x4 => P1 x1 x2 x3 x4 ∧ P2 x1 x2 x3 x4 ∧ P3 x1 x2 x3 x4 ∧ P4 x1 x2 x3 x4 ∧ P5 x1 x2 x3 x4 ∧ P6 x1 x2 x3 x4 ∧ P7 x1 x2 x3 x4 ∧ P8 x1 x2 x3 x4) x1 x2 x3 x4 ⟨h1, h2, h3, h4, h5, h6, h7, h8⟩
theorem i4_9 {P1 P2 P3 P4 P5 P6 P7 P8 P9 : α1 → α2 → α3 → α4 → Prop} (x1 : α1) (x2 : α2) (x3 : α3) (x4 : α4) (h1 : P1 x1 x2 x3 x4) (h2 : P2 x1 x2 x3 x4) (h3 : P3 x1 x2 x3 x4) (h4 : P4 x1 x2 x3 x4) (h5 : P5 x1 x2 x3 x4) (h6 : P6 x1 x2 x3 x4) (h7 : P7 x1 x2 x3 x4) (h8 : P8 x1 x2 x3 x4) (h9 : P9 x1 x2 x3 x4) : ∃ x1 x2 x3 x4, P1 x1 x2 x3 x4 ∧ P2 x1 x2 x3 x4 ∧ P3 x1 x2 x3 x4 ∧ P4 x1 x2 x3 x4 ∧ P5 x1 x2 x3 x4 ∧ P6 x1 x2 x3 x4 ∧ P7 x1 x2 x3 x4 ∧ P8 x1 x2 x3 x4 ∧ P9 x1 x2 x3 x4 := i4_1 (P1 := fun x1 x2 x3 x4 => P1 x1 x2 x3 x4 ∧ P2 x1 x2 x3 x4 ∧ P3 x1 x2 x3 x4 ∧ P4 x1 x2 x3 x4 ∧ P5 x1 x2 x3 x4 ∧ P6 x1 x2 x3 x4 ∧ P7 x1 x2 x3 x4 ∧ P8 x1 x2 x3 x4 ∧ P9 x1 x2 x3 x4) x1 x2 x3 x4 ⟨h1, h2, h3, h4, h5, h6, h7, h8, h9⟩
theorem i5_6 {P1 P2 P3 P4 P5 P6 : α1 → α2 → α3 → α4 → α5 → Prop} (x1 : α1) (x2 : α2) (x3 : α3) (x4 : α4) (x5 : α5) (h1 : P1 x1 x2 x3 x4 x5) (h2 : P2 x1 x2 x3 x4 x5) (h3 : P3 x1 x2 x3 x4 x5) (h4 : P4 x1 x2 x3 x4 x5) (h5 : P5 x1 x2 x3 x4 x5) (h6 : P6 x1 x2 x3 x4 x5) : ∃ x1 x2 x3 x4 x5, P1 x1 x2 x3 x4 x5 ∧ P2 x1 x2 x3 x4 x5 ∧ P3 x1 x2 x3 x4 x5 ∧ P4 x1 x2 x3 x4 x5 ∧ P5 x1 x2 x3 x4 x5 ∧ P6 x1 x2 x3 x4 x5 := i5_1 (P1 := fun x1 x2 x3 x4 x5 => P1 x1 x2 x3 x4 x5 ∧ P2 x1 x2 x3 x4 x5 ∧ P3 x1 x2 x3 x4 x5 ∧ P4 x1 x2 x3 x4 x5 ∧ P5 x1 x2 x3 x4 x5 ∧ P6 x1 x2 x3 x4 x5) x1 x2 x3 x4 x5 ⟨h1, h2, h3, h4, h5, h6⟩
theorem i6_4 {P1 P2 P3 P4 : α1 → α2 → α3 → α4 → α5 → α6 → Prop} (x1 : α1) (x2 : α2) (x3 : α3) (x4 : α4) (x5 : α5) (x6 : α6) (h1 : P1 x1 x2 x3 x4 x5 x6) (h2 : P2 x1 x2 x3 x4 x5 x6) (h3 : P3 x1 x2 x3 x4 x5 x6) (h4 : P4 x1 x2 x3 x4 x5 x6) : ∃ x1 x2 x3 x4 x5 x6, P1 x1 x2 x3 x4 x5 x6 ∧ P2 x1 x2 x3 x4 x5 x6 ∧ P3 x1 x2 x3 x4 x5 x6 ∧ P4 x1 x2 x3 x4 x5 x6 := i6_1 (P1 := fun x1 x2 x3 x4 x5 x6 => P1 x1 x2 x3 x4 x5 x6 ∧ P2 x1 x2 x3 x4 x5 x6 ∧ P3 x1 x2 x3 x4 x5 x6 ∧ P4 x1 x2 x3 x4 x5 x6) x1 x2 x3 x4 x5 x6 ⟨h1, h2, h3, h4⟩
theorem i6_6 {P1 P2 P3 P4 P5 P6 : α1 → α2 → α3 → α4 → α5 → α6 → Prop} (x1 : α1) (x2 : α2) (x3 : α3) (x4 : α4) (x5 : α5) (x6 : α6) (h1 : P1 x1 x2 x3 x4 x5 x6) (h2 : P2 x1 x2 x3 x4 x5 x6) (h3 : P3 x1 x2 x3 x4 x5 x6) (h4 : P4 x1 x2 x3 x4 x5 x6) (h5 : P5 x1 x2 x3 x4 x5 x6) (h6 : P6 x1 x2 x3 x4 x5 x6) : ∃ x1 x2 x3 x4 x5 x6, P1 x1 x2 x3 x4 x5 x6 ∧ P2 x1 x2 x3 x4 x5 x6 ∧ P3 x1 x2 x3 x4 x5 x6 ∧ P4 x1 x2 x3 x4 x5 x6 ∧ P5 x1 x2 x3 x4 x5 x6 ∧ P6 x1 x2 x3 x4 x5 x6 := i6_1 (P1 := fun x1 x2 x3 x4 x5 x6 => P1 x1 x2 x3 x4 x5 x6 ∧ P2 x1 x2 x3 x4 x5 x6 ∧ P3 x1 x2 x3 x4 x5 x6 ∧ P4 x1 x2 x3 x4 x5 x6 ∧ P5 x1 x2 x3 x4 x5 x6 ∧ P6 x1 x2 x3 x4 x5 x6) x1 x2 x3 x4 x5 x6 ⟨h1, h2, h3, h4, h5, h6⟩
theorem i6_7 {P1 P2 P3 P4 P5 P6 P7 : α1 → α2 → α3 → α4 → α5 → α6 → Prop} (x1 : α1) (x2 : α2) (x3 : α3) (x4 : α4) (x5 : α5) (x6 : α6) (h1 : P1 x1 x2 x3 x4 x5 x6) (h2 : P2 x1 x2 x3 x4 x5 x6) (h3 : P3 x1 x2 x3 x4 x5 x6) (h4 : P4 x1 x2 x3 x4 x5 x6) (h5 : P5 x1 x2 x3 x4 x5 x6) (h6 : P6 x1 x2 x3 x4 x5 x6) (h7 : P7 x1 x2 x3 x4 x5 x6) : ∃ x1 x2 x3 x4 x5 x6, P1 x1 x2 x3 x4 x5 x6 ∧ P2 x1 x2 x3 x4 x5 x6 ∧ P3 x1 x2 x3 x4 x5 x6 ∧ P4 x1 x2 x3 x4 x5 x6 ∧ P5 x1 x2 x3 x4 x5 x6 ∧ P6 x1 x2 x3 x4 x5 x6 ∧ P7 x1 x2 x3 x4 x5 x6 := i6_1 (P1 := fun x1 x2 x3 x4 x5 x6 => P1 x1 x2 x3 x4 x5 x6 ∧ P2 x1 x2 x3 x4 x5 x6 ∧ P3 x1 x2 x3 x4 x5 x6 ∧ P4 x1 x2 x3 x4 x5 x6 ∧ P5 x1 x2 x3 x4 x5 x6 ∧ P6 x1 x2 x3 x4 x5 x6 ∧ P7 x1 x2 x3 x4 x5 x6) x1 x2 x3 x4 x5 x6 ⟨h1, h2, h3, h4, h5, h6, h7⟩
theorem i6_10 {P1 P2 P3 P4 P5 P6 P7 P8 P9 P10 : α1 → α2 → α3 → α4 → α5 → α6 → Prop} (x1 : α1) (x2 : α2) (x3 : α3) (x4 : α4) (x5 : α5) (x6 : α6) (h1 : P1 x1 x2 x3 x4 x5 x6) (h2 : P2 x1 x2 x3 x4 x5 x6) (h3 : P3 x1 x2 x3 x4 x5 x6) (h4 : P4 x1 x2 x3 x4 x5 x6) (h5 : P5 x1 x2 x3 x4 x5 x6) (h6 : P6 x1 x2 x3 x4 x5 x6) (h7 : P7 x1 x2 x3 x4 x5 x6) (h8 : P8 x1 x2 x3 x4 x5 x6) (h9 : P9 x1 x2 x3 x4 x5 x6) (h10 : P10 x1 x2 x3 x4 x5 x6) : ∃ x1 x2 x3 x4 x5 x6, P1 x1 x2 x3 x4 x5 x6 ∧ P2 x1 x2 x3 x4 x5 x6 ∧ P3 x1 x2 x3 x4 x5 x6 ∧ P4 x1 x2 x3 x4 x5 x6 ∧ P5 x1 x2 x3 x4 x5 x6 ∧ P6 x1 x2 x3 x4 x5 x6 ∧ P7 x1 x2 x3 x4 x5 x6 ∧ P8 x1 x2 x3 x4 x5 x6 ∧ P9 x1 x2 x3 x4 x5 x6 ∧ P10 x1 x2 x3 x4 x5 x6 := i6_1 (P1 := fun x1 x2 x3 x4 x5 x6 => P1 x1 x2 x3 x4 x5 x6 ∧ P2 x1 x2 x3 x4 x5 x6 ∧ P3 x1 x2 x3 x4 x5 x6 ∧ P4 x1 x2 x3 x4 x5 x6 ∧ P5 x1 x2 x3 x4 x5 x6 ∧ P6 x1 x2 x3 x4 x5 x6 ∧ P7 x1 x2 x3 x4 x5 x6 ∧ P8 x1 x2 x3 x4 x5 x6 ∧ P9 x1 x2 x3 x4 x5 x6 ∧ P10 x1 x2 x3 x4 x5 x6) x1 x2 x3 x4 x5 x6 ⟨h1, h2, h3, h4, h5, h6, h7, h8, h9, h10⟩
theorem i7_5 {P1 P2 P3 P4 P5 : α1 → α2 → α3 → α4 → α5 → α6 → α7 → Prop} (x1 : α1) (x2 : α2) (x3 : α3) (x4 : α4) (x5 : α5) (x6 : α6) (x7 : α7) (h1 : P1 x1 x2 x3 x4 x5 x6 x7) (h2 : P2 x1 x2 x3 x4 x5 x6 x7) (h3 : P3 x1 x2 x3 x4 x5 x6 x7) (h4 : P4 x1 x2 x3 x4 x5 x6 x7) (h5 : P5 x1 x2 x3 x4 x5 x6 x7) : ∃ x1 x2 x3 x4 x5 x6 x7, P1 x1 x2 x3 x4 x5 x6 x7 ∧ P2 x1 x2 x3 x4 x5 x6 x7 ∧ P3 x1 x2 x3 x4 x5 x6 x7 ∧ P4 x1 x2 x3 x4 x5 x6 x7 ∧ P5 x1 x2 x3 x4 x5 x6 x7 := i7_1 (P1 := fun x1 x2 x3 x4 x5 x6 x7 => P1 x1 x2 x3 x4 x5 x6 x7 ∧ P2 x1 x2 x3 x4 x5 x6 x7 ∧ P3 x1 x2 x3 x4 x5 x6 x7 ∧ P4 x1 x2 x3 x4 x5 x6 x7 ∧ P5 x1 x2 x3 x4 x5 x6 x7) x1 x2 x3 x4 x5 x6 x7 ⟨h1, h2, h3, h4, h5⟩
theorem i7_8 {P1 P2 P3 P4 P5 P6 P7 P8 : α1 → α2 → α3 → α4 → α5 → α6 → α7 → Prop} (x1 : α1) (x2 : α2) (x3 : α3) (x4 : α4) (x5 : α5) (x6 : α6) (x7 : α7) (h1 : P1 x1 x2 x3 x4 x5 x6 x7) (h2 : P2 x1 x2 x3 x4 x5 x6 x7) (h3 : P3 x1 x2 x3 x4 x5 x6 x7) (h4 : P4 x1 x2 x3 x4 x5 x6 x7) (h5 : P5 x1 x2 x3 x4 x5 x6 x7) (h6 : P6 x1 x2 x3 x4 x5 x6 x7) (h7 : P7 x1 x2 x3 x4 x5 x6 x7) (h8 : P8 x1 x2 x3 x4 x5 x6 x7) : ∃ x1 x2 x3 x4 x5 x6 x7, P1 x1 x2 x3 x4 x5 x6 x7 ∧ P2 x1 x2 x3 x4 x5 x6 x7 ∧ P3 x1 x2 x3 x4 x5 x6 x7 ∧ P4 x1 x2 x3 x4 x5 x6 x7 ∧ P5 x1 x2 x3 x4 x5 x6 x7 ∧ P6 x1 x2 x3 x4 x5 x6 x7 ∧ P7 x1 x2 x3 x4 x5 x6 x7 ∧ P8 x1 x2 x3 x4 x5 x6 x7 := i7_1 (P1 := fun x1 x2 x3 x4 x5 x6 x7 => P1 x1 x2 x3 x4 x5 x6 x7 ∧ P2 x1 x2 x3 x4 x5 x6 x7 ∧ P3 x1 x2 x3 x4 x5 x6 x7 ∧ P4 x1 x2 x3 x4 x5 x6 x7 ∧ P5 x1 x2 x3 x4 x5 x6 x7 ∧ P6 x1 x2 x3 x4 x5 x6 x7 ∧ P7 x1 x2 x3 x4 x5 x6 x7 ∧ P8 x1 x2 x3 x4 x5 x6 x7) x1 x2 x3 x4 x5 x6 x7 ⟨h1, h2, h3, h4, h5, h6, h7, h8⟩
theorem i8_9 {P1 P2 P3 P4 P5 P6 P7 P8 P9 : α1 → α2 → α3 → α4 → α5 → α6 → α7 → α8 → Prop} (x1 : α1) (x2 : α2) (x3 : α3) (x4 : α4) (x5 : α5) (x6 : α6) (x7 : α7) (x8 : α8) (h1 : P1 x1 x2 x3 x4 x5 x6 x7 x8) (h2 : P2 x1 x2 x3 x4 x5 x6 x7 x8) (h3 : P3 x1 x2 x3 x4 x5 x6 x7 x8) (h4 : P4 x1 x2 x3 x4 x5 x6 x7 x8) (h5 : P5 x1 x2 x3 x4 x5 x6 x7 x8) (h6 : P6 x1 x2 x3 x4 x5 x6 x7 x8) (h7 : P7 x1 x2 x3 x4 x5 x6 x7 x8) (h8 : P8 x1 x2 x3 x4 x5 x6 x7 x8) (h9 : P9 x1 x2 x3 x4 x5 x6 x7 x8) : ∃ x1 x2 x3 x4 x5 x6 x7 x8, P1 x1 x2 x3 x4 x5 x6 x7 x8 ∧ P2 x1 x2 x3 x4 x5 x6 x7 x8 ∧ P3 x1 x2 x3 x4 x5 x6 x7 x8 ∧ P4 x1 x2 x3 x4 x5 x6 x7 x8 ∧ P5 x1 x2 x3 x4 x5 x6 x7 x8 ∧ P6 x1 x2 x3 x4 x5 x6 x7 x8 ∧ P7 x1 x2 x3 x4 x5 x6 x7 x8 ∧ P8 x1 x2 x3 x4 x5 x6 x7 x8 ∧ P9 x1 x2 x3 x4 x5 x6 x7 x8 := i8_1 (P1 := fun x1 x2 x3 x4 x5 x6 x7 x8 => P1 x1 x2 x3 x4 x5 x6 x7 x8 ∧ P2 x1 x2 x3 x4 x5 x6 x7 x8 ∧ P3 x1 x2 x3 x4 x5 x6 x7 x8 ∧ P4 x1 x2 x3 x4 x5 x6 x7 x8 ∧ P5 x1 x2 x3 x4 x5 x6 x7 x8 ∧ P6 x1 x2 x3 x4 x5 x6 x7 x8 ∧ P7 x1 x2 x3 x4 x5 x6 x7 x8 ∧ P8 x1 x2 x3 x4 x5 x6 x7 x8 ∧ P9 x1 x2 x3 x4 x5 x6 x7 x8) x1 x2 x3 x4 x5 x6 x7 x8 ⟨h1, h2, h3, h4, h5, h6, h7, h8, h9⟩
theorem i8_13 {P1 P2 P3 P4 P5 P6 P7 P8 P9 P10 P11 P12 P13 : α1 → α2 → α3 → α4 → α5 → α6 → α7 → α8 → Prop} (x1 : α1) (x2 : α2) (x3 : α3) (x4 : α4) (x5 : α5) (x6 : α6) (x7 : α7) (x8 : α8) (h1 : P1 x1 x2 x3 x4 x5 x6 x7 x8) (h2 : P2 x1 x2 x3 x4 x5 x6 x7 x8) (h3 : P3 x1 x2 x3 x4 x5 x6 x7 x8) (h4 : P4 x1 x2 x3 x4 x5 x6 x7 x8) (h5 : P5 x1 x2 x3 x4 x5 x6 x7 x8) (h6 : P6 x1 x2 x3 x4 x5 x6 x7 x8) (h7 : P7 x1 x2 x3 x4 x5 x6 x7 x8) (h8 : P8 x1 x2 x3 x4 x5 x6 x7 x8) (h9 : P9 x1 x2 x3 x4 x5 x6 x7 x8) (h10 : P10 x1 x2 x3 x4 x5 x6 x7 x8) (h11 : P11 x1 x2 x3 x4 x5 x6 x7 x8) (h12 : P12 x1 x2 x3 x4 x5 x6 x7 x8) (h13 : P13 x1 x2 x3 x4 x5 x6 x7 x8) : ∃ x1 x2 x3 x4 x5 x6 x7 x8, P1 x1 x2 x3 x4 x5 x6 x7 x8 ∧ P2 x1 x2 x3 x4 x5 x6 x7 x8 ∧ P3 x1 x2 x3 x4 x5 x6 x7 x8 ∧ P4 x1 x2 x3 x4 x5 x6 x7 x8 ∧ P5 x1 x2 x3 x4 x5 x6 x7 x8 ∧ P6 x1 x2 x3 x4 x5 x6 x7 x8 ∧ P7 x1 x2 x3 x4 x5 x6 x7 x8 ∧ P8 x1 x2 x3 x4 x5 x6 x7 x8 ∧ P9 x1 x2 x3 x4 x5 x6 x7 x8 ∧ P10 x1 x2 x3 x4 x5 x6 x7 x8 ∧ P11 x1 x2 x3 x4 x5 x6 x7 x8 ∧ P12 x1 x2 x3 x4 x5 x6 x7 x8 ∧ P13 x1 x2 x3 x4 x5 x6 x7 x8 := i8_1 (P1 := fun x1 x2 x3 x4 x5 x6 x7 x8 => P1 x1 x2 x3 x4 x5 x6 x7 x8 ∧ P2 x1 x2 x3 x4 x5 x6 x7 x8 ∧ P3 x1 x2 x3 x4 x5 x6 x7 x8 ∧ P4 x1 x2 x3 x4 x5 x6 x7 x8 ∧ P5 x1 x2 x3 x4 x5 x6 x7 x8 ∧ P6 x1 x2 x3 x4 x5 x6 x7 x8 ∧ P7 x1 x2 x3 x4 x5 x6 x7 x8 ∧ P8 x1 x2 x3 x4 x5 x6 x7 x8 ∧ P9 x1 x2 x3 x4 x5 x6 x7 x8 ∧ P10 x1 x2 x3 x4 x5 x6 x7 x8 ∧ P11 x1 x2 x3 x4 x5 x6 x7 x8 ∧ P12 x1 x2 x3 x4 x5 x6 x7 x8 ∧ P13 x1 x2 x3 x4 x5 x6 x7 x8) x1 x2 x3 x4 x5 x6 x7 x8 ⟨h1, h2, h3, h4, h5, h6, h7, h8, h9, h10, h11, h12, h13⟩
theorem i9_10 {P1 P2 P3 P4 P5 P6 P7 P8 P9 P10 : α1 → α2 → α3 → α4 → α5 → α6 → α7 → α8 → α9 → Prop} (x1 : α1) (x2 : α2) (x3 : α3) (x4 : α4) (x5 : α5) (x6 : α6) (x7 : α7) (x8 : α8) (x9 : α9) (h1 : P1 x1 x2 x3 x4 x5 x6 x7 x8 x9) (h2 : P2 x1 x2 x3 x4 x5 x6 x7 x8 x9) (h3 : P3 x1 x2 x3 x4 x5 x6 x7 x8 x9) (h4 : P4 x1 x2 x3 x4 x5 x6 x7 x8 x9) (h5 : P5 x1 x2 x3 x4 x5 x6 x7 x8 x9) (h6 : P6 x1 x2 x3 x4 x5 x6 x7 x8 x9) (h7 : P7 x1 x2 x3 x4 x5 x6 x7 x8 x9) (h8 : P8 x1 x2 x3 x4 x5 x6 x7 x8 x9) (h9 : P9 x1 x2 x3 x4 x5 x6 x7 x8 x9) (h10 : P10 x1 x2 x3 x4 x5 x6 x7 x8 x9) : ∃ x1 x2 x3 x4 x5 x6 x7 x8 x9, P1 x1 x2 x3 x4 x5 x6 x7 x8 x9 ∧ P2 x1 x2 x3 x4 x5 x6 x7 x8 x9 ∧ P3 x1 x2 x3 x4 x5 x6 x7 x8 x9 ∧ P4 x1 x2 x3 x4 x5 x6 x7 x8 x9 ∧ P5 x1 x2 x3 x4 x5 x6 x7 x8 x9 ∧ P6 x1 x2 x3 x4 x5 x6 x7 x8 x9 ∧ P7 x1 x2 x3 x4 x5 x6 x7 x8 x9 ∧ P8 x1 x2 x3 x4 x5 x6 x7 x8 x9 ∧ P9 x1 x2 x3 x4 x5 x6 x7 x8 x9 ∧ P10 x1 x2 x3 x4 x5 x6 x7 x8 x9 := i9_1 (P1 := fun x1 x2 x3 x4 x5 x6 x7 x8 x9 => P1 x1 x2 x3 x4 x5 x6 x7 x8 x9 ∧ P2 x1 x2 x3 x4 x5 x6 x7 x8 x9 ∧ P3 x1 x2 x3 x4 x5 x6 x7 x8 x9 ∧ P4 x1 x2 x3 x4 x5 x6 x7 x8 x9 ∧ P5 x1 x2 x3 x4 x5 x6 x7 x8 x9 ∧ P6 x1 x2 x3 x4 x5 x6 x7 x8 x9 ∧ P7 x1 x2 x3 x4 x5 x6 x7 x8 x9 ∧ P8 x1 x2 x3 x4 x5 x6 x7 x8 x9 ∧ P9 x1 x2 x3 x4 x5 x6 x7 x8 x9 ∧ P10 x1 x2 x3 x4 x5 x6 x7 x8 x9) x1 x2 x3 x4 x5 x6 x7 x8 x9 ⟨h1, h2, h3, h4, h5, h6, h7, h8, h9, h10⟩
theorem i10_12 {P1 P2 P3 P4 P5 P6 P7 P8 P9 P10 P11 P12 : α1 → α2 → α3 → α4 → α5 → α6 → α7 → α8 → α9 → α10 → Prop} (x1 : α1) (x2 : α2) (x3 : α3) (x4 : α4) (x5 : α5) (x6 : α6) (x7 : α7) (x8 : α8) (x9 : α9) (x10 : α10) (h1 : P1 x1 x2 x3 x4 x5 x6 x7 x8 x9 x10) (h2 : P2 x1 x2 x3 x4 x5 x6 x7 x8 x9 x10) (h3 : P3 x1 x2 x3 x4 x5 x6 x7 x8 x9 x10) (h4 : P4 x1 x2 x3 x4 x5 x6 x7 x8 x9 x10) (h5 : P5 x1 x2 x3 x4 x5 x6 x7 x8 x9 x10) (h6 : P6 x1 x2 x3 x4 x5 x6 x7 x8 x9 x10) (h7 : P7 x1 x2 x3 x4 x5 x6 x7 x8 x9 x10) (h8 : P8 x1 x2 x3 x4 x5 x6 x7 x8 x9 x10) (h9 : P9 x1 x2 x3 x4 x5 x6 x7 x8 x9 x10) (h10 : P10 x1 x2 x3 x4 x5 x6 x7 x8 x9 x10) (h11 : P11 x1 x2 x3 x4 x5 x6 x7 x8 x9 x10) (h12 : P12 x1 x2 x3 x4 x5 x6 x7 x8 x9 x10) : ∃ x1 x2 x3 x4 x5 x6 x7 x8 x9 x10, P1 x1 x2 x3 x4 x5 x6 x7 x8 x9 x10 ∧ P2 x1 x2 x3 x4 x5 x6 x7 x8 x9 x10 ∧ P3 x1 x2 x3 x4 x5 x6 x7 x8 x9 x10 ∧ P4 x1 x2 x3 x4 x5 x6 x7 x8 x9 x10 ∧ P5 x1 x2 x3 x4 x5 x6 x7 x8 x9 x10 ∧ P6 x1 x2 x3 x4 x5 x6 x7 x8 x9 x10 ∧ P7 x1 x2 x3 x4 x5 x6 x7 x8 x9 x10 ∧ P8 x1 x2 x3 x4 x5 x6 x7 x8 x9 x10 ∧ P9 x1 x2 x3 x4 x5 x6 x7 x8 x9 x10 ∧ P10 x1 x2 x3 x4 x5 x6 x7 x8 x9 x10 ∧ P11 x1 x2 x3 x4 x5 x6 x7 x8 x9 x10 ∧ P12 x1 x2 x3 x4 x5 x6 x7 x8 x9 x10 := i10_1 (P1 := fun x1 x2 x3 x4 x5 x6 x7 x8 x9 x10 => P1 x1 x2 x3 x4 x5 x6 x7 x8 x9 x10 ∧ P2 x1 x2 x3 x4 x5 x6 x7 x8 x9 x10 ∧ P3 x1 x2 x3 x4 x5 x6 x7 x8 x9 x10 ∧ P4 x1 x2 x3 x4 x5 x6 x7 x8 x9 x10 ∧ P5 x1 x2 x3 x4 x5 x6 x7 x8 x9 x10 ∧ P6 x1 x2 x3 x4 x5 x6 x7 x8 x9 x10 ∧ P7 x1 x2 x3 x4 x5 x6 x7 x8 x9 x10 ∧ P8 x1 x2 x3 x4 x5 x6 x7 x8 x9 x10 ∧ P9 x1 x2 x3 x4 x5 x6 x7 x8 x9 x10 ∧ P10 x1 x2 x3 x4 x5 x6 x7 x8 x9 x10 ∧ P11 x1 x2 x3 x4 x5 x6 x7 x8 x9 x10 ∧ P12 x1 x2 x3 x4 x5 x6 x7 x8 x9 x10) x1 x2 x3 x4 x5 x6 x7 x8 x9 x10 ⟨h1, h2, h3, h4, h5, h6, h7, h8, h9, h10, h11, h12⟩
theorem i10_14 {P1 P2 P3 P4 P5 P6 P7 P8 P9 P10 P11 P12 P13 P14 : α1 → α2 → α3 → α4 → α5 → α6 → α7 → α8 → α9 → α10 → Prop} (x1 : α1) (x2 : α2) (x3 : α3) (x4 : α4) (x5 : α5) (x6 : α6) (x7 : α7) (x8 : α8) (x9 : α9) (x10 : α10) (h1 : P1 x1 x2 x3 x4 x5 x6 x7 x8 x9 x10) (h2 : P2 x1 x2 x3 x4 x5 x6 x7 x8 x9 x10) (h3 : P3 x1 x2 x3 x4 x5 x6 x7 x8 x9 x10) (h4 : P4 x1 x2 x3 x4 x5 x6 x7 x8 x9 x10) (h5 : P5 x1 x2 x3 x4 x5 x6 x7 x8 x9 x10) (h6 : P6 x1 x2 x3 x4 x5 x6 x7 x8 x9 x10) (h7 : P7 x1 x2 x3 x4 x5 x6 x7 x8 x9 x10) (h8 : P8 x1 x2 x3 x4 x5 x6 x7 x8 x9 x10) (h9 : P9 x1 x2 x3 x4 x5 x6 x7 x8 x9 x10) (h10 : P10 x1 x2 x3 x4 x5 x6 x7 x8 x9 x10) (h11 : P11 x1 x2 x3 x4 x5 x6 x7 x8 x9 x10) (h12 : P12 x1 x2 x3 x4 x5 x6 x7 x8 x9 x10) (h13 : P13 x1 x2 x3 x4 x5 x6 x7 x8 x9 x10) (h14 : P14 x1 x2 x3 x4 x5 x6 x7 x8 x9 x10) : ∃ x1 x2 x3 x4 x5 x6 x7 x8 x9 x10, P1 x1 x2 x3 x4 x5 x6 x7 x8 x9 x10 ∧ P2 x1 x2 x3 x4 x5 x6 x7 x8 x9 x10 ∧ P3 x1 x2 x3 x4 x5 x6 x7 x8 x9 x10 ∧ P4 x1 x2 x3 x4 x5 x6 x7 x8 x9 x10 ∧ P5 x1 x2 x3 x4 x5 x6 x7 x8 x9 x10 ∧ P6 x1 x2 x3 x4 x5 x6 x7 x8 x9 x10 ∧ P7 x1 x2 x3 x4 x5 x6 x7 x8 x9 x10 ∧ P8 x1 x2 x3 x4 x5 x6 x7 x8 x9 x10 ∧ P9 x1 x2 x3 x4 x5 x6 x7 x8 x9 x10 ∧ P10 x1 x2 x3 x4 x5 x6 x7 x8 x9 x10 ∧ P11 x1 x2 x3 x4 x5 x6 x7 x8 x9 x10 ∧ P12 x1 x2 x3 x4 x5 x6 x7 x8 x9 x10 ∧ P13 x1 x2 x3 x4 x5 x6 x7 x8 x9 x10 ∧ P14 x1 x2 x3 x4 x5 x6 x7 x8 x9 x10 := i10_1 (P1 := fun x1 x2 x3 x4 x5 x6 x7 x8 x9 x10 => P1 x1 x2 x3 x4 x5 x6 x7 x8 x9 x10 ∧ P2 x1 x2 x3 x4 x5 x6 x7 x8 x9 x10 ∧ P3 x1 x2 x3 x4 x5 x6 x7 x8 x9 x10 ∧ P4 x1 x2 x3 x4 x5 x6 x7 x8 x9 x10 ∧ P5 x1 x2 x3 x4 x5 x6 x7 x8 x9 x10 ∧ P6 x1 x2 x3 x4 x5 x6 x7 x8 x9 x10 ∧ P7 x1 x2 x3 x4 x5 x6 x7 x8 x9 x10 ∧ P8 x1 x2 x3 x4 x5 x6 x7 x8 x9 x10 ∧ P9 x1 x2 x3 x4 x5 x6 x7 x8 x9 x10 ∧ P10 x1 x2 x3 x4 x5 x6 x7 x8 x9 x10 ∧ P11 x1 x2 x3 x4 x5 x6 x7 x8 x9 x10 ∧ P12 x1 x2 x3 x4 x5 x6 x7 x8 x9 x10 ∧ P13 x1 x2 x3 x4 x5 x6 x7 x8 x9 x10 ∧ P14 x1 x2 x3 x4 x5 x6 x7 x8 x9 x10) x1 x2 x3 x4 x5 x6 x7 x8 x9 x10 ⟨h1, h2, h3, h4, h5, h6, h7, h8, h9, h10, h11, h12, h13, h14⟩
theorem x0_2 {P1 P2 : Prop} (h : P1 ∧ P2) (k : P1 → P2 → C) : C := (k h.1 h.2)
theorem x0_3 {P1 P2 P3 : Prop} (h : P1 ∧ P2 ∧ P3) (k : P1 → P2 → P3 → C) : C := (k h.1 h.2.1 h.2.2)
theorem x0_4 {P1 P2 P3 P4 : Prop} (h : P1 ∧ P2 ∧ P3 ∧ P4) (k : P1 → P2 → P3 → P4 → C) : C := (k h.1 h.2.1 h.2.2.1 h.2.2.2)
theorem x0_5 {P1 P2 P3 P4 P5 : Prop} (h : P1 ∧ P2 ∧ P3 ∧ P4 ∧ P5) (k : P1 → P2 → P3 → P4 → P5 → C) : C := (k h.1 h.2.1 h.2.2.1 h.2.2.2.1 h.2.2.2.2)
theorem x0_6 {P1 P2 P3 P4 P5 P6 : Prop} (h : P1 ∧ P2 ∧ P3 ∧ P4 ∧ P5 ∧ P6) (k : P1 → P2 → P3 → P4 → P5 → P6 → C) : C := (k h.1 h.2.1 h.2.2.1 h.2.2.2.1 h.2.2.2.2.1 h.2.2.2.2.2)
theorem x0_7 {P1 P2 P3 P4 P5 P6 P7 : Prop} (h : P1 ∧ P2 ∧ P3 ∧ P4 ∧ P5 ∧ P6 ∧ P7) (k : P1 → P2 → P3 → P4 → P5 → P6 → P7 → C) : C := (k h.1 h.2.1 h.2.2.1 h.2.2.2.1 h.2.2.2.2.1 h.2.2.2.2.2.1 h.2.2.2.2.2.2)
theorem x0_8 {P1 P2 P3 P4 P5 P6 P7 P8 : Prop} (h : P1 ∧ P2 ∧ P3 ∧ P4 ∧ P5 ∧ P6 ∧ P7 ∧ P8) (k : P1 → P2 → P3 → P4 → P5 → P6 → P7 → P8 → C) : C := (k h.1 h.2.1 h.2.2.1 h.2.2.2.1 h.2.2.2.2.1 h.2.2.2.2.2.1 h.2.2.2.2.2.2.1 h.2.2.2.2.2.2.2)
theorem x0_9 {P1 P2 P3 P4 P5 P6 P7 P8 P9 : Prop} (h : P1 ∧ P2 ∧ P3 ∧ P4 ∧ P5 ∧ P6 ∧ P7 ∧ P8 ∧ P9) (k : P1 → P2 → P3 → P4 → P5 → P6 → P7 → P8 → P9 → C) : C := (k h.1 h.2.1 h.2.2.1 h.2.2.2.1 h.2.2.2.2.1 h.2.2.2.2.2.1 h.2.2.2.2.2.2.1 h.2.2.2.2.2.2.2.1 h.2.2.2.2.2.2.2.2)
theorem x0_10 {P1 P2 P3 P4 P5 P6 P7 P8 P9 P10 : Prop} (h : P1 ∧ P2 ∧ P3 ∧ P4 ∧ P5 ∧ P6 ∧ P7 ∧ P8 ∧ P9 ∧ P10) (k : P1 → P2 → P3 → P4 → P5 → P6 → P7 → P8 → P9 → P10 → C) : C := (k h.1 h.2.1 h.2.2.1 h.2.2.2.1 h.2.2.2.2.1 h.2.2.2.2.2.1 h.2.2.2.2.2.2.1 h.2.2.2.2.2.2.2.1 h.2.2.2.2.2.2.2.2.1 h.2.2.2.2.2.2.2.2.2)
theorem x0_12 {P1 P2 P3 P4 P5 P6 P7 P8 P9 P10 P11 P12 : Prop} (h : P1 ∧ P2 ∧ P3 ∧ P4 ∧ P5 ∧ P6 ∧ P7 ∧ P8 ∧ P9 ∧ P10 ∧ P11 ∧ P12) (k : P1 → P2 → P3 → P4 → P5 → P6 → P7 → P8 → P9 → P10 → P11 → P12 → C) : C := (k h.1 h.2.1 h.2.2.1 h.2.2.2.1 h.2.2.2.2.1 h.2.2.2.2.2.1 h.2.2.2.2.2.2.1 h.2.2.2.2.2.2.2.1 h.2.2.2.2.2.2.2.2.1 h.2.2.2.2.2.2.2.2.2.1 h.2.2.2.2.2.2.2.2.2.2.1 h.2.2.2.2.2.2.2.2.2.2.2)
theorem x0_13 {P1 P2 P3 P4 P5 P6 P7 P8 P9 P10 P11 P12 P13 : Prop} (h : P1 ∧ P2 ∧ P3 ∧ P4 ∧ P5 ∧ P6 ∧ P7 ∧ P8 ∧ P9 ∧ P10 ∧ P11 ∧ P12 ∧ P13) (k : P1 → P2 → P3 → P4 → P5 → P6 → P7 → P8 → P9 → P10 → P11 → P12 → P13 → C) : C := (k h.1 h.2.1 h.2.2.1 h.2.2.2.1 h.2.2.2.2.1 h.2.2.2.2.2.1 h.2.2.2.2.2.2.1 h.2.2.2.2.2.2.2.1 h.2.2.2.2.2.2.2.2.1 h.2.2.2.2.2.2.2.2.2.1 h.2.2.2.2.2.2.2.2.2.2.1 h.2.2.2.2.2.2.2.2.2.2.2.1 h.2.2.2.2.2.2.2.2.2.2.2.2)
theorem x0_14 {P1 P2 P3 P4 P5 P6 P7 P8 P9 P10 P11 P12 P13 P14 : Prop} (h : P1 ∧ P2 ∧ P3 ∧ P4 ∧ P5 ∧ P6 ∧ P7 ∧ P8 ∧ P9 ∧ P10 ∧ P11 ∧ P12 ∧ P13 ∧ P14) (k : P1 → P2 → P3 → P4 → P5 → P6 → P7 → P8 → P9 → P10 → P11 → P12 → P13 → P14 → C) : C := (k h.1 h.2.1 h.2.2.1 h.2.2.2.1 h.2.2.2.2.1 h.2.2.2.2.2.1 h.2.2.2.2.2.2.1 h.2.2.2.2.2.2.2.1 h.2.2.2.2.2.2.2.2.1 h.2.2.2.2.2.2.2.2.2.1 h.2.2.2.2.2.2.2.2.2.2.1 h.2.2.2.2.2.2.2.2.2.2.2.1 h.2.2.2.2.2.2.2.2.2.2.2.2.1 h.2.2.2.2.2.2.2.2.2.2.2.2.2)
theorem x1_1 {P1 : α1 → Prop} (h : ∃ x1, P1 x1) (k : ∀ x1, P1 x1 → C) : C := h.elim k
theorem x2_1 {P1 : α1 → α2 → Prop} (h : ∃ x1 x2, P1 x1 x2) (k : ∀ x1 x2, P1 x1 x2 → C) : C := h.elim fun x1 h => h.elim fun x2 h => k x1 x2 h
theorem x3_1 {P1 : α1 → α2 → α3 → Prop} (h : ∃ x1 x2 x3, P1 x1 x2 x3) (k : ∀ x1 x2 x3, P1 x1 x2 x3 → C) : C := h.elim fun x1 h => h.elim fun x2 h => h.elim fun x3 h => k x1 x2 x3 h
theorem x4_1 {P1 : α1 → α2 → α3 → α4 → Prop} (h : ∃ x1 x2 x3 x4, P1 x1 x2 x3 x4) (k : ∀ x1 x2 x3 x4, P1 x1 x2 x3 x4 → C) : C := h.elim fun x1 h => h.elim fun x2 h => h.elim fun x3 h => h.elim fun x4 h => k x1 x2 x3 x4 h
theorem x5_1 {P1 : α1 → α2 → α3 → α4 → α5 → Prop} (h : ∃ x1 x2 x3 x4 x5, P1 x1 x2 x3 x4 x5) (k : ∀ x1 x2 x3 x4 x5, P1 x1 x2 x3 x4 x5 → C) : C := h.elim fun x1 h => h.elim fun x2 h => h.elim fun x3 h => h.elim fun x4 h => h.elim fun x5 h => k x1 x2 x3 x4 x5 h
theorem x6_1 {P1 : α1 → α2 → α3 → α4 → α5 → α6 → Prop} (h : ∃ x1 x2 x3 x4 x5 x6, P1 x1 x2 x3 x4 x5 x6) (k : ∀ x1 x2 x3 x4 x5 x6, P1 x1 x2 x3 x4 x5 x6 → C) : C := h.elim fun x1 h => h.elim fun x2 h => h.elim fun x3 h => h.elim fun x4 h => h.elim fun x5 h => h.elim fun x6 h => k x1 x2 x3 x4 x5 x6 h
theorem x7_1 {P1 : α1 → α2 → α3 → α4 → α5 → α6 → α7 → Prop} (h : ∃ x1 x2 x3 x4 x5 x6 x7, P1 x1 x2 x3 x4 x5 x6 x7) (k : ∀ x1 x2 x3 x4 x5 x6 x7, P1 x1 x2 x3 x4 x5 x6 x7 → C) : C := h.elim fun x1 h => h.elim fun x2 h => h.elim fun x3 h => h.elim fun x4 h => h.elim fun x5 h => h.elim fun x6 h => h.elim fun x7 h => k x1 x2 x3 x4 x5 x6 x7 h
theorem x8_1 {P1 : α1 → α2 → α3 → α4 → α5 → α6 → α7 → α8 → Prop} (h : ∃ x1 x2 x3 x4 x5 x6 x7 x8, P1 x1 x2 x3 x4 x5 x6 x7 x8) (k : ∀ x1 x2 x3 x4 x5 x6 x7 x8, P1 x1 x2 x3 x4 x5 x6 x7 x8 → C) : C := h.elim fun x1 h => h.elim fun x2 h => h.elim fun x3 h => h.elim fun x4 h => h.elim fun x5 h => h.elim fun x6 h => h.elim fun x7 h => h.elim fun x8 h => k x1 x2 x3 x4 x5 x6 x7 x8 h
theorem x9_1 {P1 : α1 → α2 → α3 → α4 → α5 → α6 → α7 → α8 → α9 → Prop} (h : ∃ x1 x2 x3 x4 x5 x6 x7 x8 x9, P1 x1 x2 x3 x4 x5 x6 x7 x8 x9) (k : ∀ x1 x2 x3 x4 x5 x6 x7 x8 x9, P1 x1 x2 x3 x4 x5 x6 x7 x8 x9 → C) : C := h.elim fun x1 h => h.elim fun x2 h => h.elim fun x3 h => h.elim fun x4 h => h.elim fun x5 h => h.elim fun x6 h => h.elim fun x7 h => h.elim fun x8 h => h.elim fun x9 h => k x1 x2 x3 x4 x5 x6 x7 x8 x9 h
theorem x10_1 {P1 : α1 → α2 → α3 → α4 → α5 → α6 → α7 → α8 → α9 → α10 → Prop} (h : ∃ x1 x2 x3 x4 x5 x6 x7 x8 x9 x10, P1 x1 x2 x3 x4 x5 x6 x7 x8 x9 x10) (k : ∀ x1 x2 x3 x4 x5 x6 x7 x8 x9 x10, P1 x1 x2 x3 x4 x5 x6 x7 x8 x9 x10 → C) : C := h.elim fun x1 h => h.elim fun x2 h => h.elim fun x3 h => h.elim fun x4 h => h.elim fun x5 h => h.elim fun x6 h => h.elim fun x7 h => h.elim fun x8 h => h.elim fun x9 h => h.elim fun x10 h => k x1 x2 x3 x4 x5 x6 x7 x8 x9 x10 h
theorem x1_2 {P1 P2 : α1 → Prop} (h : ∃ x1, P1 x1 ∧ P2 x1) (k : ∀ x1, P1 x1 → P2 x1 → C) : C := x1_1 h fun x1 h => x0_2 h (k x1)
theorem x1_3 {P1 P2 P3 : α1 → Prop} (h : ∃ x1, P1 x1 ∧ P2 x1 ∧ P3 x1) (k : ∀ x1, P1 x1 → P2 x1 → P3 x1 → C) : C := x1_1 h fun x1 h => x0_3 h (k x1)
theorem x1_4 {P1 P2 P3 P4 : α1 → Prop} (h : ∃ x1, P1 x1 ∧ P2 x1 ∧ P3 x1 ∧ P4 x1) (k : ∀ x1, P1 x1 → P2 x1 → P3 x1 → P4 x1 → C) : C := x1_1 h fun x1 h => x0_4 h (k x1)
theorem x1_5 {P1 P2 P3 P4 P5 : α1 → Prop} (h : ∃ x1, P1 x1 ∧ P2 x1 ∧ P3 x1 ∧ P4 x1 ∧ P5 x1) (k : ∀ x1, P1 x1 → P2 x1 → P3 x1 → P4 x1 → P5 x1 → C) : C := x1_1 h fun x1 h => x0_5 h (k x1)
theorem x1_6 {P1 P2 P3 P4 P5 P6 : α1 → Prop} (h : ∃ x1, P1 x1 ∧ P2 x1 ∧ P3 x1 ∧ P4 x1 ∧ P5 x1 ∧ P6 x1) (k : ∀ x1, P1 x1 → P2 x1 → P3 x1 → P4 x1 → P5 x1 → P6 x1 → C) : C := x1_1 h fun x1 h => x0_6 h (k x1)
theorem x2_2 {P1 P2 : α1 → α2 → Prop} (h : ∃ x1 x2, P1 x1 x2 ∧ P2 x1 x2) (k : ∀ x1 x2, P1 x1 x2 → P2 x1 x2 → C) : C := x2_1 h fun x1 x2 h => x0_2 h (k x1 x2)
theorem x2_3 {P1 P2 P3 : α1 → α2 → Prop} (h : ∃ x1 x2, P1 x1 x2 ∧ P2 x1 x2 ∧ P3 x1 x2) (k : ∀ x1 x2, P1 x1 x2 → P2 x1 x2 → P3 x1 x2 → C) : C := x2_1 h fun x1 x2 h => x0_3 h (k x1 x2)
theorem x2_4 {P1 P2 P3 P4 : α1 → α2 → Prop} (h : ∃ x1 x2, P1 x1 x2 ∧ P2 x1 x2 ∧ P3 x1 x2 ∧ P4 x1 x2) (k : ∀ x1 x2, P1 x1 x2 → P2 x1 x2 → P3 x1 x2 → P4 x1 x2 → C) : C := x2_1 h fun x1 x2 h => x0_4 h (k x1 x2)
theorem x2_5 {P1 P2 P3 P4 P5 : α1 → α2 → Prop} (h : ∃ x1 x2, P1 x1 x2 ∧ P2 x1 x2 ∧ P3 x1 x2 ∧ P4 x1 x2 ∧ P5 x1 x2) (k : ∀ x1 x2, P1 x1 x2 → P2 x1 x2 → P3 x1 x2 → P4 x1 x2 → P5 x1 x2 → C) : C := x2_1 h fun x1 x2 h => x0_5 h (k x1 x2)
theorem x2_6 {P1 P2 P3 P4 P5 P6 : α1 → α2 → Prop} (h : ∃ x1 x2, P1 x1 x2 ∧ P2 x1 x2 ∧ P3 x1 x2 ∧ P4 x1 x2 ∧ P5 x1 x2 ∧ P6 x1 x2) (k : ∀ x1 x2, P1 x1 x2 → P2 x1 x2 → P3 x1 x2 → P4 x1 x2 → P5 x1 x2 → P6 x1 x2 → C) : C := x2_1 h fun x1 x2 h => x0_6 h (k x1 x2)
theorem x2_7 {P1 P2 P3 P4 P5 P6 P7 : α1 → α2 → Prop} (h : ∃ x1 x2, P1 x1 x2 ∧ P2 x1 x2 ∧ P3 x1 x2 ∧ P4 x1 x2 ∧ P5 x1 x2 ∧ P6 x1 x2 ∧ P7 x1 x2) (k : ∀ x1 x2, P1 x1 x2 → P2 x1 x2 → P3 x1 x2 → P4 x1 x2 → P5 x1 x2 → P6 x1 x2 → P7 x1 x2 → C) : C := x2_1 h fun x1 x2 h => x0_7 h (k x1 x2)
theorem x2_8 {P1 P2 P3 P4 P5 P6 P7 P8 : α1 → α2 → Prop} (h : ∃ x1 x2, P1 x1 x2 ∧ P2 x1 x2 ∧ P3 x1 x2 ∧ P4 x1 x2 ∧ P5 x1 x2 ∧ P6 x1 x2 ∧ P7 x1 x2 ∧ P8 x1 x2) (k : ∀ x1 x2, P1 x1 x2 → P2 x1 x2 → P3 x1 x2 → P4 x1 x2 → P5 x1 x2 → P6 x1 x2 → P7 x1 x2 → P8 x1 x2 → C) : C := x2_1 h fun x1 x2 h => x0_8 h (k x1 x2)
theorem x3_2 {P1 P2 : α1 → α2 → α3 → Prop} (h : ∃ x1 x2 x3, P1 x1 x2 x3 ∧ P2 x1 x2 x3) (k : ∀ x1 x2 x3, P1 x1 x2 x3 → P2 x1 x2 x3 → C) : C := x3_1 h fun x1 x2 x3 h => x0_2 h (k x1 x2 x3)
theorem x3_3 {P1 P2 P3 : α1 → α2 → α3 → Prop} (h : ∃ x1 x2 x3, P1 x1 x2 x3 ∧ P2 x1 x2 x3 ∧ P3 x1 x2 x3) (k : ∀ x1 x2 x3, P1 x1 x2 x3 → P2 x1 x2 x3 → P3 x1 x2 x3 → C) : C := x3_1 h fun x1 x2 x3 h => x0_3 h (k x1 x2 x3)
theorem x3_4 {P1 P2 P3 P4 : α1 → α2 → α3 → Prop} (h : ∃ x1 x2 x3, P1 x1 x2 x3 ∧ P2 x1 x2 x3 ∧ P3 x1 x2 x3 ∧ P4 x1 x2 x3) (k : ∀ x1 x2 x3, P1 x1 x2 x3 → P2 x1 x2 x3 → P3 x1 x2 x3 → P4 x1 x2 x3 → C) : C := x3_1 h fun x1 x2 x3 h => x0_4 h (k x1 x2 x3)
theorem x3_5 {P1 P2 P3 P4 P5 : α1 → α2 → α3 → Prop} (h : ∃ x1 x2 x3, P1 x1 x2 x3 ∧ P2 x1 x2 x3 ∧ P3 x1 x2 x3 ∧ P4 x1 x2 x3 ∧ P5 x1 x2 x3) (k : ∀ x1 x2 x3, P1 x1 x2 x3 → P2 x1 x2 x3 → P3 x1 x2 x3 → P4 x1 x2 x3 → P5 x1 x2 x3 → C) : C := x3_1 h fun x1 x2 x3 h => x0_5 h (k x1 x2 x3)
theorem x4_4 {P1 P2 P3 P4 : α1 → α2 → α3 → α4 → Prop} (h : ∃ x1 x2 x3 x4, P1 x1 x2 x3 x4 ∧ P2 x1 x2 x3 x4 ∧ P3 x1 x2 x3 x4 ∧ P4 x1 x2 x3 x4) (k : ∀ x1 x2 x3 x4, P1 x1 x2 x3 x4 → P2 x1 x2 x3 x4 → P3 x1 x2 x3 x4 → P4 x1 x2 x3 x4 → C) : C := x4_1 h fun x1 x2 x3 x4 h => x0_4 h (k x1 x2 x3 x4)
theorem x6_4 {P1 P2 P3 P4 : α1 → α2 → α3 → α4 → α5 → α6 → Prop} (h : ∃ x1 x2 x3 x4 x5 x6, P1 x1 x2 x3 x4 x5 x6 ∧ P2 x1 x2 x3 x4 x5 x6 ∧ P3 x1 x2 x3 x4 x5 x6 ∧ P4 x1 x2 x3 x4 x5 x6) (k : ∀ x1 x2 x3 x4 x5 x6, P1 x1 x2 x3 x4 x5 x6 → P2 x1 x2 x3 x4 x5 x6 → P3 x1 x2 x3 x4 x5 x6 → P4 x1 x2 x3 x4 x5 x6 → C) : C := x6_1 h fun x1 x2 x3 x4 x5 x6 h => x0_4 h (k x1 x2 x3 x4 x5 x6)
theorem ol1 {a c n : Nat} (h : a + n < c) : a < c := Nat.lt_of_le_of_lt (Nat.le_add_right a n) h
theorem ol2 {a c n m : Nat} (h : a + n < c) (k : m ≤ n) : a + m < c := Nat.lt_of_le_of_lt (Nat.add_le_add_left k a) h
theorem ol3 {a c n m k : Nat} (h : a + n < c) (e : m + k ≤ n) : a + m + k < c := Nat.add_assoc a m k ▸ ol2 h e
theorem ol4 {x n m : Nat} (h : x < n) (k : n ≤ m) : x ≤ m := Nat.le_of_lt (Nat.lt_of_lt_of_le h k)
theorem ol5 {x n m : Nat} (h : x < n) (k : n ≤ m) : x < m := Nat.lt_of_lt_of_le h k
theorem ol6 {x n m : Nat} (h : x ≤ n) (k : n ≤ m) : x ≤ m := Nat.le_trans h k
theorem ol7 {x y : Nat} (h : ¬ x < y) : y ≤ x := Nat.le_of_not_lt h
theorem ol8 {a b x : Nat} (k : x < a) (h : a = b) : x < b := h ▸ k
theorem ol9 {a b x : Nat} (k : x < b) (h : a = b) : x < a := h ▸ k
theorem ol10 {a b x : Nat} (k : x ≤ a) (h : a = b) : x ≤ b := h ▸ k
theorem ol11 {a b x : Nat} (k : x ≤ b) (h : a = b) : x ≤ a := h ▸ k
theorem ol12 {a b n m : Nat} (h : a = b) (k : b < n) (e : n ≤ m) : a ≤ m := h ▸ ol4 k e
theorem ol13 {a b n m : Nat} (h : a = b) (k : b ≤ n) (e : n ≤ m) : a ≤ m := h ▸ ol6 k e
theorem ol14 {n i k : Nat} (h : n - i = k + 1) : i < n := Nat.lt_of_sub_eq_succ h
theorem ol15 {n i : Nat} (h : n - i = 0) : n ≤ i := Nat.le_of_sub_eq_zero h
theorem ol16 {a b : Nat} (h : a < b) : ¬ b = a := Nat.ne_of_gt h
theorem ol17 {a b : Nat} (h : a < b) : ¬ a = b := Nat.ne_of_lt h
@[elab_as_elim] theorem mc1 {β : Type} {motive : β → Prop} {a p : β} {l : List β} (h : p ∈ a :: l) (h0 : motive a) (h1 : p ∈ l → motive p) : motive p := (List.mem_cons.mp h).elim (fun e => e ▸ h0) h1
noncomputable def Stop (P : Prop) : Prop := P
theorem Stop.of {P : Prop} (h : Stop P) : P := h
end Mine
end PartXl

section PartTop
open PySem PySem.W PyProof.Rows
set_option Elab.async false
set_option maxRecDepth 100000
set_option maxHeartbeats 8000000
namespace Mine
theorem gO {α : Type} {a b : Option α} (h : False) : a = b := h.elim
theorem sz0 : (⟨#[]⟩ : Str).length ≤ sizeLine := Nat.zero_le _
theorem said : PySem.Challenge.rw_mg0030_01.wellSaid = true := by decide +kernel
set_option synthInstance.maxSize 1
open_top hd for PySem.Challenge.rw_mg0030_01.row
end Mine
end PartTop

section MacL
open PySem PySem.W PyProof.Rows PySem.Calls in
local macro_rules | `(tactic| isplit) => `(tactic| refine Mine.Stop.of ?_)
open PySem PySem.W PyProof.Rows PySem.Calls in
local macro_rules | `(tactic| omega) => `(tactic| first | with_reducible assumption | ((fail_if_success with_reducible first | intro _ | refine Mine.gO ?_); first | exact Mine.ol1 (by with_reducible assumption) | exact Mine.ol2 (by with_reducible assumption) (by decide) | exact Mine.ol3 (by with_reducible assumption) (by decide) | exact Mine.ol4 (by with_reducible assumption) (by decide) | exact Mine.ol5 (by with_reducible assumption) (by decide) | exact Mine.ol6 (by with_reducible assumption) (by decide) | exact Mine.ol7 (by with_reducible assumption) | exact Mine.ol8 (by with_reducible assumption) (by with_reducible assumption) | exact Mine.ol9 (by with_reducible assumption) (by with_reducible assumption) | exact Mine.ol10 (by with_reducible assumption) (by with_reducible assumption) | exact Mine.ol11 (by with_reducible assumption) (by with_reducible assumption) | exact Mine.ol12 (by with_reducible assumption) (by with_reducible assumption) (by decide) | exact Mine.ol13 (by with_reducible assumption) (by with_reducible assumption) (by decide) | exact Mine.ol14 (by with_reducible assumption) | exact Mine.ol15 (by with_reducible assumption) | exact Mine.ol16 (by with_reducible assumption) | exact Mine.ol17 (by with_reducible assumption) | decide | lia))
open PySem PySem.W PyProof.Rows PySem.Calls in
local macro_rules | `(tactic| size_fits) => `(tactic| with_reducible exact Mine.sz0)
open PySem PySem.W PyProof.Rows PySem.Calls in
local macro_rules | `(tactic| heap_get) => `(tactic| with_reducible assumption)
section PartBase
open PySem PySem.W PyProof.Rows PySem.Calls
set_option Elab.async false
set_option maxRecDepth 100000
set_option maxHeartbeats 8000000
set_option rowWalk.seconds 0
namespace Mine
open TI (Frs SameUp)
noncomputable def fsA (A : Around) : List Addr := (A.frames.getD []).filterMap (·.frame)
noncomputable def view (A : Around) (hid : List Addr) (h : Heap) : Heap := hideAll h (hid ++ fsA A)
structure Here (w : World) (A : Around) (hid : List Addr) (h : Heap) : Prop where
  fr : ∃ l frs, A.frames = some l ∧ Frs l frs ∧ ∀ q ∈ frs, h.get? q.1 = some q.2
  top : ∃ p loose mean mg mb, Top p loose mean mg mb (view A hid h)
  frag : (Mine.hd.heap_1 w.params).In (view A hid h)
structure Ext (A : Around) (hid : List Addr) (h h' : Heap) : Prop where
  keep : (view A hid h).StaysIn (view A hid h')
  frs : ∀ b ∈ fsA A, ∀ o, h.get? b = some o → ∃ sl, h'.get? b = some { o with slots := sl }
theorem StaysIn.trans {a b c : Heap} (x : a.StaysIn b) (y : b.StaysIn c) : a.StaysIn c := fun b o e => y b o (x b o e)
theorem view_le {A : Around} {hid : List Addr} {h : Heap} : (view A hid h).StaysIn h := fun _ _ e => of_hideAll _ e
theorem Ext.trans {A : Around} {hid : List Addr} {a b c : Heap} (x : Ext A hid a b) (y : Ext A hid b c) : Ext A hid a c :=
  ⟨StaysIn.trans x.keep y.keep, fun b hb o e => let ⟨sl, e1⟩ := x.frs b hb o e; let ⟨sl2, e2⟩ := y.frs b hb _ e1; ⟨sl2, e2⟩⟩
theorem Ext.refl {A : Around} {hid : List Addr} {a : Heap} : Ext A hid a a := ⟨fun _ _ e => e, fun _ _ o e => ⟨o.slots, e⟩⟩
theorem Ext.mono {A : Around} {hid : List Addr} {a b : Heap} (x : Ext A [] a b) : Ext A hid a b :=
  ⟨fun c o e => by
    have h1 : c ∉ hid ++ fsA A := fun q => by rw [view, hideAll_none _ q] at e; cases e
    have h2 := of_hideAll _ e
    exact hideAll_get _ (of_hideAll _ (x.keep c o (hideAll_get _ h2 fun q => h1 (List.mem_append_right _ (by simpa using q))))) h1, x.frs⟩
theorem view_get {A : Around} {hid : List Addr} {h : Heap} {b : Addr} {o : Obj} (e : (view A hid h).get? b = some o) : b ∉ hid ++ fsA A ∧ h.get? b = some o :=
  ⟨fun q => (by rw [view, hideAll_none _ q] at e; cases e), of_hideAll _ e⟩
theorem view_of {A : Around} {hid : List Addr} {h : Heap} {b : Addr} {o : Obj} (n : b ∉ hid ++ fsA A) (e : h.get? b = some o) : (view A hid h).get? b = some o := hideAll_get _ e n
theorem Here.ext {w : World} {A : Around} {hid : List Addr} {h h' : Heap} (H : Here w A hid h) (e : Ext A hid h h') : Here w A hid h' := by
  obtain ⟨⟨l, frs, hl, Fs, hf⟩, ⟨p, loose, mean, mg, mb, T⟩, X⟩ := H
  have ha : fsA A = frs.map (·.1) := by unfold fsA; rw [hl]; exact Fs.addrs
  (obtain q81 := TI.sameUp_of (h' := h') fun p hp => e.frs p.1 (by rw [ha]; exact List.mem_map_of_mem hp) p.2 (hf p hp)
   with_reducible refine x1_2 q81 fun frs' SU hf' => ?_
   clear q81)
  exact ⟨(i2_3 l frs' hl (Fs.up SU) hf'), ⟨p, loose, mean, mg, mb, T.keeps e.keep⟩, X.keeps e.keep⟩
theorem Here.frames {w : World} {A A' : Around} {hid : List Addr} {h : Heap} (H : Here w A hid h) (e : A'.frames = A.frames) : Here w A' hid h := by
  obtain ⟨⟨l, frs, hl, Fs, hf⟩, ⟨p, loose, mean, mg, mb, T⟩, X⟩ := H
  have ha : view A' hid h = view A hid h := by unfold view fsA; rw [e]
  exact ⟨(i2_3 l frs (e.trans hl) Fs hf), ⟨p, loose, mean, mg, mb, ha ▸ T⟩, ha ▸ X⟩
noncomputable def QuietB {α : Type} (w : World) (A : Around) (t : Sem α) (s : Shared) (hid : List Addr) (P : α → Heap → Prop) : Prop :=
  ∀ (Q : α → Shared → Prop) (E : Value → Shared → Prop), (∀ r h' tk, Ext A hid s.heap h' → P r h' → Q r { s with heap := h', toks := tk }) → wpAny (model Challenge.rw_mg0030_01.row.prog w) A t Q E s
noncomputable def Quiet {α : Type} (w : World) (A : Around) (t : Sem α) (s : Shared) (P : α → Heap → Prop) : Prop :=
  ∀ (Q : α → Shared → Prop) (E : Value → Shared → Prop), (∀ r h' tk, Ext A [] s.heap h' → P r (view A [] h') → Q r { s with heap := h', toks := tk }) → wpAny (model Challenge.rw_mg0030_01.row.prog w) A t Q E s
inductive Split : List (Addr × Obj) → List (Addr × Obj) → List (Addr × Obj) → Prop
  | nil {frs} : Split frs [] frs
  | cons {p news new frs} : Split news new frs → Split (p :: news) (p :: new) frs
theorem Split.eq {news new frs : List (Addr × Obj)} (x : Split news new frs) : news = new ++ frs := by
  induction x with
  | nil => rfl
  | cons _ ih => rw [ih]; rfl

section
variable {w : World} {A : Around} {hid : List Addr} {h₀ g h h' : Heap} {L : Addr} {m : Str → Option Value} {l : List Env} {frs frs' news new : List (Addr × Obj)} {p : Program} {loose : List Str} {mean : ExcName → Option Value} {mg mb : Str → Option Value} {env : Env}
theorem fsA_deeper (hl : A.frames = some l) (hf : env.frame = some L) : fsA (A.deeper env) = L :: fsA A := by
  unfold fsA
  rw [show (A.deeper env).frames = A.frames.map (env :: ·) from rfl, hl]
  simp [hf]
theorem in_view (F : Fr g L h m) (N : News g L h news) (S : Split news new frs) (Fs : Frs l frs) (hl : A.frames = some l) (hf : env.frame = some L) : g.StaysIn (view (A.deeper env) [] h) := by
  intro b o e
  refine hideAll_get _ (F.keep b o e) ?_
  rw [List.nil_append, fsA_deeper hl hf, show fsA A = frs.map (·.1) by unfold fsA; rw [hl]; exact Fs.addrs]
  exact TI.base_apart F N (fun p hp => by rw [S.eq]; exact List.mem_append_right _ hp) e
theorem new_in_view (F : Fr g L h m) (N : News g L h news) (S : Split news new frs) (Fs : Frs l frs) (hl : A.frames = some l) (hf : env.frame = some L) {a : Addr} {o : Obj} (ha : (a, o) ∈ news) (hn : ∀ es n, o.data ≠ .dict es n) :
    (view (A.deeper env) [] h).get? a = some o := by
  refine hideAll_get _ (N.get ha) ?_
  rw [List.nil_append, fsA_deeper hl hf, show fsA A = frs.map (·.1) by unfold fsA; rw [hl]; exact Fs.addrs]
  intro q
  rcases List.mem_cons.mp q with q | q
  · exact (N _ ha).2.1 q
  · (obtain q82 := List.mem_map.mp q
     with_reducible refine x1_2 q82 fun x hx e => ?_
     clear q82)
    (obtain q83 := Fs.dict x hx
     with_reducible refine x2_1 q83 fun es ep hd => ?_
     clear q83)
    have h2 := (N x (by rw [S.eq]; exact List.mem_append_right _ hx)).1
    have e' : x.1 = a := e
    rw [e', N.get ha] at h2
    cases h2
    exact hn _ _ hd
theorem here_of (hl : A.frames = some l) (Fs : Frs l frs) (F : Fr g L h m) (N : News g L h news) (S : Split news new frs) (X : (Mine.hd.heap_1 w.params).In g) (T : Top p loose mean mg mb g) (hf : env.frame = some L := by rfl) (hk : env.scope.kind = .function := by rfl) :
    Here w (A.deeper env) [] h := by
  have hv := in_view F N S Fs hl hf
  (obtain q91 := id F.ns
   refine x3_3 q91 fun oL es ep ho hd _ => ?_
   clear q91)
  refine ⟨(i2_3 (env :: l) ((L, oL) :: frs) (by rw [show (A.deeper env).frames = A.frames.map (env :: ·) from rfl, hl]; rfl) ⟨by rw [hk]; decide, hf, ⟨es, ep, hd⟩, Fs⟩ (fun q hq => ?_)), ⟨p, loose, mean, mg, mb, T.keeps hv⟩, X.keeps hv⟩
  refine mc1 hq ?_ fun hq => ?_
  · exact ho
  · exact (N q (by rw [S.eq]; exact List.mem_append_right _ hq)).1
theorem back (hl : A.frames = some l) (Fs : Frs l frs) (F : Fr g L h m) (N : News g L h news) (S : Split news new frs) (hf : env.frame = some L) (hd : ∀ p ∈ new, p.1 ∉ frs.map (·.1)) (e : Ext (A.deeper env) [] h h') :
    ∃ frs', SameUp frs frs' ∧ Frs l frs' ∧ Fr g L h' m ∧ News g L h' (new ++ frs') := by
  have ha : fsA A = frs.map (·.1) := by unfold fsA; rw [hl]; exact Fs.addrs
  have hfs := fsA_deeper (env := env) hl hf
  have hs := S.eq
  subst hs
  (obtain q84 := TI.sameUp_of (h' := h') fun p hp => e.frs p.1 (by rw [hfs, ha]; exact List.mem_cons_of_mem _ (List.mem_map_of_mem hp)) p.2 (N p (List.mem_append_right _ hp)).1
   with_reducible refine x1_2 q84 fun frs' SU hf' => ?_
   clear q84)
  (obtain q92 := id F.ns
   refine x3_3 q92 fun oL es ep ho hdL r => ?_
   clear q92)
  obtain ⟨sl, ho'⟩ := e.frs L (by rw [hfs]; exact List.mem_cons_self) oL ho
  have hv := in_view F N S Fs hl hf
  refine (i1_4 frs' SU (Fs.up SU) ⟨(i3_3 _ es ep ho' hdL r), fun b o eb => of_hideAll _ (e.keep b o (hv b o eb)), F.above⟩ (fun p hp => ?_))
  rcases List.mem_append.mp hp with hp | hp
  · have hN := N p (List.mem_append_left _ hp)
    refine ⟨of_hideAll _ (e.keep _ _ (view_of ?_ hN.1)), hN.2⟩
    rw [List.nil_append, hfs, ha]
    intro q
    rcases List.mem_cons.mp q with q | q
    · exact hN.2.1 q
    · exact hd p hp q
  · (obtain q85 := SU.fwd p hp
     with_reducible refine x1_2 q85 fun x hx q => ?_
     clear q85)
    have hN := N x (List.mem_append_right _ hx)
    exact ⟨hf' p hp, by rw [q]; exact hN.2.1, by rw [q]; exact hN.2.2⟩
theorem back_int {frs0 : List (Addr × Obj)} {z : Int} {G : Value → Heap → Nat → Prop} (hl : A.frames = some l) (Fs : Frs l frs) (F : Fr g L h m) (N : News g L h news) (S : Split news new frs) (hf : env.frame = some L) (hd : ∀ p ∈ new, p.1 ∉ frs.map (·.1)) (SU0 : SameUp frs0 frs)
    (k : ∀ t h' tk frs', SameUp frs0 frs' → Frs l frs' → Fr g L h' m → News g L h' (new ++ frs') → G (.int z t) h' tk) : ∀ (r : Value) (h' : Heap) (tk : Nat), Ext (A.deeper env) [] h h' → (∃ t, r = .int z t) → G r h' tk := by
  intro r h' tk e p
  obtain ⟨t, rfl⟩ := p
  with_reducible refine x1_4 (back hl Fs F N S hf hd e) fun frs' SU Fs' F' N' => ?_
  exact k t h' tk frs' (SU0.trans SU) Fs' F' N'
theorem apart_lt {a : Addr} (hx : ∀ p ∈ frs, p.1 < a) : a ∉ frs.map (·.1) := fun q => by
  (obtain q86 := List.mem_map.mp q
   with_reducible refine x1_2 q86 fun x hx' e => ?_
   clear q86)
  have := hx x hx'
  rw [show x.1 = a from e] at this
  exact Nat.lt_irrefl _ this
theorem apart_up (SU : SameUp frs frs') {a : Addr} (n : a ∉ frs.map (·.1)) : a ∉ frs'.map (·.1) := fun q => by
  (obtain q87 := List.mem_map.mp q
   with_reducible refine x1_2 q87 fun x hx e => ?_
   clear q87)
  (obtain q88 := SU.fwd x hx
   with_reducible refine x1_2 q88 fun y hy e' => ?_
   clear q88)
  exact n (List.mem_map.mpr ⟨y, hy, by rw [← e', e]⟩)
theorem apart_data {o : Obj} {a : Addr} (Fs : Frs l frs) (N : News g L h news) (S : Split news new frs) (ha : (a, o) ∈ news) (hn : ∀ es n, o.data ≠ .dict es n) : a ∉ frs.map (·.1) := fun q => by
  (obtain q89 := List.mem_map.mp q
   with_reducible refine x1_2 q89 fun x hx e => ?_
   clear q89)
  (obtain q810 := Fs.dict x hx
   with_reducible refine x2_1 q810 fun es ep hd => ?_
   clear q810)
  have h2 := (N x (by rw [S.eq]; exact List.mem_append_right _ hx)).1
  have e' : x.1 = a := e
  rw [e', N.get ha] at h2
  cases h2
  exact hn _ _ hd
theorem ext_of {hs : Heap} (hl : A.frames = some l) (Fs : Frs l frs) (hfr : ∀ q ∈ frs, hs.get? q.1 = some q.2) (F : Fr (view A hid hs) L h' m) (N : News (view A hid hs) L h' news) (SU : SameUp frs frs') (S : Split news new frs') (hz : hs.objs.size ≤ L) : Ext A hid hs h' := by
  have ha : fsA A = frs.map (·.1) := by unfold fsA; rw [hl]; exact Fs.addrs
  refine ⟨fun b o e => view_of (view_get e).1 (F.keep b o e), fun b hb o e => ?_⟩
  rw [ha] at hb
  (obtain q811 := List.mem_map.mp hb
   with_reducible refine x1_2 q811 fun p hp r812 => ?_
   clear q811
   obtain rfl := r812)
  rw [hfr p hp] at e
  cases e
  obtain ⟨sl, hm⟩ := SU.back p hp
  exact ⟨sl, (N _ (by rw [S.eq]; exact List.mem_append_right _ hm)).1⟩
theorem ext_ofg {hs : Heap} (hg : view A hid hs = g) (hl : A.frames = some l) (Fs : Frs l frs) (hfr : ∀ q ∈ frs, hs.get? q.1 = some q.2) (F : Fr g L h' m) (N : News g L h' news) (SU : SameUp frs frs') (S : Split news new frs') (hz : hs.objs.size ≤ L) : Ext A hid hs h' := by
  subst hg
  exact ext_of hl Fs hfr F N SU S hz
end

section
variable {w : World} {A : Around} {s : Shared} {name qual : Str} {params : Arguments} {body : List Stmt} {ebody : Expr} {scope : Scope} {cl : List (Str × Addr)} {dV kV doc pm cdv ct : Value} {an : Option Addr} {fo : Obj} {f c' : Addr} {args : Args} {binds : List (Str × Value)} {hid : List Addr} {news : List (Addr × Obj)} {R : Result → Shared → Prop}
structure Inn (w : World) (A : Around) (hid : List Addr) (hs : Heap) (l : List Env) (frs : List (Addr × Obj)) (L : Addr) : Prop where
  hl : A.frames = some l
  fs : Frs l frs
  fr : ∀ q ∈ frs, hs.get? q.1 = some q.2
  lt : ∀ q ∈ frs, q.1 < L
  above : hs.objs.size ≤ L
theorem enter_m (H : Here w A hid s.heap) (hN : ∀ p ∈ news, s.heap.get? p.1 = some p.2 ∧ p.1 ∈ hid)
    (ho : s.heap.get? f = some fo) (hd : fo.data = .func (fnX name qual params body scope cl dV kV doc pm an cdv ct)) (hcd : s.heap.CodeRec cdv qual) (hroom : A.depth < recursionLimit)
    (hbind : BindsTo s (fnX name qual params body scope cl dV kV doc pm an cdv ct) args binds) (hloc : ∀ y ∈ binds, scope.names.lookup y.1 = some .local)
    (h : ∀ l frs p loose mean mg mb L' h₁, Inn w A hid s.heap l frs L' → (Mine.hd.heap_1 w.params).In (view A hid s.heap) → Top p loose mean mg mb (view A hid s.heap) →
      Fr (view A hid s.heap) L' h₁ (fun y => binds.reverse.lookup y) → News (view A hid s.heap) L' h₁ (news ++ frs) →
      wpAny (model Challenge.rw_mg0030_01.row.prog w) (A.deeper (envX qual scope L' f cdv cl)) (execs body (envX qual scope L' f cdv cl))
        (fun fl s' => R (.ok (.ret (match fl with | .ret v => v | _ => .none))) s')
        (fun e s' => wpAny (model Challenge.rw_mg0030_01.row.prog w) (A.deeper (envX qual scope L' f cdv cl)) (leaving (envX qual scope L' f cdv cl) e) (fun _ s'' => R (.error e) s'') (fun e' s'' => R (.error e') s'') s')
        { s with heap := h₁, toks := s.toks + binds.length })
    (hcell : ∀ x ∈ scope.names, x.2 ≠ .cell) (hco : scope.isCoroutine = false := by rfl) (hgen : scope.isGenerator = false := by rfl) (hk : scope.kind = .function := by rfl) : codeAny (model Challenge.rw_mg0030_01.row.prog w) A (.call (.ref f) args) R s := by
  obtain ⟨⟨l, frs, hl, Fs, hf⟩, ⟨p, loose, mean, mg, mb, T⟩, X⟩ := H
  have ha : fsA A = frs.map (·.1) := by unfold fsA; rw [hl]; exact Fs.addrs
  refine codeAny_call_def (fd := fnX name qual params body scope cl dV kV doc pm an cdv ct) (body := body) (binds := binds) hroom ho hd (T.nolimit.keeps view_le) hcd rfl hbind hcell hloc (fun h₁ hns hk₁ => ?_) hco hgen hk
  refine h l frs p loose mean mg mb s.heap.objs.size h₁ ⟨hl, Fs, hf, fun q hq => Heap.lt_size (hf q hq), Nat.le_refl _⟩ X T ⟨hns, fun b o e => hk₁ b o (view_le b o e), Nat.le_of_eq (hideAll_size _ _)⟩ fun p hp => ?_
  rcases List.mem_append.mp hp with hp | hp
  · exact ⟨hk₁ _ _ (hN p hp).1, Nat.ne_of_lt (Heap.lt_size (hN p hp).1), hideAll_none _ (List.mem_append_left _ (hN p hp).2)⟩
  · exact ⟨hk₁ _ _ (hf p hp), Nat.ne_of_lt (Heap.lt_size (hf p hp)), hideAll_none _ (List.mem_append_right _ (by rw [ha]; exact List.mem_map_of_mem hp))⟩
theorem enter_c (H : Here w A hid s.heap) (hN : ∀ p ∈ news, s.heap.get? p.1 = some p.2 ∧ p.1 ∈ hid)
    (ho : s.heap.get? f = some fo) (hd : fo.data = .func (fnX name qual params body scope [] dV kV doc pm an cdv ct)) (hcd : s.heap.CodeRec cdv qual) (hroom : A.depth < recursionLimit)
    (hbind : BindsTo s (fnX name qual params body scope [] dV kV doc pm an cdv ct) args binds)
    (hkind : (binds.all fun y => scope.names.lookup y.1 == some .local || scope.names.lookup y.1 == some .cell) = true)
    (hnd : ((cellsFrom 0 scope.names []).map (·.1)).Nodup)
    (h : ∀ l frs p loose mean mg mb L' h₁ tk cells, Inn w A hid s.heap l frs L' → (Mine.hd.heap_1 w.params).In (view A hid s.heap) → Top p loose mean mg mb (view A hid s.heap) →
      Fr (view A hid s.heap) L' h₁ (bindL (envOfC qual scope L' f cdv).kindOf binds fun _ => none) → News (view A hid s.heap) L' h₁ (cells ++ (news ++ frs)) → (∀ p ∈ news, p.1 < L') →
      CellsAre (bindC (envOfC qual scope L' f cdv).kindOf binds fun _ => none) (cellsFrom (L' + 1) scope.names []) cells →
      wpAny (model Challenge.rw_mg0030_01.row.prog w) (A.deeper (envOfC qual scope L' f cdv)) (execs body (envOfC qual scope L' f cdv))
        (fun fl s' => R (.ok (.ret (match fl with | .ret v => v | _ => .none))) s')
        (fun e s' => wpAny (model Challenge.rw_mg0030_01.row.prog w) (A.deeper (envOfC qual scope L' f cdv)) (leaving (envOfC qual scope L' f cdv) e) (fun _ s'' => R (.error e) s'') (fun e' s'' => R (.error e') s'') s')
        { s with heap := h₁, toks := tk })
    (hco : scope.isCoroutine = false := by rfl) (hgen : scope.isGenerator = false := by rfl) (hk : scope.kind = .function := by rfl) : codeAny (model Challenge.rw_mg0030_01.row.prog w) A (.call (.ref f) args) R s := by
  obtain ⟨⟨l, frs, hl, Fs, hf⟩, ⟨p, loose, mean, mg, mb, T⟩, X⟩ := H
  have ha : fsA A = frs.map (·.1) := by unfold fsA; rw [hl]; exact Fs.addrs
  refine codeAny_call_function hroom ho hd hco hgen rfl hcd (hbind _ _ _ _ ?_)
  refine wpAny_newFunctionEnv_cells hk (kindsX hkind _) fun env' he s' x => ?_
  subst he
  refine ⟨(T.nolimit.keeps view_le).keeps x.toInCall.keep, codeAny_func ?_⟩
  (obtain q93 := x.done
   with_reducible refine x2_2 q93 fun h₁ tk r94 _ => ?_
   clear q93
   obtain rfl := r94)
  have hk₁ := x.toInCall.keep
  (obtain q813 := Cl.news (h₀ := s.heap) (Nat.le_refl _) fun n c hm => ⟨x.cell n c (lookup_of_mem_nodup (cellsFrom_names scope.names 0 (s.heap.objs.size + 1) [] [] rfl ▸ hnd) hm), x.above n c hm⟩
   with_reducible refine x1_2 q813 fun cells NC Y => ?_
   clear q813)
  refine h l frs p loose mean mg mb s.heap.objs.size h₁ tk cells ⟨hl, Fs, hf, fun q hq => Heap.lt_size (hf q hq), Nat.le_refl _⟩ X T ⟨x.toInCall.ns, fun b o e => hk₁ b o (view_le b o e), Nat.le_of_eq (hideAll_size _ _)⟩ (fun p hp => ?_) (fun p hp => Heap.lt_size (hN p hp).1) Y
  rcases List.mem_append.mp hp with hp | hp
  · refine ⟨(NC p hp).1, (NC p hp).2.1, ?_⟩
    cases q : (view A hid s.heap).get? p.1 with
    | none => rfl
    | some o => have := view_le _ _ q; rw [(NC p hp).2.2] at this; cases this
  · rcases List.mem_append.mp hp with hp | hp
    · exact ⟨hk₁ _ _ (hN p hp).1, Nat.ne_of_lt (Heap.lt_size (hN p hp).1), hideAll_none _ (List.mem_append_left _ (hN p hp).2)⟩
    · exact ⟨hk₁ _ _ (hf p hp), Nat.ne_of_lt (Heap.lt_size (hf p hp)), hideAll_none _ (List.mem_append_right _ (by rw [ha]; exact List.mem_map_of_mem hp))⟩
theorem enter_l (H : Here w A [] s.heap) (ho : s.heap.get? f = some (kla_obj name qual params ebody scope cl pm c' ct)) (hcd : s.heap.CodeRec (.ref c') qual) (hroom : A.depth < recursionLimit)
    (hbind : bindArgs (kla_fn name qual params ebody scope cl pm (.ref c') ct) args = pure binds) (hloc : ∀ y ∈ binds, scope.names.lookup y.1 = some .local)
    (h : ∀ l frs p loose mean mg mb L' h₁, Inn w A [] s.heap l frs L' → (Mine.hd.heap_1 w.params).In (view A [] s.heap) → Top p loose mean mg mb (view A [] s.heap) →
      Fr (view A [] s.heap) L' h₁ (fun y => binds.reverse.lookup y) → News (view A [] s.heap) L' h₁ frs →
      wpAny (model Challenge.rw_mg0030_01.row.prog w) (A.deeper (envX qual scope L' f (.ref c') cl)) (eval ebody (envX qual scope L' f (.ref c') cl))
        (fun v s' => R (.ok (.ret v)) s')
        (fun e s' => wpAny (model Challenge.rw_mg0030_01.row.prog w) (A.deeper (envX qual scope L' f (.ref c') cl)) (leaving (envX qual scope L' f (.ref c') cl) e) (fun _ s'' => R (.error e) s'') (fun e' s'' => R (.error e') s'') s')
        { s with heap := h₁, toks := s.toks + binds.length })
    (hcell : ∀ x ∈ scope.names, x.2 ≠ .cell) (hco : scope.isCoroutine = false := by rfl) (hgen : scope.isGenerator = false := by rfl) (hk : scope.kind = .function := by rfl) : codeAny (model Challenge.rw_mg0030_01.row.prog w) A (.call (.ref f) args) R s := by
  obtain ⟨⟨l, frs, hl, Fs, hf⟩, ⟨p, loose, mean, mg, mb, T⟩, X⟩ := H
  have ha : fsA A = frs.map (·.1) := by unfold fsA; rw [hl]; exact Fs.addrs
  refine kla_callFunE hroom ho rfl hco hgen rfl hcd ?_
  rw [hbind]
  refine wpAny_pure (wpAny_newFunctionEnv hcell hloc (fun h₁ hns hsb => ⟨(T.nolimit.keeps view_le).fresh _ hsb, ?_⟩) hk)
  show codeAny _ _ (.expr ebody (envX qual scope s.heap.objs.size f (.ref c') cl)) _ _
  have hk₁ : ∀ b o, s.heap.get? b = some o → h₁.get? b = some o := fun b o e => hsb.extBut b o (Nat.ne_of_lt (Heap.lt_size e)) (Heap.get?_push_of_some _ e)
  exact kla_codeExpr (h l frs p loose mean mg mb s.heap.objs.size h₁ ⟨hl, Fs, hf, fun q hq => Heap.lt_size (hf q hq), Nat.le_refl _⟩ X T ⟨hns, fun b o e => hk₁ b o (view_le b o e), Nat.le_of_eq (hideAll_size _ _)⟩ fun p hp =>
    ⟨hk₁ _ _ (hf p hp), Nat.ne_of_lt (Heap.lt_size (hf p hp)), hideAll_none _ (List.mem_append_right _ (by rw [ha]; exact List.mem_map_of_mem hp))⟩)
end
section
variable {w : World} {A : Around} {hid : List Addr} {hs h : Heap} {L : Addr} {m : Str → Option Value} {l : List Env} {frs : List (Addr × Obj)}
theorem made_view (I : Inn w A hid hs l frs L) (hl : ∀ b ∈ hid, b < L) {a : Addr} {o : Obj} (ho : h.get? a = some o) (ha : L < a) : (view A hid h).get? a = some o := by
  refine view_of (fun q => ?_) ho
  rcases List.mem_append.mp q with q | q
  · exact Nat.lt_irrefl _ (Nat.lt_trans ha (hl a q))
  · have e : fsA A = frs.map (·.1) := by unfold fsA; rw [I.hl]; exact I.fs.addrs
    rw [e] at q
    (obtain q814 := List.mem_map.mp q
     with_reducible refine x1_2 q814 fun x hx e => ?_
     clear q814)
    have := I.lt x hx
    rw [show x.1 = a from e] at this
    exact Nat.lt_irrefl _ (Nat.lt_trans ha this)
theorem frs_ne (I : Inn w A hid hs l frs L) {P : Addr} {o : Obj} (ho : hs.get? P = some o) (hn : ∀ es n, o.data ≠ .dict es n) : ∀ p ∈ frs, p.1 ≠ P := fun p hp e => by
  (obtain q815 := I.fs.dict p hp
   with_reducible refine x2_1 q815 fun es ep hd => ?_
   clear q815)
  have h1 := I.fr p hp
  rw [e, ho] at h1
  cases h1
  exact hn _ _ hd
end
end Mine
end PartBase

section PartP1
open PySem PySem.W PyProof.Rows PySem.Calls
set_option Elab.async false
set_option maxRecDepth 100000
set_option maxHeartbeats 2000000
set_option linter.unusedVariables false
set_option rowWalk.seconds 0
namespace Mine
noncomputable def runT {α : Type} (ans : Nat → Nat → Bool) : KasT α → α
  | .ret a => a
  | .ask i j k => runT ans (k (ans i j))
theorem runT_bind {α β : Type} {ans : Nat → Nat → Bool} {f : α → KasT β} : ∀ t : KasT α, runT ans (t.bind f) = runT ans (f (runT ans t))
  | .ret _ => rfl
  | .ask i j k => by show runT ans ((k (ans i j)).bind f) = _; rw [runT_bind (k (ans i j))]; rfl
section
variable {κ : Nat → Int} {N : Nat}
noncomputable def kAt (κ : Nat → Int) (p : Array Nat) (i : Nat) : Int := κ (p.getD i 0)
noncomputable def less (κ : Nat → Int) (i j : Nat) : Bool := decide (κ i < κ j)
theorem getD_rev {p : Array Nat} {i j : Nat} (hj : j ≤ p.size) (k : Nat) : (kas_rev p i j).getD k 0 = if i ≤ k ∧ k < j then p.getD (i + j - 1 - k) 0 else p.getD k 0 := by
  have e := getElem?_mirror_all (i := i) hj k
  simp only [Array.getD_eq_getD_getElem?]
  unfold kas_rev
  rw [e]
  split <;> rfl
theorem kAt_rev {p : Array Nat} {i j : Nat} (hj : j ≤ p.size) (k : Nat) : kAt κ (kas_rev p i j) k = if i ≤ k ∧ k < j then kAt κ p (i + j - 1 - k) else kAt κ p k := by
  unfold kAt; rw [getD_rev hj]; split <;> rfl
theorem kAt_bubble {p : Array Nat} {s d : Nat} (hs : s < p.size) (hd : d ≤ s) (k : Nat) : kAt κ (bubble p s d) k = if k = s - d then kAt κ p s else if s - d < k ∧ k ≤ s then kAt κ p (k - 1) else kAt κ p k := by
  have e := getElem?_bubble hs d hd k
  unfold kAt
  simp only [Array.getD_eq_getD_getElem?]
  rw [e]
  split
  · rfl
  · split <;> rfl
noncomputable def Up (κ : Nat → Int) (p : Array Nat) (n : Nat) : Prop := ∀ i, i + 1 < n → kAt κ p i ≤ kAt κ p (i + 1)
noncomputable def Down (κ : Nat → Int) (p : Array Nat) (n : Nat) : Prop := ∀ i, i + 1 < n → kAt κ p (i + 1) ≤ kAt κ p i
theorem Up.le {p : Array Nat} {n : Nat} (h : Up κ p n) : ∀ {j i : Nat}, i ≤ j → j < n → kAt κ p i ≤ kAt κ p j
  | 0, i, hi, _ => by have : i = 0 := by omega
                      subst this; exact Int.le_refl _
  | j + 1, i, hi, hj => by
    by_cases e : i = j + 1
    · subst e; exact Int.le_refl _
    · exact Int.le_trans (Up.le h (by omega) (by omega)) (h j hj)
theorem asc_ok {p : Array Nat} : ∀ (f n : Nat), 1 ≤ n → Up κ p n → n ≤ runT (less κ) (kas_asc p f n) ∧ runT (less κ) (kas_asc p f n) ≤ n + f ∧ Up κ p (runT (less κ) (kas_asc p f n)) ∧ (runT (less κ) (kas_asc p f n) < n + f → kAt κ p (runT (less κ) (kas_asc p f n)) < kAt κ p (runT (less κ) (kas_asc p f n) - 1))
  | 0, n, _, h => ⟨Nat.le_refl _, Nat.le_refl _, h, fun x => absurd x (Nat.lt_irrefl _)⟩
  | f + 1, n, h1, h => by
    show n ≤ runT (less κ) (if less κ (p.getD n 0) (p.getD (n - 1) 0) = true then _ else _) ∧ _
    by_cases hc : less κ (p.getD n 0) (p.getD (n - 1) 0) = true
    · have e : runT (less κ) (kas_asc p (f + 1) n) = n := by
        show runT (less κ) (if less κ (p.getD n 0) (p.getD (n - 1) 0) = true then KasT.ret n else _) = n
        rw [if_pos hc]; rfl
      rw [e]
      refine ⟨?_, by omega, h, fun _ => by simpa [less, kAt] using hc⟩
      rw [if_pos hc]
      exact Nat.le_refl _
    · have e : runT (less κ) (kas_asc p (f + 1) n) = runT (less κ) (kas_asc p f (n + 1)) := by
        show runT (less κ) (if less κ (p.getD n 0) (p.getD (n - 1) 0) = true then KasT.ret n else _) = _
        rw [if_neg hc]
      rw [e]
      have hu : Up κ p (n + 1) := fun i hi => by
        by_cases q : i + 1 = n
        · have : i = n - 1 := by omega
          subst this
          rw [q]
          simp only [less, decide_eq_true_eq] at hc
          unfold kAt; omega
        · exact h i (by omega)
      (obtain q91 := asc_ok f (n + 1) (by omega) hu
       with_reducible refine x0_4 q91 fun a b c d => ?_
       clear q91)
      rw [if_neg hc]
      exact ⟨by omega, by omega, c, fun x => d (by omega)⟩
noncomputable def Flat (κ : Nat → Int) (p : Array Nat) (n q : Nat) : Prop := q + 1 ≤ n ∧ ∀ i, n - (q + 1) ≤ i → i < n → kAt κ p i = kAt κ p (n - 1)
theorem rev_flat {p : Array Nat} {n q : Nat} (hn : n ≤ p.size) (F : Flat κ p n q) (k : Nat) : kAt κ (kas_rev p (n - (q + 1)) n) k = kAt κ p k := by
  rw [kAt_rev hn]
  split
  · rename_i hk
    have := F.1
    rw [F.2 _ (by omega) (by omega), F.2 k (by omega) (by omega)]
  · rfl
theorem desc_ok : ∀ (f : Nat) (p : Array Nat) (n q : Nat), n + f ≤ p.size → Down κ p n → Flat κ p n q →
    (runT (less κ) (kas_desc f p n q)).1.Perm p ∧ n ≤ (runT (less κ) (kas_desc f p n q)).2.1 ∧ (runT (less κ) (kas_desc f p n q)).2.1 ≤ n + f ∧ Down κ (runT (less κ) (kas_desc f p n q)).1 (runT (less κ) (kas_desc f p n q)).2.1 ∧ Flat κ (runT (less κ) (kas_desc f p n q)).1 (runT (less κ) (kas_desc f p n q)).2.1 (runT (less κ) (kas_desc f p n q)).2.2
  | 0, p, n, q, _, h, F => ⟨Array.Perm.refl _, Nat.le_refl _, Nat.le_refl _, h, F⟩
  | f + 1, p, n, q, hz, h, F => by
    have hn := F.1
    by_cases hc : less κ (p.getD n 0) (p.getD (n - 1) 0) = true
    · have hlt : kAt κ p n < kAt κ p (n - 1) := by simpa [less, kAt] using hc
      have hd : Down κ p (n + 1) := fun i hi => by
        by_cases q1 : i + 1 = n
        · have : i = n - 1 := by omega
          subst this; rw [q1]; omega
        · exact h i (by omega)
      by_cases hq : q > 0
      · have e : runT (less κ) (kas_desc (f + 1) p n q) = runT (less κ) (kas_desc f (kas_rev p (n - (q + 1)) n) (n + 1) 0) := by
          show runT (less κ) (if less κ (p.getD n 0) (p.getD (n - 1) 0) = true then (if q > 0 then _ else _) else _) = _
          rw [if_pos hc, if_pos hq]
        rw [e]
        have hr := rev_flat (κ := κ) (p := p) (n := n) (q := q) (by omega) F
        have ih := desc_ok f (kas_rev p (n - (q + 1)) n) (n + 1) 0 (by rw [kas_rev_size]; omega) (fun i hi => by rw [hr, hr]; exact hd i hi) ⟨by omega, fun i h1 h2 => by rw [show i = n + 1 - 1 by omega]⟩
        exact ⟨ih.1.trans (mirror_perm _ _ _ _), by omega, by omega, ih.2.2.2⟩
      · have e : runT (less κ) (kas_desc (f + 1) p n q) = runT (less κ) (kas_desc f p (n + 1) 0) := by
          show runT (less κ) (if less κ (p.getD n 0) (p.getD (n - 1) 0) = true then (if q > 0 then _ else _) else _) = _
          rw [if_pos hc, if_neg hq]
        rw [e]
        have ih := desc_ok f p (n + 1) 0 (by omega) hd ⟨by omega, fun i h1 h2 => by rw [show i = n + 1 - 1 by omega]⟩
        exact ⟨ih.1, by omega, by omega, ih.2.2.2⟩
    · by_cases hd : less κ (p.getD (n - 1) 0) (p.getD n 0) = true
      · have e : runT (less κ) (kas_desc (f + 1) p n q) = (p, n, q) := by
          show runT (less κ) (if less κ (p.getD n 0) (p.getD (n - 1) 0) = true then _ else KasT.ask (p.getD (n - 1) 0) (p.getD n 0) fun d => if d = true then KasT.ret (p, n, q) else _) = _
          rw [if_neg hc]
          show runT (less κ) (if less κ (p.getD (n - 1) 0) (p.getD n 0) = true then KasT.ret (p, n, q) else _) = _
          rw [if_pos hd]; rfl
        rw [e]
        exact ⟨Array.Perm.refl _, Nat.le_refl _, Nat.le_add_right _ _, h, F⟩
      · have e : runT (less κ) (kas_desc (f + 1) p n q) = runT (less κ) (kas_desc f p (n + 1) (q + 1)) := by
          show runT (less κ) (if less κ (p.getD n 0) (p.getD (n - 1) 0) = true then _ else KasT.ask (p.getD (n - 1) 0) (p.getD n 0) fun d => if d = true then KasT.ret (p, n, q) else _) = _
          rw [if_neg hc]
          show runT (less κ) (if less κ (p.getD (n - 1) 0) (p.getD n 0) = true then KasT.ret (p, n, q) else _) = _
          rw [if_neg hd]
        rw [e]
        have heq : kAt κ p n = kAt κ p (n - 1) := by
          simp only [less, decide_eq_true_eq] at hc hd
          unfold kAt; omega
        have ih := desc_ok f p (n + 1) (q + 1) (by omega) (fun i hi => by
          by_cases q1 : i + 1 = n
          · have : i = n - 1 := by omega
            subst this; rw [q1]; omega
          · exact h i (by omega)) ⟨by omega, fun i h1 h2 => by
            by_cases q1 : i = n
            · subst q1; rw [show i + 1 - 1 = i by omega]
            · rw [show n + 1 - 1 = n by omega, heq]; exact F.2 i (by omega) (by omega)⟩
        exact ⟨ih.1, by omega, by omega, ih.2.2.2⟩
theorem up_rev {p : Array Nat} {n : Nat} (hn : n ≤ p.size) (h : Down κ p n) : Up κ (kas_rev p 0 n) n := fun i hi => by
  rw [kAt_rev hn, kAt_rev hn, if_pos (by omega), if_pos (by omega)]
  have := h (0 + n - 1 - (i + 1)) (by omega)
  rwa [show 0 + n - 1 - (i + 1) + 1 = 0 + n - 1 - i by omega] at this
theorem tail3_ok {p : Array Nat} {n nrem : Nat} (h1 : 1 ≤ n) (hn : n ≤ nrem) (hz : nrem ≤ p.size) (h : Down κ p n) :
    (runT (less κ) (kas_tail3 n nrem p)).2.Perm p ∧ 1 ≤ (runT (less κ) (kas_tail3 n nrem p)).1 ∧ (runT (less κ) (kas_tail3 n nrem p)).1 ≤ nrem ∧ Up κ (runT (less κ) (kas_tail3 n nrem p)).2 (runT (less κ) (kas_tail3 n nrem p)).1 := by
  unfold kas_tail3
  rw [runT_bind]
  have a := asc_ok (nrem - n) n h1 (up_rev (κ := κ) (by omega) h)
  exact ⟨mirror_perm _ _ _ _, by show 1 ≤ runT _ _; omega, by show runT _ _ ≤ nrem; omega, a.2.2.1⟩
theorem part_ok {p : Array Nat} {n nrem : Nat} (h1 : 1 ≤ n) (hn : n + 1 ≤ nrem) (hz : nrem ≤ p.size) (h : Down κ p (n + 1)) :
    (runT (less κ) (kas_descPart n nrem p)).2.Perm p ∧ 1 ≤ (runT (less κ) (kas_descPart n nrem p)).1 ∧ (runT (less κ) (kas_descPart n nrem p)).1 ≤ nrem ∧ Up κ (runT (less κ) (kas_descPart n nrem p)).2 (runT (less κ) (kas_descPart n nrem p)).1 := by
  unfold kas_descPart
  rw [runT_bind]
  have d := desc_ok (κ := κ) (nrem - (n + 1)) p (n + 1) 0 (by omega) h ⟨by omega, fun i h1 h2 => by rw [show i = n + 1 - 1 by omega]⟩
  revert d
  generalize runT (less κ) (kas_desc (nrem - (n + 1)) p (n + 1) 0) = r
  obtain ⟨p', m, q⟩ := r
  (rintro h9q; (with_reducible refine x0_5 h9q fun d1 d2 d3 d4 d5 => ?_
                try clear h9q))
  dsimp only at d1 d2 d3 d4 d5 ⊢
  have hs : p'.size = p.size := d1.size_eq
  by_cases hq : q > 0
  · rw [if_pos hq]
    have hr := rev_flat (κ := κ) (p := p') (n := m) (q := q) (by omega) d5
    have t := tail3_ok (κ := κ) (p := kas_rev p' (m - (q + 1)) m) (n := m) (nrem := nrem) (by omega) (by omega) (by rw [kas_rev_size]; omega) (fun i hi => by rw [hr, hr]; exact d4 i hi)
    exact ⟨(t.1.trans (mirror_perm _ _ _ _)).trans d1, t.2⟩
  · rw [if_neg hq]
    have t := tail3_ok (κ := κ) (p := p') (n := m) (nrem := nrem) (by omega) (by omega) (by omega) d4
    exact ⟨t.1.trans d1, t.2⟩
theorem count_ok {p : Array Nat} {nrem : Nat} (h1 : 1 ≤ nrem) (hz : nrem ≤ p.size) :
    (runT (less κ) (kas_count nrem p)).2.Perm p ∧ 1 ≤ (runT (less κ) (kas_count nrem p)).1 ∧ (runT (less κ) (kas_count nrem p)).1 ≤ nrem ∧ Up κ (runT (less κ) (kas_count nrem p)).2 (runT (less κ) (kas_count nrem p)).1 := by
  unfold kas_count
  rw [runT_bind]
  have a := asc_ok (κ := κ) (p := p) (nrem - 1) 1 (Nat.le_refl _) (fun i hi => by omega)
  revert a
  generalize runT (less κ) (kas_asc p (nrem - 1) 1) = n
  (rintro h9q; (with_reducible refine x0_4 h9q fun a1 a2 a3 a4 => ?_
                try clear h9q))
  by_cases hn : n = nrem
  · rw [if_pos (by simpa using hn)]
    exact ⟨Array.Perm.refl _, a1, by show n ≤ nrem; omega, a3⟩
  · rw [if_neg (by simpa using hn)]
    have hlt := a4 (by omega)
    by_cases h2 : n > 1
    · rw [if_pos h2]
      show (runT (less κ) (if less κ (p.getD 0 0) (p.getD (n - 1) 0) = true then KasT.ret (n, p) else kas_descPart n nrem (kas_rev p 0 n))).2.Perm p ∧ 1 ≤ (runT (less κ) (if less κ (p.getD 0 0) (p.getD (n - 1) 0) = true then KasT.ret (n, p) else kas_descPart n nrem (kas_rev p 0 n))).1 ∧ (runT (less κ) (if less κ (p.getD 0 0) (p.getD (n - 1) 0) = true then KasT.ret (n, p) else kas_descPart n nrem (kas_rev p 0 n))).1 ≤ nrem ∧ Up κ (runT (less κ) (if less κ (p.getD 0 0) (p.getD (n - 1) 0) = true then KasT.ret (n, p) else kas_descPart n nrem (kas_rev p 0 n))).2 (runT (less κ) (if less κ (p.getD 0 0) (p.getD (n - 1) 0) = true then KasT.ret (n, p) else kas_descPart n nrem (kas_rev p 0 n))).1
      by_cases hc : less κ (p.getD 0 0) (p.getD (n - 1) 0) = true
      · rw [if_pos hc]
        exact ⟨Array.Perm.refl _, a1, by show n ≤ nrem; omega, a3⟩
      · rw [if_neg hc]
        have h0 : kAt κ p (n - 1) ≤ kAt κ p 0 := by
          simp only [less, decide_eq_true_eq] at hc
          unfold kAt; omega
        have flat : ∀ i, i < n → kAt κ p i = kAt κ p 0 := fun i hi => by
          have e1 := a3.le (Nat.zero_le i) hi
          have e2 := a3.le (show i ≤ n - 1 by omega) (by omega)
          omega
        have t := part_ok (κ := κ) (p := kas_rev p 0 n) (n := n) (nrem := nrem) a1 (by omega) (by rw [kas_rev_size]; omega) (fun i hi => by
          rw [kAt_rev (by omega), kAt_rev (by omega)]
          by_cases q : i + 1 = n
          · rw [if_neg (by omega), if_pos (by omega), q, flat (0 + n - 1 - i) (by omega)]
            rw [flat (n - 1) (by omega)] at hlt
            omega
          · rw [if_pos (by omega), if_pos (by omega), flat (0 + n - 1 - (i + 1)) (by omega), flat (0 + n - 1 - i) (by omega)]
            exact Int.le_refl _)
        exact ⟨t.1.trans (mirror_perm _ _ _ _), t.2⟩
    · rw [if_neg h2]
      have : n = 1 := by omega
      subst this
      exact part_ok (κ := κ) (Nat.le_refl _) (by omega) hz (fun i hi => by
        have : i = 0 := by omega
        subst this
        show kAt κ p 1 ≤ kAt κ p 0
        have : kAt κ p 1 < kAt κ p (1 - 1) := hlt
        exact Int.le_of_lt this)
theorem place_ok {p : Array Nat} {k : Nat} : ∀ (f l r : Nat), r - l ≤ f → l ≤ r → r ≤ k → Up κ p k → (∀ i, i < l → kAt κ p i ≤ kAt κ p k) → (∀ i, r ≤ i → i < k → kAt κ p k ≤ kAt κ p i) →
    runT (less κ) (kas_place p k f l r) ≤ k ∧ (∀ i, i < runT (less κ) (kas_place p k f l r) → kAt κ p i ≤ kAt κ p k) ∧ (∀ i, runT (less κ) (kas_place p k f l r) ≤ i → i < k → kAt κ p k ≤ kAt κ p i)
  | 0, l, r, hf, hlr, hrk, hu, h1, h2 => ⟨by show l ≤ k; omega, h1, fun i hi hk => h2 i (by have : l ≤ i := hi; omega) hk⟩
  | f + 1, l, r, hf, hlr, hrk, hu, h1, h2 => by
    by_cases hge : l ≥ r
    · have e : runT (less κ) (kas_place p k (f + 1) l r) = l := by
        unfold kas_place; rw [if_pos hge]; rfl
      rw [e]
      exact ⟨by omega, h1, fun i hi hk => h2 i (by omega) hk⟩
    · by_cases hc : less κ (p.getD k 0) (p.getD ((l + r) / 2) 0) = true
      · have e : runT (less κ) (kas_place p k (f + 1) l r) = runT (less κ) (kas_place p k f l ((l + r) / 2)) := by
          conv => lhs; unfold kas_place
          rw [if_neg hge]
          show runT (less κ) (if less κ (p.getD k 0) (p.getD ((l + r) / 2) 0) = true then _ else _) = _
          rw [if_pos hc]
        rw [e]
        have hlt : kAt κ p k < kAt κ p ((l + r) / 2) := by simpa [less, kAt] using hc
        exact place_ok f l ((l + r) / 2) (by omega) (by omega) (by omega) hu h1 (fun i hi hk => by
          have := hu.le hi hk
          omega)
      · have e : runT (less κ) (kas_place p k (f + 1) l r) = runT (less κ) (kas_place p k f ((l + r) / 2 + 1) r) := by
          conv => lhs; unfold kas_place
          rw [if_neg hge]
          show runT (less κ) (if less κ (p.getD k 0) (p.getD ((l + r) / 2) 0) = true then _ else _) = _
          rw [if_neg hc]
        rw [e]
        have hle : kAt κ p ((l + r) / 2) ≤ kAt κ p k := by
          simp only [less, decide_eq_true_eq] at hc
          unfold kAt; omega
        exact place_ok f ((l + r) / 2 + 1) r (by omega) (by omega) hrk hu (fun i hi => by
          have := hu.le (show i ≤ (l + r) / 2 by omega) (by omega)
          omega) h2
theorem bin_ok : ∀ (f : Nat) (p : Array Nat) (k : Nat), k + f ≤ p.size → Up κ p k → (runT (less κ) (kas_bin f p k)).Perm p ∧ Up κ (runT (less κ) (kas_bin f p k)) (k + f)
  | 0, p, k, _, h => ⟨Array.Perm.refl _, h⟩
  | f + 1, p, k, hz, h => by
    have e : runT (less κ) (kas_bin (f + 1) p k) = runT (less κ) (kas_bin f (bubble p k (k - runT (less κ) (kas_place p k k 0 k))) (k + 1)) := by
      conv => lhs; unfold kas_bin
      rw [runT_bind]
    rw [e]
    have pl := place_ok (κ := κ) (p := p) (k := k) k 0 k (by omega) (by omega) (Nat.le_refl _) h (fun i hi => by omega) (fun i h1 h2 => by omega)
    revert pl
    generalize runT (less κ) (kas_place p k k 0 k) = l
    (rintro h9q; (with_reducible refine x0_3 h9q fun l1 l2 l3 => ?_
                  try clear h9q))
    have hb : ∀ i, kAt κ (bubble p k (k - l)) i = if i = l then kAt κ p k else if l < i ∧ i ≤ k then kAt κ p (i - 1) else kAt κ p i := fun i => by
      have := kAt_bubble (κ := κ) (p := p) (s := k) (d := k - l) (by omega) (by omega) i
      rwa [show k - (k - l) = l by omega] at this
    have ih := bin_ok f (bubble p k (k - l)) (k + 1) (by rw [bubble_size]; omega) (fun i hi => by
      rw [hb, hb]
      by_cases c1 : i = l
      · rw [if_pos c1, if_neg (by omega), if_pos (by omega)]
        exact l3 _ (by omega) (by omega)
      · by_cases c2 : i + 1 = l
        · rw [if_neg c1, if_neg (by omega), if_pos c2]
          exact l2 _ (by omega)
        · by_cases c3 : l < i
          · rw [if_neg c1, if_pos (by omega), if_neg c2, if_pos (by omega)]
            have := h (i - 1) (by omega)
            rwa [show i - 1 + 1 = i + 1 - 1 by omega] at this
          · rw [if_neg c1, if_neg (by omega), if_neg c2, if_neg (by omega)]
            exact h i (by omega))
    exact ⟨ih.1.trans (bubble_perm _ _ _), by rw [show k + (f + 1) = k + 1 + f by omega]; exact ih.2⟩
theorem sort_ok {n : Nat} : (runT (less κ) (kas_sort n)).Perm (List.range n).toArray ∧ Up κ (runT (less κ) (kas_sort n)) n := by
  unfold kas_sort
  rw [runT_bind]
  by_cases h0 : n = 0
  · subst h0
    have hp : ∀ r : Nat × Array Nat, r.1 < 0 → False := fun r h => Nat.not_lt_zero _ h
    rw [if_neg (Nat.not_lt_zero _)]
    have : runT (less κ) (kas_count 0 (List.range 0).toArray) = (1, (List.range 0).toArray) ∨ (runT (less κ) (kas_count 0 (List.range 0).toArray)).2 = (List.range 0).toArray := by
      right
      rfl
    refine ⟨?_, fun i hi => by omega⟩
    show (runT (less κ) (kas_count 0 (List.range 0).toArray)).2.Perm _
    rcases this with e | e <;> rw [e]
  · have hs : (List.range n).toArray.size = n := by simp
    have c := count_ok (κ := κ) (p := (List.range n).toArray) (nrem := n) (by omega) (by omega)
    revert c
    generalize runT (less κ) (kas_count n (List.range n).toArray) = r
    obtain ⟨m, p⟩ := r
    (rintro h9q; (with_reducible refine x0_4 h9q fun c1 c2 c3 c4 => ?_
                  try clear h9q))
    dsimp only at c1 c2 c3 c4 ⊢
    have hps : p.size = n := c1.size_eq.trans hs
    by_cases hm : m < n
    · rw [if_pos hm]
      have hmax : max m 1 = m := by omega
      rw [hmax]
      have b := bin_ok (κ := κ) (n - m) p m (by omega) c4
      rw [show m + (n - m) = n by omega] at b
      exact ⟨b.1.trans c1, b.2⟩
    · rw [if_neg hm]
      exact ⟨c1, by have : m = n := by omega
                    subst this; exact c4⟩
end
noncomputable def OkT {α : Type} (n : Nat) (P : α → Prop) : KasT α → Prop
  | .ret a => P a
  | .ask i j k => i < n ∧ j < n ∧ ∀ b, OkT n P (k b)
theorem OkT.bind {α β : Type} {n : Nat} {P : α → Prop} {P' : β → Prop} {f : α → KasT β} (hf : ∀ a, P a → OkT n P' (f a)) : ∀ t : KasT α, OkT n P t → OkT n P' (t.bind f)
  | .ret a, h => hf a h
  | .ask _ _ k, h => ⟨h.1, h.2.1, fun b => OkT.bind hf (k b) (h.2.2 b)⟩
noncomputable def Ent (n : Nat) (p : Array Nat) : Prop := ∀ i, p.getD i 0 < n
theorem getD_out {p : Array Nat} {k : Nat} (h : ¬ k < p.size) : p.getD k 0 = 0 := by simp [Array.getD, h]
theorem swap_ent {n : Nat} (h0 : 0 < n) {p : Array Nat} (h : Ent n p) (i j : Nat) : Ent n (p.swapIfInBounds i j) := fun k => by
  have hp : (p.swapIfInBounds i j).Perm p := by
    rw [Array.swapIfInBounds_def]
    split
    · split
      · exact Array.swap_perm ..
      · exact Array.Perm.refl _
    · exact Array.Perm.refl _
  by_cases hk : k < (p.swapIfInBounds i j).size
  · have hm : (p.swapIfInBounds i j)[k] ∈ p := (hp.mem_iff).mp (Array.getElem_mem hk)
    obtain ⟨i', hi', e⟩ := Array.getElem_of_mem hm
    have e1 : p.getD i' 0 = p[i'] := by simp [Array.getD, hi']
    have e2 : (p.swapIfInBounds i j).getD k 0 = (p.swapIfInBounds i j)[k] := by generalize p.swapIfInBounds i j = q at hk ⊢; simp [Array.getD, hk]
    rw [e2, ← e, ← e1]; exact h i'
  · rw [getD_out hk]; exact h0
theorem fold_ent {n : Nat} (h0 : 0 < n) {u v : Nat → Nat} : ∀ (l : List Nat) {p : Array Nat}, Ent n p → Ent n (l.foldl (fun a k => a.swapIfInBounds (u k) (v k)) p)
  | [], _, h => h
  | _ :: l, _, h => fold_ent h0 l (swap_ent h0 h _ _)
theorem rev_ent {n : Nat} (h0 : 0 < n) {p : Array Nat} (h : Ent n p) (i j : Nat) : Ent n (kas_rev p i j) := fold_ent h0 (u := fun k => i + k) (v := fun k => j - 1 - k) _ h
theorem bub_ent {n : Nat} (h0 : 0 < n) {p : Array Nat} (h : Ent n p) (s d : Nat) : Ent n (bubble p s d) := fold_ent h0 (u := fun k => s - k) (v := fun k => s - k - 1) _ h
theorem asc_ent {n : Nat} {p : Array Nat} (h : Ent n p) : ∀ f m, OkT n (fun _ => True) (kas_asc p f m)
  | 0, _ => trivial
  | f + 1, m => ⟨h _, h _, fun b => by cases b; exact asc_ent h f (m + 1); exact trivial⟩
theorem desc_ent {n : Nat} (h0 : 0 < n) : ∀ f (p : Array Nat) m q, Ent n p → OkT n (fun r => Ent n r.1) (kas_desc f p m q)
  | 0, _, _, _, h => h
  | f + 1, p, m, q, h => ⟨h _, h _, fun b => by
    cases b
    · exact ⟨h _, h _, fun c => by cases c; exact desc_ent h0 f p _ _ h; exact h⟩
    · show OkT n _ (if q > 0 then _ else _)
      split
      · exact desc_ent h0 f _ _ _ (rev_ent h0 h _ _)
      · exact desc_ent h0 f _ _ _ h⟩
theorem tail3_ent {n : Nat} (h0 : 0 < n) {p : Array Nat} (h : Ent n p) (a b : Nat) : OkT n (fun r => Ent n r.2) (kas_tail3 a b p) :=
  OkT.bind (P := fun _ => True) (P' := fun r : Nat × Array Nat => Ent n r.2) (n := n) (f := fun m => KasT.ret (m, kas_rev p 0 a)) (fun m _ => (show Ent n (kas_rev p 0 a) from rev_ent h0 h _ _)) _ (asc_ent (rev_ent h0 h _ _) _ _)
theorem part_ent {n : Nat} (h0 : 0 < n) {p : Array Nat} (h : Ent n p) (a b : Nat) : OkT n (fun r => Ent n r.2) (kas_descPart a b p) :=
  OkT.bind (fun r hr => by
    split
    · exact tail3_ent h0 (rev_ent h0 hr _ _) _ _
    · exact tail3_ent h0 hr _ _) _ (desc_ent h0 _ _ _ _ h)
theorem count_ent {n : Nat} (h0 : 0 < n) {p : Array Nat} (h : Ent n p) (b : Nat) : OkT n (fun r => Ent n r.2) (kas_count b p) :=
  OkT.bind (fun m _ => by
    split
    · exact h
    · split
      · exact ⟨h _, h _, fun c => by cases c; exact part_ent h0 (rev_ent h0 h _ _) _ _; exact h⟩
      · exact part_ent h0 h _ _) _ (asc_ent h _ _)
theorem place_ent {n : Nat} {p : Array Nat} (h : Ent n p) (k : Nat) : ∀ f l r, OkT n (fun _ => True) (kas_place p k f l r)
  | 0, _, _ => trivial
  | f + 1, l, r => by
    unfold kas_place
    split
    · exact trivial
    · exact ⟨h _, h _, fun b => by cases b; exact place_ent h k f _ _; exact place_ent h k f _ _⟩
theorem bin_ent {n : Nat} (h0 : 0 < n) : ∀ f (p : Array Nat) k, Ent n p → OkT n (fun r => Ent n r) (kas_bin f p k)
  | 0, _, _, h => h
  | f + 1, p, k, h => OkT.bind (fun l _ => bin_ent h0 f _ _ (bub_ent h0 h _ _)) _ (place_ent h k _ _ _)
theorem sort_ent (n : Nat) : OkT n (fun _ => True) (kas_sort n) := by
  by_cases h0 : n = 0
  · subst h0; exact trivial
  · have h : Ent n (List.range n).toArray := fun i => by
      by_cases hi : i < n
      · simp [Array.getD, hi]
      · rw [getD_out (by simpa using hi)]; omega
    exact OkT.bind (fun r hr => by
      split
      · have := bin_ent (by omega) (n - max r.1 1) r.2 (max r.1 1) hr
        revert this
        generalize kas_bin (n - max r.1 1) r.2 (max r.1 1) = t
        intro this
        have go : ∀ t : KasT (Array Nat), OkT n (fun r => Ent n r) t → OkT n (fun _ => True) t := fun t => by
          induction t with
          | ret a => exact fun _ => trivial
          | ask i j k ih => exact fun h => ⟨h.1, h.2.1, fun b => ih b (h.2.2 b)⟩
        exact go t this
      · exact trivial) _ (count_ent (by omega) h n)
theorem wp_run {α : Type} {cmp : Nat → Nat → (Bool → Shared → Prop) → Shared → Prop} {I : Shared → Prop} {n : Nat} {ans : Nat → Nat → Bool} {P : α → Prop} {Q : α → Shared → Prop}
    (hc : ∀ i j C s, i < n → j < n → I s → (∀ s', I s' → C (ans i j) s') → cmp i j C s) : ∀ (t : KasT α) (s : Shared), OkT n P t → I s → (∀ s', I s' → Q (runT ans t) s') → t.kasWp cmp Q s
  | .ret a, s, _, hi, hq => hq s hi
  | .ask i j k, s, h, hi, hq => hc i j _ s h.1 h.2.1 hi fun s' hi' => wp_run hc (k (ans i j)) s' (h.2.2 _) hi' hq
end Mine
end PartP1

section PartG1
open PySem PySem.W PyProof.Rows PySem.Calls
set_option Elab.async false
set_option maxRecDepth 100000
set_option maxHeartbeats 4000000
set_option linter.unusedVariables false
set_option rowWalk.seconds 0
namespace Mine
theorem start_G1 {M : Model} {A : Around} {env : Env} {E : Value → Shared → Prop} {s : Shared} {Q : Flow → Shared → Prop} (h : Q .next s) : wpAny M A (execs [] env) Q E s := by
  w_top off
  walk1
  exact h
open SeqAt AutoSeq1 MeetsSeq MeetsSeq2 MeetsSeq3 SeqRoads2
noncomputable def OpAt (op : CmpOp) (A : Around) (s : Shared) (y x : Value) (b : Bool) : Prop :=
  ∀ (prog : Program) (w : World) (E : Value → Shared → Prop) (Q : Value → Shared → Prop), Q (.bool b) s → wpAny (model prog w) A (richCompare op y x) Q E s
noncomputable def lexB (e r : Nat → Bool) : Nat → Nat → Bool
  | 0, _ => false
  | k + 1, i => if e i = true then lexB e r k (i + 1) else r i
noncomputable def codeOf (b : Bool) : Int := if b then 4 else 0
noncomputable def opOf (b : Bool) : CmpOp := if b then .Gt else .Lt
theorem ord_loop (gt : Bool) (l b : Addr) (items items2 : Array Value) (n n2 : Nat) (dd dd2 : Option Addr) (sl sl2 : Array (Option Value)) (hsz : items.size = items2.size) (e r : Nat → Bool) (k : Nat) :
    ∀ i : Nat, items.size - i = k → Meets (Builtin.«list.__eq__.loop» ⟨[.ref l, .ref b, rawInt i, rawInt (codeOf gt)], []⟩)
      (fun A R s => s.heap.get? l = some { cls := .type "list", dict := dd, data := .seq items n, slots := sl } ∧ s.heap.get? b = some { cls := .type "list", dict := dd2, data := .seq items2 n2, slots := sl2 } ∧
        (∀ j (h1 : j < items.size) (h2 : j < items2.size), EqAt A.in1 s items[j] items2[j] (e j)) ∧ (∀ j (h1 : j < items.size) (h2 : j < items2.size), e j = false → OpAt (opOf gt) A.in1 s items[j] items2[j] (r j)) ∧
        R (.ok (.ret (.bool (lexB e r (items.size - i) i)))) s) := by
  induction k with
  | zero =>
    intro i hk prog w A R s h
    obtain ⟨hp, g, d, tk, os⟩ := s; (have q91 := h
                                     clear h
                                     with_reducible refine x0_5 q91 fun hl hb he hr h => ?_
                                     clear q91)
    have hi1 : items[((i : Nat) : Int).toNat]? = none := by simp; omega
    have hi2 : items2[((i : Nat) : Int).toNat]? = none := by simp; omega
    cases gt <;> (
      simp only [codeOf, if_true, if_false, Bool.false_eq_true]
      wp_walk using wpAny_loadPart' hl, wpAny_loadPart' hb
      rw [hi1, hi2]
      wp_walk using wpAny_loadPart' hl, wpAny_loadPart' hb
      rw [hk] at h
      first
        | (show R (.ok (.ret (.bool (decide (items.size < items2.size))))) _; rw [hsz]; simpa [lexB] using h)
        | (show R (.ok (.ret (.bool (decide (items.size > items2.size))))) _; rw [hsz]; simpa [lexB] using h))
  | succ k ih =>
    intro i hk prog w A R s h
    obtain ⟨hp, g, d, tk, os⟩ := s; (have q92 := h
                                     clear h
                                     with_reducible refine x0_5 q92 fun hl hb he hr h => ?_
                                     clear q92)
    have hlt : i < items.size := by omega
    have hlt2 : i < items2.size := by omega
    have hi1 : items[((i : Nat) : Int).toNat]? = some items[i] := by simp [hlt]
    have hi2 : items2[((i : Nat) : Int).toNat]? = some items2[i] := by simp [hlt2]
    have hc : ((i : Int) + 1) = ((i + 1 : Nat) : Int) := by push_cast; rfl
    rw [hk, lexB] at h
    have hk' : items.size - (i + 1) = k := by omega
    have ih' := ih (i + 1) hk' prog w A R ⟨hp, g, d, tk, os⟩
    rw [hk'] at ih'
    cases gt <;> (
      simp only [codeOf, opOf, if_true, if_false, Bool.false_eq_true] at ih' hr ⊢
      wp_walk using wpAny_loadPart' hl, wpAny_loadPart' hb
      rw [hi1, hi2]
      refine wpAny_bind (he i hlt hlt2 prog w _ _ ?_)
      cases hb' : e i with
      | true =>
        rw [hb'] at h
        simp only [if_true] at h
        wp_walk
        rw [hc]
        exact ⟨plainId_quiet plain_eq_loop _, codeAny_builtin entry_eq_loop (by
          rw [Around.under_plainId plain_eq_loop _]
          exact ih' ⟨hl, hb, he, hr, h⟩)⟩
      | false =>
        rw [hb'] at h
        simp only [Bool.false_eq_true, if_false] at h
        wp_walk using wpAny_loadPart' hl, wpAny_loadPart' hb
        rw [hi1, hi2]
        refine wpAny_bind (hr i hlt hlt2 hb' prog w _ _ ?_)
        wp_walk
        exact h)
theorem list_ord (gt : Bool) (l b : Addr) (items items2 : Array Value) (n n2 : Nat) (dd dd2 : Option Addr) (sl sl2 : Array (Option Value)) (hsz : items.size = items2.size) (e r : Nat → Bool) :
    Meets ((if gt then Builtin.«list.__gt__» else Builtin.«list.__lt__») ⟨[.ref l, .ref b], []⟩)
      (fun A R s => s.heap.get? l = some { cls := .type "list", dict := dd, data := .seq items n, slots := sl } ∧ s.heap.get? b = some { cls := .type "list", dict := dd2, data := .seq items2 n2, slots := sl2 } ∧
        (∀ j (h1 : j < items.size) (h2 : j < items2.size), EqAt A.in1 s items[j] items2[j] (e j)) ∧ (∀ j (h1 : j < items.size) (h2 : j < items2.size), e j = false → OpAt (opOf gt) A.in1 s items[j] items2[j] (r j)) ∧
        R (.ok (.ret (.bool (lexB e r items.size 0)))) s) := by
  intro prog w A R s h
  have k := ord_loop gt l b items items2 n n2 dd dd2 sl sl2 hsz e r _ 0 rfl prog w A R s h
  obtain ⟨hp, g, d, tk, os⟩ := s; (have q93 := h
                                   clear h
                                   with_reducible refine x0_4 q93 fun hl hb he h => ?_
                                   clear q93)
  have f3 := AutoSeq1.sub_list_list
  cases gt <;> (
    simp only [if_true, if_false, Bool.false_eq_true]
    wp_walk using wpAny_loadPart' hl, wpAny_loadPart' hb
    exact ⟨plainId_quiet plain_eq_loop _, codeAny_builtin entry_eq_loop (by
      rw [Around.under_plainId plain_eq_loop _]
      exact k)⟩)
theorem OpAt.lists {A : Around} {s : Shared} {l b : Addr} {items items2 : Array Value} {e r : Nat → Bool} (gt : Bool) (hl : s.heap.IsList l items) (hb : s.heap.IsList b items2) (hsz : items.size = items2.size) (hu : A.units < cLine)
    (he : ∀ j (h1 : j < items.size) (h2 : j < items2.size), EqAt A.in1 s items[j] items2[j] (e j)) (hr : ∀ j (h1 : j < items.size) (h2 : j < items2.size), e j = false → OpAt (opOf gt) A.in1 s items[j] items2[j] (r j)) :
    OpAt (opOf gt) A s (.ref l) (.ref b) (lexB e r items.size 0) := fun prog w E Q h => by
  (obtain q94 := id hl
   refine x1_3 q94 fun q95 ho hc q96 => ?_
   clear q94
   obtain ⟨cls, dd, data, sl⟩ := q95
   with_reducible refine x1_1 q96 fun n hd => ?_
   clear q96)
  (obtain q97 := id hb
   refine x1_3 q97 fun q98 ho2 hc2 q99 => ?_
   clear q97
   obtain ⟨cls2, dd2, data2, sl2⟩ := q98
   with_reducible refine x1_1 q99 fun n2 hd2 => ?_
   clear q99)
  simp only at hc hd hc2 hd2
  subst hc hd hc2 hd2
  have K := list_ord gt l b items items2 n n2 dd dd2 sl sl2 hsz e r
  cases gt with
  | false =>
    exact richCompare_meets_room (op := .Lt) ⟨_, ho, rfl⟩ ⟨_, ho2, rfl⟩ F.slot_list_lt F.entry_list_lt (F.args_list_lt_2 _ _) K
      ⟨ho, ho2, he, hr, show Value.bool (lexB e r items.size 0) ≠ Value.notImplemented ∧ Q (.bool (lexB e r items.size 0)) s from ⟨(fun x => nomatch x), h⟩⟩ hu
  | true =>
    exact richCompare_meets_room (op := .Gt) ⟨_, ho, rfl⟩ ⟨_, ho2, rfl⟩ F.slot_list_gt F.entry_list_gt (F.args_list_gt_2 _ _) K
      ⟨ho, ho2, he, hr, show Value.bool (lexB e r items.size 0) ≠ Value.notImplemented ∧ Q (.bool (lexB e r items.size 0)) s from ⟨(fun x => nomatch x), h⟩⟩ hu
noncomputable def lexLt : List Int → List Int → Bool
  | a :: r, b :: t => if a = b then lexLt r t else decide (a < b)
  | _, _ => false
theorem lexB_ints : ∀ (ns ms : List Int) (k i : Nat), k = ns.length → ns.length = ms.length → ∀ (e r : Nat → Bool), (∀ j a b, ns[j]? = some a → ms[j]? = some b → e (i + j) = decide (a = b) ∧ (r (i + j) = decide (a < b))) → lexB e r k i = lexLt ns ms
  | [], ms, k, i, hk, hl, e, r, h => by subst hk; rfl
  | a :: ns, b :: ms, k, i, hk, hl, e, r, h => by
    subst hk
    obtain ⟨h1, h2⟩ := h 0 a b rfl rfl
    show (if e i = true then lexB e r ns.length (i + 1) else r i) = if a = b then lexLt ns ms else decide (a < b)
    rw [show e i = decide (a = b) from h1, show r i = decide (a < b) from h2, lexB_ints ns ms ns.length (i + 1) rfl (by simpa using hl) e r fun j x y q1 q2 => by
      have := h (j + 1) x y (by simpa using q1) (by simpa using q2)
      rw [show i + 1 + j = i + (j + 1) by omega]
      exact this]
    simp
  | a :: ns, [], _, _, _, hl, _, _, _ => by simp at hl
theorem OpAt.int_lt {A : Around} {s : Shared} {a b : Int} {t u : Tok} : OpAt .Lt A s (.int a t) (.int b u) (decide (a < b)) := fun prog w E Q h => lt_int h
theorem OpAt.int_gt {A : Around} {s : Shared} {a b : Int} {t u : Tok} : OpAt .Gt A s (.int a t) (.int b u) (decide (b < a)) := fun prog w E Q h => gt_int h
theorem IntsAre.get {vs : List Value} {ns : List Int} (x : IntsAre vs ns) : ∀ (i : Nat) v n, vs[i]? = some v → ns[i]? = some n → ∃ t, v = .int n t := by
  induction x with
  | nil => intro i v n h1 _; simp at h1
  | cons n t h ih =>
    intro i v n' h1 h2
    cases i with
    | zero => cases h1; cases h2; exact ⟨t, rfl⟩
    | succ i => exact ih i v n' (by simpa using h1) (by simpa using h2)
theorem ints_lt {A : Around} {s : Shared} {l b : Addr} {vs us : List Value} {ns ms : List Int} (hl : s.heap.IsList l vs.toArray) (hb : s.heap.IsList b us.toArray) (h1 : IntsAre vs ns) (h2 : IntsAre us ms) (hz : ns.length = ms.length) (hu : A.units < cLine) :
    OpAt .Lt A s (.ref l) (.ref b) (lexLt ns ms) := by
  have hv := h1.length
  have hv' := h2.length
  have hsz : vs.toArray.size = us.toArray.size := by simp; omega
  have g1 : ∀ (j : Nat) (q : j < vs.toArray.size), ∃ n t, vs.toArray[j] = .int n t ∧ ns[j]? = some n := fun j q => by
    have q' : j < vs.length := by simpa using q
    have q2 : j < ns.length := by omega
    obtain ⟨t, e⟩ := IntsAre.get h1 j vs[j] ns[j] (List.getElem?_eq_getElem q') (List.getElem?_eq_getElem q2)
    exact (i2_2 (ns[j]) t (by simpa using e) (List.getElem?_eq_getElem q2))
  have g2 : ∀ (j : Nat) (q : j < us.toArray.size), ∃ n t, us.toArray[j] = .int n t ∧ ms[j]? = some n := fun j q => by
    have q' : j < us.length := by simpa using q
    have q2 : j < ms.length := by omega
    obtain ⟨t, e⟩ := IntsAre.get h2 j us[j] ms[j] (List.getElem?_eq_getElem q') (List.getElem?_eq_getElem q2)
    exact (i2_2 (ms[j]) t (by simpa using e) (List.getElem?_eq_getElem q2))
  have K := OpAt.lists (A := A) (s := s) (e := fun j => decide (ns[j]? = ms[j]?)) (r := fun j => decide (ns.getD j 0 < ms.getD j 0)) false hl hb hsz hu
    (fun j q1 q2 => by
      (obtain q910 := g1 j q1
       with_reducible refine x2_2 q910 fun a t e1 f1 => ?_
       clear q910)
      (obtain q911 := g2 j q2
       with_reducible refine x2_2 q911 fun b u e2 f2 => ?_
       clear q911)
      rw [e1, e2, f1, f2]
      have := EqAt.int_int (A := A.in1) (s := s) a t b u
      have e : (a == b) = decide (some a = some b) := by by_cases h : a = b <;> simp [h]
      rw [← e]; exact this)
    (fun j q1 q2 _ => by
      (obtain q912 := g1 j q1
       with_reducible refine x2_2 q912 fun a t e1 f1 => ?_
       clear q912)
      (obtain q913 := g2 j q2
       with_reducible refine x2_2 q913 fun b u e2 f2 => ?_
       clear q913)
      rw [e1, e2, List.getD_eq_getElem?_getD, List.getD_eq_getElem?_getD, f1, f2]
      exact OpAt.int_lt)
  rw [lexB_ints ns ms vs.toArray.size 0 (by simp; omega) hz _ _ fun j a b q1 q2 => by
    rw [Nat.zero_add, List.getD_eq_getElem?_getD, List.getD_eq_getElem?_getD, q1, q2]
    exact ⟨by simp, rfl⟩] at K
  exact K
theorem IntsAre.inj {vs : List Value} {ns : List Int} (x : IntsAre vs ns) : ∀ {ms : List Int}, IntsAre vs ms → ns = ms := by
  induction x with
  | nil => intro ms k; cases k; rfl
  | cons n t h ih =>
    intro ms k
    cases k with
    | cons _ _ k => rw [ih k]
theorem ints_eq {A : Around} {s : Shared} {l b : Addr} {vs us : List Value} {ns ms : List Int} (hl : s.heap.IsList l vs.toArray) (hb : s.heap.IsList b us.toArray) (h1 : IntsAre vs ns) (h2 : IntsAre us ms) (hu : A.units + 64 < cLine) :
    EqAt A s (.ref l) (.ref b) (decide (ns = ms)) := by
  by_cases hne : l = b
  · subst hne
    have e : ns = ms := by
      (refine x1_3 hl fun o ho _ q914 => ?_
       try clear hl
       with_reducible refine x1_1 q914 fun n hd => ?_
       clear q914)
      (refine x1_3 hb fun o' ho' _ q915 => ?_
       try clear hb
       with_reducible refine x1_1 q915 fun n' hd' => ?_
       clear q915)
      rw [ho] at ho'; cases ho'
      rw [hd] at hd'
      injection hd' with hd'
      have e : vs = us := by simpa using hd'
      subst e
      exact IntsAre.inj h1 h2
    rw [decide_eq_true e]
    exact EqAt.same _
  · exact EqAt.of_refs hne fun prog w E Q h => ke_eq_ints hl hb h1 h2 hu h
end Mine
end PartG1

section PartI1
open PySem PySem.W PyProof.Rows PySem.Calls
set_option Elab.async false
set_option maxRecDepth 100000
set_option maxHeartbeats 4000000
set_option linter.unusedVariables false
set_option rowWalk.seconds 0
namespace Mine
noncomputable def sortP (less : Nat → Nat → Bool) (n : Nat) : List Nat := if n < 2 then List.range n else (runT less (kas_sort n)).toList
structure SortBy (w : World) (A : Around) (h0 : Heap) (f : Value) (vs : List Value) (T : Value) (less : Nat → Nat → Bool) (Kp : Nat → Value → Heap → Prop) : Prop where
  mono : ∀ i y v v', Kp i y v → v.StaysIn v' → Kp i y v'
  type : ∀ i y v h, Kp i y v → v.StaysIn h → Looks (model Challenge.rw_mg0030_01.row.prog w) h (typeOf y) T
  key : ∀ i x x1 x2 (s : Shared), vs[i]? = some x → Ext A [] h0 s.heap → (∃ xs c, s.heap.get? x1 = some (seqObj "list" xs c)) → (∃ xs c, s.heap.get? x2 = some (seqObj "list" xs c)) → x1 ∉ fsA A → x2 ∉ fsA A → h0.get? x1 = none → h0.get? x2 = none →
    ∀ (Q : Value → Shared → Prop) (E : Value → Shared → Prop), (∀ y h' tk', Ext A [] s.heap h' → Kp i y (view A [x1, x2] h') → Q y { s with heap := h', toks := tk' }) → wpAny (model Challenge.rw_mg0030_01.row.prog w) A.in1.in1 (call f [x]) Q E s
  lt : ∀ i j x y x1 x2 (s : Shared), i < vs.length → j < vs.length → Ext A [] h0 s.heap → Kp i x (view A [x1, x2] s.heap) → Kp j y (view A [x1, x2] s.heap) →
    ∀ (Q : Bool → Shared → Prop) (E : Value → Shared → Prop), (∀ h' tk', Ext A [] s.heap h' → Q (less i j) { s with heap := h', toks := tk' }) → wpAny (model Challenge.rw_mg0030_01.row.prog w) A.in1.in1 (oneLt' true x y) Q E s
theorem ext_but {A : Around} {a b c : Heap} (x : Ext A [] a b) (k : ∀ q o, a.get? q ≠ none → b.get? q = some o → c.get? q = some o) : Ext A [] a c := by
  refine ⟨fun q o e => ?_, fun q hq o e => ?_⟩
  · obtain ⟨n, e1⟩ := view_get e
    have e2 := x.keep q o e
    exact view_of n (k q o (by rw [e1]; simp) (view_get e2).2)
  · obtain ⟨sl, e2⟩ := x.frs q hq o e
    exact ⟨sl, k q _ (by rw [e]; simp) e2⟩
theorem view_but {A : Around} {a b : Heap} {xs : List Addr} (k : ∀ q o, q ∉ xs → a.get? q = some o → b.get? q = some o) : (view A xs a).StaysIn (view A xs b) := fun q o e => by
  obtain ⟨n, e1⟩ := view_get e
  exact view_of n (k q o (fun h => n (List.mem_append_left _ h)) e1)
theorem ext_at {A : Around} {a b : Heap} (x : Ext A [] a b) {q : Addr} {o : Obj} (hq : q ∉ fsA A) (e : a.get? q = some o) : b.get? q = some o := (view_get (x.keep q o (view_of (by simpa using hq) e))).2
section
variable {w : World} {A : Around} {s : Shared} {l q : Addr} {vs : List Value} {T : Value} {less : Nat → Nat → Bool} {Kp : Nat → Value → Heap → Prop}
noncomputable def KSt (A : Around) (s : Shared) (kS D : Addr) (e1 : Nat) (Kp : Nat → Value → Heap → Prop) (ys : List Value) (s' : Shared) : Prop :=
  ∃ h tk e, s' = { s with heap := h, toks := tk } ∧ Ext A [] s.heap h ∧ h.get? kS = some (seqObj "list" ys.toArray e) ∧ h.get? D = some (seqObj "list" #[] e1) ∧ ∀ j y, ys[j]? = some y → Kp j y (view A [kS, D] h)
theorem sort_tail {kS D : Addr} {e1 : Nat} {ys : List Value} {s' : Shared} {st : SortSt} {out : List Value} {P : PySem.Fin → Shared → Prop} {E : Value → Shared → Prop} (K : KSt A s kS D e1 Kp ys s') (hkD : kS ≠ D) (hk0 : s.heap.get? kS = none) (hD0 : s.heap.get? D = none)
    (hout : (arrOf st).map (·.2) = List.toArray out) (hz : out.length < 64) (hkz : ys.length < 64) (hf : failedOf st = none)
    (h : ∀ h' tk', Ext A [] s.heap h' → (∃ c, h'.get? D = some (seqObj "list" out.toArray c)) → P (.done (.ret .none)) { s with heap := h', toks := tk' }) :
    wpAny (model Challenge.rw_mg0030_01.row.prog w) A.in1.in1 (ksk_tail D false e1 (.ref kS) st) P E s' := by
  (refine x3_5 K fun h1 tk e r91 X hk hD c92 => ?_
   try clear K
   obtain rfl := r91
   clear c92)
  have s1 := Heap.SameBut.update h1 kS (Obj.mapSeq fun _ => (#[] : Array Value))
  have na : (h1.update kS (Obj.mapSeq fun _ => (#[] : Array Value))).get? D = some (seqObj "list" #[] e1) := (s1.2 D hkD.symm).trans hD
  have s2 := Heap.SameBut.update (h1.update kS (Obj.mapSeq fun _ => (#[] : Array Value))) D (Obj.mapSeq fun _ => List.toArray out)
  obtain ⟨c2, hc2⟩ : ∃ c2, ((h1.update kS (Obj.mapSeq fun _ => (#[] : Array Value))).update D (Obj.mapSeq fun _ => List.toArray out)).get? D = some (seqObj "list" (List.toArray out) c2) := ⟨_, get?_update_seq na fun _ => List.toArray out⟩
  unfold ksk_tail
  try dsimp only
  rw [hout]
  simp only [Bool.false_eq_true, if_false]
  refine wpAny_bind (listUpdate_at hk rfl ?_ (by rw [List.size_toArray, sizeLine_eq]; omega) (Nat.zero_le _))
  refine wpAny_bind (wpAny_letGo ?_)
  refine wpAny_bind (seqEpoch_at na rfl ?_)
  refine wpAny_bind (listUpdate_at na rfl ?_ (Nat.zero_le _) (by rw [List.size_toArray, sizeLine_eq]; omega))
  rw [hf]
  simp only [bne_self_eq_false, Bool.false_eq_true, if_false]
  refine wpAny_pure (h _ _ (ext_but X fun b o hb e => ?_) ⟨c2, hc2⟩)
  exact (s2.2 b fun q => hb (q ▸ hD0)).trans ((s1.2 b fun q => hb (q ▸ hk0)).trans e)
theorem sort_end {kS D : Addr} {e1 : Nat} {ys : List Value} {s' : Shared} {P : PySem.Fin → Shared → Prop} {E : Value → Shared → Prop} (S : SortBy w A s.heap (.ref q) vs T less Kp) (K : KSt A s kS D e1 Kp ys s') (hkD : kS ≠ D) (hk0 : s.heap.get? kS = none) (hD0 : s.heap.get? D = none) (hkf : kS ∉ fsA A) (hDf : D ∉ fsA A)
    (hl : ys.length = vs.length) (h64 : vs.length < 64) (hT1 : (T != Value.type "tuple") = true) (hT2 : (T == T) = true)
    (h : ∀ h' tk', Ext A [] s.heap h' → (∃ c, h'.get? D = some (seqObj "list" ((sortP less vs.length).map fun i => vs.getD i Value.none).toArray c)) → P (.done (.ret .none)) { s with heap := h', toks := tk' }) :
    wpAny (model Challenge.rw_mg0030_01.row.prog w) A.in1.in1 (ksk_end D false vs.toArray e1 (.ref kS) (List.toArray ys)) P E s' := by
  unfold ksk_end
  try dsimp only
  simp only [Bool.false_eq_true, if_false]
  by_cases h2 : vs.toArray.size < 2
  · rw [if_pos h2, if_pos h2]
    refine wpAny_bind (wpAny_pure ?_)
    rw [StateT.run_pure]
    refine wpAny_bind (wpAny_pure ?_)
    try dsimp only
    rw [List.size_toArray] at h2
    refine sort_tail (out := vs) K hkD hk0 hD0 ?_ h64 (by omega) rfl fun h' tk' X hD => h h' tk' X ?_
    · show ((List.toArray ys).zip vs.toArray).map (·.2) = vs.toArray
      apply Array.toList_inj.mp
      rw [Array.toList_map, ksk_zip]
      show (ys.zip vs).map Prod.snd = vs
      exact List.map_snd_zip (by omega)
    · have e : (sortP less vs.length).map (fun i => vs.getD i Value.none) = vs := by
        unfold sortP
        rw [if_pos h2]
        apply List.ext_getElem?
        intro i
        by_cases hi : i < vs.length
        · simp [hi]
        · simp [Nat.le_of_not_lt hi]
      rw [e]; exact hD
  · rw [if_neg h2, if_neg h2]
    rw [List.size_toArray] at h2
    (obtain q93 := id K
     refine x3_5 q93 fun h1 tk e r94 X hk hD hy => ?_
     clear q93
     obtain rfl := r94)
    refine wpAny_bind (kas_kind (T := T) (by omega) (fun v hv => ?_) hT1 hT2 ?_)
    · obtain ⟨j, hj⟩ := List.mem_iff_getElem?.mp hv
      exact S.type j v _ _ (hy j v hj) view_le
    · refine wpAny_bind (wpAny_mono (kat_run (E := fun _ _ => False) (ks := ys) (vs := vs) (κ := oneType') (Q := fun st s'' => KSt A s kS D e1 Kp ys s'' ∧ failedOf st = none ∧ (arrOf st).map (·.2) = List.toArray ((sortP less vs.length).map fun i => vs.getD i Value.none) ∧ (sortP less vs.length).length = vs.length)
          (G := fun p s'' => KSt A s kS D e1 Kp ys s'' ∧ p.toList = sortP less vs.length) hl (by omega) h64 (fun p st s'' hp har hf hg => ⟨hg.1, hf, ?_, by rw [← hg.2, Array.length_toList, hp]⟩) ?_) ?_ fun _ _ x => x.elim)
      · rw [kat_snds hl har, hg.2]
      · refine wp_run (I := KSt A s kS D e1 Kp ys) (n := vs.length) (ans := less) (P := fun _ => True) (fun i j C s'' hi hj hI hC => ?_) _ _ (sort_ent _) K fun s'' hI => ⟨hI, ?_⟩
        · (refine x3_5 hI fun h2 tk2 e2 r95 X2 hk2 hD2 hy2 => ?_
           try clear hI
           obtain rfl := r95)
          show wpAny _ _ (keyLt' oneType' (ys.getD i Value.none) (ys.getD j Value.none)) _ _ _
          rw [keyLt'_oneType]
          have gi : ys[i]? = some (ys.getD i .none) := by rw [List.getD_eq_getElem?_getD, List.getElem?_eq_getElem (by omega)]; rfl
          have gj : ys[j]? = some (ys.getD j .none) := by rw [List.getD_eq_getElem?_getD, List.getElem?_eq_getElem (by omega)]; rfl
          refine S.lt i j _ _ kS D { s with heap := h2, toks := tk2 } hi hj X2 (hy2 i _ gi) (hy2 j _ gj) _ _ fun h3 tk3 X3 => ?_
          refine hC _ (i3_5 h3 tk3 e2 rfl (X2.trans X3) (ext_at X3 hkf hk2) (ext_at X3 hDf hD2) (fun j y hj => S.mono _ _ _ _ (hy2 j y hj) (Ext.mono X3).keep))
        · unfold sortP; rw [if_neg h2]
      · (rintro ⟨⟨⟩, st⟩ s'' h9q; (with_reducible refine x0_4 h9q fun K2 hf hout hsz => ?_
                                   try clear h9q))
        try dsimp only
        refine sort_tail K2 hkD hk0 hD0 hout ?_ (by omega) hf h
        rw [List.length_map, hsz]; exact h64
theorem sort_rest {kS D : Addr} {e1 : Nat} {s' : Shared} {P : PySem.Fin → Shared → Prop} {E : Value → Shared → Prop} (S : SortBy w A s.heap (.ref q) vs T less Kp) (K : KSt A s kS D e1 Kp [] s') (hkD : kS ≠ D) (hk0 : s.heap.get? kS = none) (hD0 : s.heap.get? D = none) (hkf : kS ∉ fsA A) (hDf : D ∉ fsA A)
    (h64 : vs.length < 64) (hT1 : (T != Value.type "tuple") = true) (hT2 : (T == T) = true)
    (h : ∀ h' tk', Ext A [] s.heap h' → (∃ c, h'.get? D = some (seqObj "list" ((sortP less vs.length).map fun i => vs.getD i Value.none).toArray c)) → P (.done (.ret .none)) { s with heap := h', toks := tk' }) :
    wpAny (model Challenge.rw_mg0030_01.row.prog w) A.in1.in1 (ksk_rest D (.ref q) false vs.toArray e1 (.ref kS)) P E s' := by
  unfold ksk_rest
  refine wpAny_bind (wpAny_rule ?_)
  first
    | rw [List.forIn_toArray]
    | (rw [← Array.forIn_toList]; simp only [List.toList_toArray])
    | rw [← Array.forIn_toList]
  refine wpAny_bind (ksk_fold (fun i s'' => ∃ ys : List Value, ys.length = i ∧ KSt A s kS D e1 Kp ys s'') vs 0 s' ⟨[], rfl, K⟩ ?step ?done)
  case step =>
    (rintro j x s'' hx h9q; (with_reducible refine x1_2 h9q fun ys hyl q96 => ?_
                             try clear h9q
                             refine x3_5 q96 fun h2 tk2 e2 r97 X2 hk2 hD2 hy2 => ?_
                             clear q96
                             obtain rfl := r97))
    simp only [Nat.zero_add] at hyl ⊢
    have hj : j < vs.length := (List.getElem?_eq_some_iff.mp hx).1
    refine wpAny_bind (wpAny_attempt (S.key j x kS D { s with heap := h2, toks := tk2 } hx X2 ⟨_, _, hk2⟩ ⟨_, _, hD2⟩ hkf hDf hk0 hD0 _ _ fun y h3 tk3 X3 hy3 => ?_))
    have hk3 := ext_at X3 hkf hk2
    have hD3 := ext_at X3 hDf hD2
    have s1 := Heap.SameBut.update h3 kS (Obj.mapSeq (·.push y))
    have ea : (List.toArray ys).push y = List.toArray (ys ++ [y]) := by simp
    obtain ⟨c2, hc2⟩ : ∃ c2, (h3.update kS (Obj.mapSeq (·.push y))).get? kS = some (seqObj "list" (List.toArray (ys ++ [y])) c2) := ⟨_, by rw [← ea]; exact get?_update_seq hk3 (·.push y)⟩
    have st : (view A [kS, D] h3).StaysIn (view A [kS, D] (h3.update kS (Obj.mapSeq (·.push y)))) := view_but fun b o hb e => (s1.2 b (by simp at hb; exact hb.1)).trans e
    try dsimp only
    refine wpAny_bind (listUpdate_at hk3 rfl ?_ (by rw [List.size_toArray, sizeLine_eq]; omega) (Nat.le_trans (Nat.le_of_eq (Array.size_push ..)) (by rw [List.size_toArray, sizeLine_eq]; omega)))
    refine wpAny_pure ⟨rfl, (i1_2 (ys ++ [y]) (by simp [hyl]) (i3_5 _ _ c2 rfl (ext_but (X2.trans X3) fun b o hb e => (s1.2 b fun q => hb (q ▸ hk0)).trans e) hc2 ((s1.2 D hkD.symm).trans hD3) (fun i z hz => ?_)))⟩
    by_cases hi : i < ys.length
    · rw [List.getElem?_append_left hi] at hz
      exact S.mono _ _ _ _ (S.mono _ _ _ _ (hy2 i z hz) (Ext.mono X3).keep) st
    · rw [List.getElem?_append_right (by omega)] at hz
      cases hq : i - ys.length with
      | zero =>
        rw [hq] at hz
        cases hz
        rw [show i = j by omega]
        exact S.mono _ _ _ _ hy3 st
      | succ n => rw [hq] at hz; simp at hz
  case done =>
    (rintro s'' h9q; (with_reducible refine x1_2 h9q fun ys hyl K2 => ?_
                      try clear h9q))
    rw [Nat.zero_add] at hyl
    try dsimp only
    (obtain q98 := id K2
     refine x3_5 q98 fun h2 tk2 e2 r99 X2 hk2 hD2 hy2 => ?_
     clear q98
     obtain rfl := r99)
    refine wpAny_bind (listItems_at hk2 rfl ?_)
    exact sort_end S K2 hkD hk0 hD0 hkf hDf hyl h64 hT1 hT2 h
theorem c_sorted (H : Here w A [] s.heap) (hl : s.heap.IsList l vs.toArray) (S : SortBy w A s.heap (.ref q) vs T less Kp) (h64 : vs.length < 64) (hT1 : (T != Value.type "tuple") = true) (hT2 : (T == T) = true) :
    Quiet w A (call (.builtin "sorted") [.ref l] [(Str.ofString "key", .ref q)]) s (fun r v => ∃ D, r = .ref D ∧ v.IsList D ((sortP less vs.length).map fun i => vs.getD i Value.none).toArray ∧ s.heap.objs.size ≤ D) := by
  intro Q E ret
  have hfs : ∀ a, s.heap.get? a = none → a ∉ fsA A := fun a ha q => by
    (obtain q910 := H.fr
     with_reducible refine x2_3 q910 fun lf frs hlf Fs hf => ?_
     clear q910)
    rw [show fsA A = frs.map (·.1) by unfold fsA; rw [hlf]; exact Fs.addrs] at q
    (obtain q81 := List.mem_map.mp q
     with_reducible refine x1_2 q81 fun p hp e => ?_
     clear q81)
    have := hf p hp
    rw [show p.1 = a from e, ha] at this
    cases this
  refine call_function_entry_kw kind_sorted plain_sorted entry_sorted (ksk_s1 _ _) ?_
  unfold Builtin.«sorted»
  refine wpAny_bind (m := checkCount "sorted" 1 1 _) (wpAny_pure ?_)
  refine wpAny_bind (collect_list hl ?_ (by rw [sizeLine_eq]; omega))
  refine wpAny_bind (wpAny_newList ?_ (by rw [sizeLine_eq]; omega))
  have hsz : ((s.heap.push (seqObj "list" #[] 0)).update s.heap.objs.size (Obj.mapSeq (· ++ vs.toArray))).objs.size = s.heap.objs.size + 1 := by
    rw [Heap.size_update, size_push']
  have hoL : (((s.heap.push (seqObj "list" #[] 0)).update s.heap.objs.size (Obj.mapSeq (· ++ vs.toArray))).push (seqObj "list" vs.toArray 0)).get? (s.heap.objs.size + 1) = some (seqObj "list" vs.toArray 0) := by
    rw [← hsz]; exact Heap.get?_push_size _ rfl
  have keep : ∀ b o, s.heap.get? b = some o → (((s.heap.push (seqObj "list" #[] 0)).update s.heap.objs.size (Obj.mapSeq (· ++ vs.toArray))).push (seqObj "list" vs.toArray 0)).get? b = some o := fun b o q => by
    have hlt : b < s.heap.objs.size := Heap.lt_size q
    rw [Heap.get?_push_ne _ _ _ (by rw [hsz]; exact Nat.ne_of_lt (Nat.lt_succ_of_lt hlt)), Heap.get?_update_ne _ _ _ _ (Nat.ne_of_lt hlt), Heap.get?_push_ne _ _ _ (Nat.ne_of_lt hlt)]
    exact q
  have hsz1 : (((s.heap.push (seqObj "list" #[] 0)).update s.heap.objs.size (Obj.mapSeq (· ++ vs.toArray))).push (seqObj "list" vs.toArray 0)).objs.size = s.heap.objs.size + 2 := by rw [size_push', hsz]
  show wpAny _ _ _ _ _ { s with heap := ((s.heap.push (seqObj "list" #[] 0)).update s.heap.objs.size (Obj.mapSeq (· ++ vs.toArray))).push (seqObj "list" vs.toArray 0) }
  rw [hsz]
  generalize ((s.heap.push (seqObj "list" #[] 0)).update s.heap.objs.size (Obj.mapSeq (· ++ vs.toArray))).push (seqObj "list" vs.toArray 0) = H1 at *
  have hD0 : s.heap.get? (s.heap.objs.size + 1) = none := Heap.get?_none_of_le (Nat.le_succ _)
  refine wpAny_bind (wpAny_holding (wpAny_call_entry_kw slot_list_sort ⟨_, hoL, rfl⟩ entry_list_sort ?body (ksk_l1 _ _)))
  case body =>
    rw [ksk_t1]
    have s1 := Heap.SameBut.update H1 (s.heap.objs.size + 1) (Obj.mapSeq fun _ => (#[] : Array Value))
    obtain ⟨e1, ho1⟩ : ∃ e1, (H1.update (s.heap.objs.size + 1) (Obj.mapSeq fun _ => (#[] : Array Value))).get? (s.heap.objs.size + 1) = some (seqObj "list" #[] e1) := ⟨_, get?_update_seq hoL fun _ => #[]⟩
    have hkS : ((H1.update (s.heap.objs.size + 1) (Obj.mapSeq fun _ => (#[] : Array Value))).push (seqObj "tuple" vs.toArray 0)).objs.size = s.heap.objs.size + 3 := by rw [size_push', Heap.size_update, hsz1]
    have hk0 : s.heap.get? (s.heap.objs.size + 3) = none := Heap.get?_none_of_le (Nat.le_add_right _ _)
    unfold ksk_tree
    refine wpAny_bind (listItems_at hoL rfl ?_)
    refine wpAny_bind (listUpdate_at hoL rfl ?_ (by rw [List.size_toArray, sizeLine_eq]; omega) (Nat.zero_le _))
    refine wpAny_bind (seqEpoch_at ho1 rfl ?_)
    refine wpAny_bind (wpAny_newTuple ?_ (by show vs.length ≤ _; rw [sizeLine_eq]; omega))
    refine wpAny_bind (wpAny_newList ?_ (Nat.zero_le _))
    refine wpAny_holding ?_
    dsimp only
    have e3 : (((H1.update (s.heap.objs.size + 1) (Obj.mapSeq fun _ => (#[] : Array Value))).push (seqObj "tuple" vs.toArray 0)).push (seqObj "list" #[] 0)).get? (s.heap.objs.size + 3) = some (seqObj "list" #[] 0) := by rw [← hkS]; exact Heap.get?_push_size _ rfl
    have eD : (((H1.update (s.heap.objs.size + 1) (Obj.mapSeq fun _ => (#[] : Array Value))).push (seqObj "tuple" vs.toArray 0)).push (seqObj "list" #[] 0)).get? (s.heap.objs.size + 1) = some (seqObj "list" #[] e1) := Heap.get?_push_of_some _ (Heap.get?_push_of_some _ ho1)
    have X : Ext A [] s.heap (((H1.update (s.heap.objs.size + 1) (Obj.mapSeq fun _ => (#[] : Array Value))).push (seqObj "tuple" vs.toArray 0)).push (seqObj "list" #[] 0)) := ext_but Ext.refl fun b o hb e => Heap.get?_push_of_some _ (Heap.get?_push_of_some _ ((s1.2 b fun q => hb (q ▸ hD0)).trans (keep b o e)))
    have K : KSt A s (s.heap.objs.size + 3) (s.heap.objs.size + 1) e1 Kp [] { s with heap := ((H1.update (s.heap.objs.size + 1) (Obj.mapSeq fun _ => (#[] : Array Value))).push (seqObj "tuple" vs.toArray 0)).push (seqObj "list" #[] 0) } := (i3_5 _ s.toks 0 rfl X e3 eD (fun j y hy => by simp at hy))
    rw [hkS]
    refine sort_rest S K (by show s.heap.objs.size + 3 ≠ s.heap.objs.size + 1; omega) hk0 hD0 (hfs _ hk0) (hfs _ hD0) h64 hT1 hT2 fun h' tk' X' ⟨c, hc⟩ => ?_
    refine ⟨_, rfl, wpAny_pure ⟨_, rfl, ret _ _ _ X' (i1_3 _ rfl ?_ (Nat.le_succ _))⟩⟩
    exact (i1_3 _ (view_of (by simpa using hfs _ hD0) hc) rfl ⟨_, rfl⟩)
end
end Mine
end PartI1

section MacA
open PySem PySem.W PyProof.Rows PySem.Calls in
local macro_rules | `(tactic| kwd_inv) => `(tactic| first | exact List.forall_mem_nil _ | (refine List.forall_mem_cons.mpr ⟨Mine.apart_data (by k_asm) (by k_asm) (by kwd_rel) (by k_mem) (by first | (intro _ _ q9; cases q9; done) | (intro _ _ q9; simp_all; done)), ?_⟩; kwd_inv))
open PySem PySem.W PyProof.Rows PySem.Calls in
local macro_rules | `(tactic| kwd_less) => `(tactic| first | assumption | (dsimp only [Around.deeper, Around.in1]; omega) | omega)
open PySem PySem.W PyProof.Rows PySem.Calls in
local macro_rules | `(tactic| k_all) => `(tactic| assumption)
section PartC1
open PySem PySem.W PyProof.Rows PySem.Calls
set_option Elab.async false
set_option maxRecDepth 100000
set_option maxHeartbeats 8000000
set_option linter.unusedVariables false
set_option rowWalk.seconds 0
namespace Mine
theorem start_C1 {M : Model} {A : Around} {env : Env} {E : Value → Shared → Prop} {s : Shared} {Q : Flow → Shared → Prop} (h : Q .next s) : wpAny M A (execs [] env) Q E s := by
  w_top off
  walk1
  exact h
open TI (Frs SameUp)
noncomputable def cmp3 (x y : Int) : Int := b2i (decide (y < x)) - b2i (decide (x < y))
theorem c_cmp3 {w : World} {A : Around} {s : Shared} {x y : Int} {tx ty : Tok} (H : Here w A [] s.heap) (hd : A.depth < recursionLimit) :
    Quiet w A (call (.ref 35) [.int x tx, .int y ty]) s (fun r _ => ∃ t, r = .int (cmp3 x y) t) := by
  intro Q E ret
  have X := H.frag
  have XS := X.keeps view_le
  revert XS X; k_fill; intro X XS
  refine wpAny_call ?_
  k_dflt (refine' enter_m (cl := []) (hid := []) (news := []) H ?hN (XS 35 _ (by k_is)) ?hd (codeRec_of XS ?hc) hd ?hb ?hl ?_ ?hcell ?hco ?hg ?hk; (case hN => exact fun _ h => nomatch h); (case hd => exact rfl); (case hc => k_is); (case hb => exact BindsTo.of_eq rfl); (case hl => exact locs rfl); (case hcell => decide); (case hco => exact rfl); (case hg => exact rfl); (case hk => exact rfl))
  clear XS X
  intro l frs p loose mean mg mb L' h' I' X' T' F' N'
  have hl := I'.hl
  have Fs := I'.fs
  have SU := SameUp.refl frs
  generalize hg : view A [] s.heap = g at *
  simp only [List.nil_append] at N'
  (try dsimp only); (try k_fold)
  k_steps
  show Q _ _; dsimp only
  exact ret _ _ _ (ext_ofg hg I'.hl I'.fs I'.fr (by k_asm) (by k_asm) (by k_asm) (by kwd_rel) I'.above) ⟨_, rfl⟩

end Mine
end PartC1

section PartC2
open PySem PySem.W PyProof.Rows PySem.Calls
set_option Elab.async false
set_option maxRecDepth 100000
set_option maxHeartbeats 8000000
set_option linter.unusedVariables false
set_option rowWalk.seconds 0
namespace Mine
theorem start_C2 {M : Model} {A : Around} {env : Env} {E : Value → Shared → Prop} {s : Shared} {Q : Flow → Shared → Prop} (h : Q .next s) : wpAny M A (execs [] env) Q E s := by
  w_top off
  walk1
  exact h
open TI (Frs SameUp)
section
variable {M : Model} {A : Around} {E : Value → Shared → Prop} {s : Shared} {h₀ : Heap} {L a : Addr} {m : Str → Option Value} {cn : Str} {cs : Scope} {ccd : Value} {cl : List (Str × Addr)} {x : Str} {pos : Pos} {v : Value} {Q : Value → Shared → Prop} {c : Addr} {o : Obj}
theorem nameX_H (F : Fr h₀ L s.heap m) (hc : cl.lookup x = some c) (hv : h₀.get? c = some o) (hd : o.data = .cell (some v)) (h : Q v s)
    (hk : cs.kind = .function := by rfl) (hx : (envX cn cs L a ccd cl).kindOf x = some .free := by rfl) (hb : (x == ("__debug__" : Str)) = false := by decide) (hn : (x == ("__classdict__" : Str)) = false := by decide) :
    wpAny M A (eval (.Name x pos) (envX cn cs L a ccd cl)) Q E s := wpAny_Name (wpAny_loadName_free hk hx hc ⟨_, F.keep _ _ hv, hd⟩ h hn) hb
end
local macro_rules | `(tactic| walk_at "eval Name") => `(tactic| (k_here; (with_reducible show wpAny _ _ (eval (Expr.Name _ _) (envX _ _ _ _ _ _)) _ _ _); k_dflt (refine' nameX_H ?F ?c ?v ?d ?_ ?a ?b; (case a => rfl); (case b => rfl); (case F => k_asm); (case c => rfl); (case v => assumption); (case d => assumption); k_whole)))

noncomputable abbrev Rec := Int × Int × Int
noncomputable def RecAt (h : Heap) (r : Addr) (a : Rec) : Prop := ∃ t0 t1 t2, h.IsList r #[.int a.1 t0, .int a.2.1 t1, .int a.2.2 t2]
theorem RecAt.ext {h h' : Heap} {r : Addr} {a : Rec} (x : RecAt h r a) (e : h.StaysIn h') : RecAt h' r a := x3_1 x fun t0 t1 t2 q => x1_1 q fun o q => ⟨t0, t1, t2, o, e _ _ q.1, q.2⟩
theorem FnAt.ext {h h' : Heap} {q : Addr} (x : FnAt q h) (e : h.StaysIn h') : FnAt q h' := let ⟨a, b, c, d, ho⟩ := x; (i4_1 a b c d (e _ _ ho))
structure CmpOk (w : World) (v : Heap) (f : Value) (n : Nat) (c : Rec → Rec → Int) : Prop where
  fn : ∃ q, f = .ref q ∧ FnAt q v
  ok : ∀ (A : Around) (s : Shared) (r1 r2 : Addr) (a b : Rec), v.StaysIn (view A [] s.heap) → Here w A [] s.heap → A.depth + n < recursionLimit → A.units + 20 * n < cLine → RecAt (view A [] s.heap) r1 a → RecAt (view A [] s.heap) r2 b →
    Quiet w A (call f [.ref r1, .ref r2]) s (fun r _ => ∃ t, r = .int (c a b) t)
theorem CmpOk.ext {w : World} {h h' : Heap} {f : Value} {n : Nat} {c : Rec → Rec → Int} (x : CmpOk w h f n c) (e : h.StaysIn h') : CmpOk w h' f n c :=
  ⟨let ⟨q, eq, o⟩ := x.fn; ⟨q, eq, FnAt.ext o e⟩, fun A s r1 r2 a b e' => x.ok A s r1 r2 a b (StaysIn.trans e e')⟩
theorem CmpOk.mono {w : World} {h : Heap} {f : Value} {n n' : Nat} {c : Rec → Rec → Int} (x : CmpOk w h f n c) (e : n ≤ n') : CmpOk w h f n' c :=
  ⟨x.fn, fun A s r1 r2 a b e' H hd hu => x.ok A s r1 r2 a b e' H (by omega) (by omega)⟩
noncomputable def colOf (x : Int) (a : Rec) : Int := if x = 0 then a.1 else a.2.1
noncomputable def ruleC (x y : Int) (a b : Rec) : Int := y * cmp3 (colOf x a) (colOf x b)
noncomputable def thenC (c1 c2 : Rec → Rec → Int) (a b : Rec) : Int := if c1 a b = 0 then c2 a b else c1 a b

theorem fill_c2 {w : World} {A : Around} {s : Shared} (H : Here w A [] s.heap) : PySem.Challenge.rw_mg0030_01 = PySem.Challenge.rw_mg0030_01 := by
  have X := H.frag
  revert X; k_fill; intro X
  rfl
theorem c_alike {w : World} {h : Heap} (X : (Mine.hd.heap_1 w.params).In h) : CmpOk w h (.ref 79) 1 (fun _ _ => 0) := by
  revert X; k_fill; intro X
  refine ⟨(i1_2 79 rfl (i4_1 _ _ _ _ (X 79 _ (by k_is)))), ?_⟩
  intro A s r1 r2 a b e2 H2 hd2 hu2 R1 R2 Q2 E2 ret2
  replace X := (X.keeps e2).keeps view_le
  refine wpAny_call ?_
  k_dflt (refine' enter_m (cl := []) (hid := []) (news := []) H2 ?hN (X 79 _ (by k_is)) ?hd (codeRec_of X ?hc) ?hr ?hb ?hl ?_ ?hcell ?hco ?hg ?hk; (case hN => exact fun _ h => nomatch h); (case hd => exact rfl); (case hc => k_is); (case hr => omega); (case hb => exact BindsTo.of_eq rfl); (case hl => exact locs rfl); (case hcell => decide); (case hco => exact rfl); (case hg => exact rfl); (case hk => exact rfl))
  clear X
  intro l frs p loose mean mg mb L' h' I' X' T' F' N'
  have hl := I'.hl
  have Fs := I'.fs
  have SU := SameUp.refl frs
  generalize hg : view A [] s.heap = g at *
  simp only [List.nil_append] at N'
  (try dsimp only); (try k_fold)
  k_steps
  show Q2 _ _
  (try dsimp only)
  exact ret2 _ _ _ (ext_ofg hg I'.hl I'.fs I'.fr (by k_asm) (by k_asm) (by k_asm) (by kwd_rel) I'.above) ⟨_, rfl⟩

end Mine
end PartC2

section PartExc
open PySem PySem.W PyProof.Rows PySem.Calls
set_option Elab.async false
set_option maxRecDepth 100000
set_option maxHeartbeats 8000000
set_option linter.unusedVariables false
set_option rowWalk.seconds 0
namespace Mine
open TI (Frs SameUp)
structure NewX (h h' : Heap) (e : Addr) (X : String) (c : Value) : Prop where
  keeps : h.StaysIn h'
  new : h.get? e = none
  there : ∃ ob vs, h'.get? e = some ob ∧ ob.cls = .type X ∧ ob.data = .fields vs ∧ vs[1]? = some .none ∧ vs[2]? = some c
theorem NewX.of {h h' : Heap} {e : Addr} {X : String} (x : Heap.NewExc h h' e X) : NewX h h' e X .none :=
  ⟨x.keeps, x.new, let ⟨ob, t, he, hc, hd⟩ := x.there; (i2_5 ob _ he hc hd rfl rfl)⟩
theorem entry_unchain : entryFor table "proto.unchain" = some Builtin.«proto.unchain» := entryFor_of_fast (by kernel_rfl)
section
variable {prog : Program} {w : World} {A A₀ : Around} {E : Value → Shared → Prop} {s s' : Shared} {hb h : Heap} {L a e : Addr} {m : Str → Option Value} {name : Str} {scope : Scope} {cd : Value} {X : String} {l : List Env} {frs new : List (Addr × Obj)}
theorem unchain_none {e1 : Addr} {o1 : Obj} {vs1 : Array Value} {v : Value} {Q : Value → Shared → Prop} (h1 : s.heap.get? e1 = some o1) (hd1 : o1.data = .fields vs1) (hc : vs1[2]? = some .none) (h : Q .none s) :
    wpAny (model prog w) A (runValue (.builtin "proto.unchain" ⟨[v, .ref e1, .ref e1, .bool false], []⟩)) Q E s := by
  refine wpAny_runValue (codeAny_builtin entry_unchain ?_)
  show wpAny _ _ (field (.ref e1) 2 >>= _) _ _ s
  refine wpAny_bind (wpAny_field h1 hd1 hc ?_)
  rw [if_pos (by decide)]
  exact wpAny_pure h
theorem raise_words {α : Type} {cls msg : String} {Q : α → Shared → Prop} (hp : PlainExc cls)
    (hh : A.handled = none ∨ ∃ e1 o1 vs1, A.handled = some (.ref e1) ∧ s.heap.get? e1 = some o1 ∧ o1.data = .fields vs1 ∧ vs1[2]? = some .none)
    (h : ∀ h' tk e, NewX s.heap h' e cls (A.handled.getD .none) → E (.ref e) { s with heap := h', toks := tk }) :
    wpAny (model prog w) A (raiseErrorWords cls msg : Sem α) Q E s := by
  rcases hh with hh | ⟨e1, o1, vs1, hh, h1, hd1, hc⟩
  · exact wpAny_raiseErrorWords hp hh fun h' tk e x => h h' tk e (by rw [hh]; exact .of x)
  unfold raiseErrorWords
  refine wpAny_bind (wpAny_mkText (wpAny_bind ?_))
  unfold newExc newTuple
  refine wpAny_bind (wpAny_newObj_type ?_)
  refine wpAny_bind (m := firstArgMember _ _) (wpAny_of_eq (a := Value.none) (by simp only [firstArgMember, hp.first]; rfl) ?_)
  rw [hp.own]
  refine wpAny_newObj_type ?_
  unfold raiseNew
  refine wpAny_bind (wpAny_handled ?_)
  rw [hh]
  have hlt : e1 < s.heap.objs.size := Heap.lt_size h1
  dsimp only
  rw [if_pos (by
    simp only [bne_iff_ne, ne_eq, Value.ref.injEq]
    intro q
    rw [q, Heap.size_push] at hlt
    exact absurd hlt (Nat.not_lt.mpr (Nat.le_succ _)))]
  refine wpAny_bind (wpAny_holding (unchain_none (Heap.get?_push_of_some _ (Heap.get?_push_of_some _ h1)) hd1 hc ?_))
  have hz : (s.heap.push { cls := .type "tuple", data := .seq [Value.str msg s.toks].toArray }).objs.size = s.heap.objs.size + 1 := Heap.size_push ..
  have hk : s.heap.StaysIn (s.heap.push { cls := .type "tuple", data := .seq [Value.str msg s.toks].toArray }) := fun b o hb => Heap.get?_push_of_some _ hb
  generalize s.heap.push { cls := .type "tuple", data := .seq [Value.str msg s.toks].toArray } = H1 at hz hk ⊢
  unfold updateField
  refine wpAny_bind (wpAny_bind (wpAny_load (Heap.get?_push_size _ rfl) ?_))
  dsimp only
  rw [if_pos (by simp)]
  refine wpAny_update (Heap.get?_push_size _ rfl) (wpAny_throw (h _ _ H1.objs.size ⟨fun b o hb => ?_, Heap.get?_none_of_le (by rw [hz]; exact Nat.le_succ _), ?_⟩))
  · have hbl := Heap.lt_size (hk b o hb)
    exact (Heap.get?_update_ne _ _ _ _ (Nat.ne_of_lt hbl)).trans (Heap.get?_push_of_some _ (hk b o hb))
  · exact (i2_5 _ _ (Heap.get?_update_self _ (Heap.get?_push_size _ rfl) rfl) rfl rfl rfl (by rw [hh]; rfl))
noncomputable def Calm (A : Around) (h : Heap) : Prop := A.handled = none ∨ ∃ e1 o1 vs1, A.handled = some (.ref e1) ∧ h.get? e1 = some o1 ∧ o1.data = .fields vs1 ∧ vs1[2]? = some .none
theorem getItem_out {l : Addr} {items : Array Value} {k : Int} {t : Tok} {Q : Value → Shared → Prop} (hA : Calm A s.heap) (hl : s.heap.IsList l items)
    (h0 : 0 ≤ k) (hout : (items.size : Int) ≤ k) (hhi : k < 2 ^ 63)
    (hE : ∀ h' tk e, NewX s.heap h' e "IndexError" (A.handled.getD .none) → E (.ref e) { s with heap := h', toks := tk }) :
    wpAny (model prog w) A (getItem (.ref l) (.int k t)) Q E s := by
  (obtain q91 := id hl
   refine x1_3 q91 fun o ho hc q92 => ?_
   clear q91
   with_reducible refine x1_1 q92 fun ne hd => ?_
   clear q92)
  unfold getItem
  try with_reducible refine wpAny_holding ?_
  first | refine wpAny_bind (wpAny_pure ?_) | skip
  refine wpAny_bind (wpAny_sequenceKey hl.typeIs (by decide) ?_)
  refine wpAny_bind (wpAny_callSpecial?_slot (name := Str.ofString "__getitem__") hl.typeIs slot_list_getitem
    (wpAny_call_entry slot_list_getitem hl.typeIs entry_list_getitem ?_ (args_list_getitem _ _)))
  show wpAny _ _ (Builtin.List.listSubscript? (.int k t) >>= _) _ _ s
  refine wpAny_bind (wpAny_listSubscript_int (fitsIndex_both (by omega) hhi) ?_)
  clear hhi
  cases k with
  | ofNat j =>
    have hx : items[j]? = none := Array.getElem?_eq_none (by have : (items.size : Int) ≤ (j : Int) := hout; omega)
    show wpAny _ _ ((seqItemAt l j >>= fun r => pure (r.map (j, ·))) >>= _) _ _ s
    refine wpAny_bind (wpAny_bind (wpAny_seqItemAt ho hd (wpAny_pure ?_)))
    rw [hx]
    first
      | exact wpAny_bind (wpAny_rule (raise_words plainExc_IndexError hA hE))
      | exact wpAny_bind (wpAny_rule (wpAny_bind (raise_words plainExc_IndexError hA hE)))
      | exact wpAny_bind (wpAny_bind (wpAny_rule (raise_words plainExc_IndexError hA hE)))
      | exact wpAny_rule (raise_words plainExc_IndexError hA hE)
  | negSucc j => exact absurd h0 (by have := Int.negSucc_lt_zero j; omega)
theorem item_out {value slice : PySem.Expr} {l : Addr} {items : Array Value} {k : Int} {u : Tok} {Q : Value → Shared → Prop} (hA : Calm A s.heap) (hl : s.heap.IsList l items)
    (h0 : 0 ≤ k) (hout : (items.size : Int) ≤ k) (hhi : k < 2 ^ 63)
    (hE : ∀ h' tk e, NewX s.heap h' e "IndexError" (A.handled.getD .none) → E (.ref e) { s with heap := h', toks := tk })
    (hs : subscripted slice false (.ref l) (.int k u) = operate [.ref l, .int k u] (getItem (.ref l) (.int k u)) := by with_unfolding_all rfl) :
    wpAny (model prog w) A (subscriptTail value slice (.ref l) (.int k u)) Q E s :=
  tail_any hl.typeIs slot_list_getitem.lookup (getItem_out hA hl h0 hout hhi hE) hs
theorem item_in {value slice : PySem.Expr} {l : Addr} {items : Array Value} {k : Int} {u : Tok} {v : Value} {Q : Value → Shared → Prop} (hl : s.heap.IsList l items)
    (h0 : 0 ≤ k) (hhi : k < 2 ^ 63) (hx : items[k.toNat]? = some v) (h : Q v s)
    (hs : subscripted slice false (.ref l) (.int k u) = operate [.ref l, .int k u] (getItem (.ref l) (.int k u)) := by with_unfolding_all rfl) :
    wpAny (model prog w) A (subscriptTail value slice (.ref l) (.int k u)) Q E s :=
  tail_any hl.typeIs slot_list_getitem.lookup (wpAny_getItem_list hl h0 hhi hx h) hs
structure HeldO (X : String) (c fl : Value) (ob oT : Obj) (T : Addr) : Prop where
  cls : ob.cls = .type X
  vs : ∃ vs, ob.data = .fields vs ∧ vs[1]? = some (.ref T) ∧ vs[2]? = some c
  ts : ∃ ts, oT.data = .fields ts ∧ ts[3]? = some fl
theorem note_new {c : Value} (hfr : A.frames = some (envOf name scope L a cd :: l)) (Fs : Frs l frs) (hx : NewX h s'.heap e X c) (F : Fr hb L h m) (N : News hb L h (new ++ frs)) (hap : ∀ p ∈ new, p.1 ∉ frs.map (·.1)) {Q : Unit → Shared → Prop}
    (k : ∀ h' frs' T ob oT, SameUp frs frs' → Frs l frs' → Fr hb L h' m → News hb L h' ((e, ob) :: (T, oT) :: (new ++ frs')) → HeldO X c (rawInt L) ob oT T → e ≠ T → (∀ p ∈ new ++ frs', p.1 ≠ e ∧ p.1 ≠ T) → Q () { s' with heap := h' }) (hk : scope.kind = .function := by rfl) :
    wpAny (model prog w) A (noteFrame (.ref e) (envOf name scope L a cd)) Q E s' := by
  (obtain q93 := hx.there
   with_reducible refine x2_5 q93 fun ob vs he hcls hd h1 h2 => ?_
   clear q93)
  have hsz : 1 < vs.size := (Array.getElem?_eq_some_iff.mp h1).1
  obtain ⟨hff, _⟩ := TI.frames_at (name := name) (a := a) (cd := cd) (h' := s'.heap) (base := TI.gone h (L :: frs.map (·.1))) hk Fs F N TI.tail_sub (fun b o hb' => ⟨o.slots, hx.keeps b o hb'⟩) fun b hm => TI.gone_none hm
  have hS : (envOf name scope L a cd :: l).filterMap (·.frame) = L :: frs.map (·.1) := TI.frames_are Fs
  unfold noteFrame
  simp only [show (envOf name scope L a cd).frame = some L from rfl]
  refine wpAny_bind (wpAny_field he hd (x := .none) h1 ?_)
  rw [if_neg (by decide)]
  refine wpAny_bind (wpAny_frameOf_fun hfr hff rfl fun h₁ hs₁ => ?_)
  rw [hS] at hs₁
  have hene : e ∉ L :: frs.map (·.1) := fun hm => by
    rw [← hS] at hm
    (obtain q94 := hff.mem hm
     with_reducible refine x0_2 q94 fun _ q95 => ?_
     clear q94
     with_reducible refine x1_2 q95 fun o ho hnf => ?_
     clear q95)
    rw [he] at ho; injection ho with ho; subst ho; exact hnf vs hd
  refine wpAny_bind (wpAny_entryPlaceOf fun pl hpl => ?_)
  unfold EntryCells.newEntry newFields
  refine wpAny_bind (wpAny_newObj_type ?_ (hpl.sizeOk5 _ _ _ _ _))
  generalize hT : ({ cls := .type "traceback", dict := none, data := .fields ([Value.none, .ref L, .none, rawInt L, .none] ++ (if pl.isEmpty then List.replicate 6 Value.none else pl)).toArray } : Obj) = oT
  have hTd : ∃ ts, oT.data = .fields ts ∧ ts[3]? = some (rawInt L) := ⟨_, by rw [← hT], by first | (simp; done) | (rcases hpl with rfl | ⟨_, _, _, _, _, _, _, rfl⟩ <;> simp)⟩
  have hTf : oT.isFreed = false := by rw [← hT]; rfl
  have he₁ : h₁.get? e = some ob := (hs₁.2.1 e hene).trans he
  have he₂ := Heap.get?_push_of_some (h := h₁) oT he₁
  refine wpAny_setField he₂ hd hsz ?_
  have hTe : h₁.objs.size ≠ e := Nat.ne_of_gt (Heap.lt_size he₁)
  have hd₃ := Obj.data_mapFields hd (·.setIfInBounds 1 (Value.ref h₁.objs.size))
  have he₃ := Heap.get?_update_self (Obj.mapFields (·.setIfInBounds 1 (Value.ref h₁.objs.size))) he₂ (Obj.isFreed_of_fields hd₃)
  have hT₃ := (Heap.get?_update_other (h₁.push oT) (Obj.mapFields (·.setIfInBounds 1 (Value.ref h₁.objs.size))) (Ne.symm hTe)).trans (Heap.get?_push_size h₁ hTf)
  have keep : ∀ b o, b ≠ e → h₁.get? b = some o → ((h₁.push oT).update e (Obj.mapFields (·.setIfInBounds 1 (Value.ref h₁.objs.size)))).get? b = some o := fun b o hbe hb => by
    rw [Heap.get?_update_other _ _ (Ne.symm hbe)]
    exact Heap.get?_push_of_some _ hb
  have hb_ne : ∀ b o, h.get? b = some o → b ≠ e := fun b o hb' q => by rw [q, hx.new] at hb'; cases hb'
  have hb_T : ∀ b o, h.get? b = some o → b ≠ h₁.objs.size := fun b o hb' q => by
    have := Heap.lt_size (hx.keeps b o hb')
    rw [q, hs₁.1] at this
    exact Nat.lt_irrefl _ this
  have old : ∀ b o, b ∉ L :: frs.map (·.1) → h.get? b = some o → ((h₁.push oT).update e (Obj.mapFields (·.setIfInBounds 1 (Value.ref h₁.objs.size)))).get? b = some o := fun b o hn hb' =>
    keep b o (hb_ne b o hb') ((hs₁.2.1 b hn).trans (hx.keeps b o hb'))
  have up : ∀ b o, h.get? b = some o → ∃ sl, ((h₁.push oT).update e (Obj.mapFields (·.setIfInBounds 1 (Value.ref h₁.objs.size)))).get? b = some { o with slots := sl } := fun b o hb' => by
    obtain ⟨sl, q⟩ := hs₁.2.2 b o (hx.keeps b o hb')
    exact ⟨sl, keep b _ (hb_ne b o hb') q⟩
  (obtain q81 := TI.sameUp_of fun p hp => up p.1 p.2 (N p (List.mem_append_right _ hp)).1
   with_reducible refine x1_2 q81 fun frs' SU hf' => ?_
   clear q81)
  (obtain q96 := id F.ns
   refine x3_3 q96 fun oL es ep hL hdL r => ?_
   clear q96)
  obtain ⟨slL, hL'⟩ := up L oL hL
  have eL : L < h.objs.size := Heap.lt_size hL
  refine k _ frs' h₁.objs.size _ oT SU (Fs.up SU) ⟨(i3_3 _ es ep hL' hdL r), fun b o eb => old b o (TI.base_apart F N TI.tail_sub eb) (F.keep b o eb), F.above⟩ (fun p hp => ?_)
    ⟨(Obj.cls_mapFields _ _).trans hcls, (i1_3 _ hd₃ (by simp [hsz]) (by rw [Array.getElem?_setIfInBounds_ne (by decide)]; exact h2)), hTd⟩ (Ne.symm hTe) (fun p hp => ?_)
  · refine mc1 hp ?_ fun hp => ?_
    · exact ⟨he₃, fun q => hb_ne _ _ hL q.symm, TI.none_of F.keep hx.new⟩
    refine mc1 hp ?_ fun hp => ?_
    · exact ⟨hT₃, fun q => hb_T _ _ hL q.symm, by
        cases q : hb.get? h₁.objs.size with
        | none => rfl
        | some o => exact absurd rfl (hb_T _ _ (F.keep _ _ q))⟩
    rcases List.mem_append.mp hp with hp | hp
    · have hN := N p (List.mem_append_left _ hp)
      exact ⟨old _ _ (fun q => (List.mem_cons.mp q).elim (fun q => hN.2.1 q) (hap p hp)) hN.1, hN.2⟩
    · (obtain q82 := SU.fwd p hp
       with_reducible refine x1_2 q82 fun x hx' q => ?_
       clear q82)
      have hN := N x (List.mem_append_right _ hx')
      exact ⟨hf' p hp, by rw [q]; exact hN.2.1, by rw [q]; exact hN.2.2⟩
  · rcases List.mem_append.mp hp with hp | hp
    · have hN := N p (List.mem_append_left _ hp)
      exact ⟨hb_ne _ _ hN.1, hb_T _ _ hN.1⟩
    · (obtain q83 := SU.fwd p hp
       with_reducible refine x1_2 q83 fun x hx' q => ?_
       clear q83)
      have hN := N x (List.mem_append_right _ hx')
      rw [q]
      exact ⟨hb_ne _ _ hN.1, hb_T _ _ hN.1⟩
section
variable {c fl : Value} {ob oT : Obj} {T : Addr} {rest : List (Addr × Obj)} {env : Env}
theorem note_again {Q : Unit → Shared → Prop} (N : News hb L s.heap ((e, ob) :: (T, oT) :: rest)) (O : HeldO X c (rawInt L) ob oT T) (h : Q () s) (hf : env.frame = some L := by rfl) :
    wpAny (model prog w) A (noteFrame (.ref e) env) Q E s := by
  (obtain q97 := O.vs
   with_reducible refine x1_3 q97 fun vs hd h1 _ => ?_
   clear q97)
  (obtain q84 := O.ts
   with_reducible refine x1_2 q84 fun ts hdT h3 => ?_
   clear q84)
  unfold noteFrame
  simp only [hf]
  refine wpAny_bind (wpAny_field (N.get (.head _)) hd h1 ?_)
  rw [if_pos (show (Value.ref T != Value.none) = true from by simp)]
  refine wpAny_bind (wpAny_field (N.get (.tail _ (.head _))) hdT h3 ?_)
  rw [if_pos (by simp)]
  exact wpAny_pure h
theorem flight_to {fl' : Option Addr} {Q : Unit → Shared → Prop} (F : Fr hb L s.heap m) (N : News hb L s.heap ((e, ob) :: (T, oT) :: rest)) (O : HeldO X c fl ob oT T) (hne : e ≠ T) (hr : ∀ p ∈ rest, p.1 ≠ T)
    (h : ∀ h' oT', Fr hb L h' m → News hb L h' ((e, ob) :: (T, oT') :: rest) → HeldO X c (fl'.elim .none fun f => rawInt f) ob oT' T → Q () { s with heap := h' }) :
    wpAny (model prog w) A (setFlight (.ref e) fl') Q E s := by
  (obtain q98 := O.vs
   with_reducible refine x1_3 q98 fun vs hd h1 h2 => ?_
   clear q98)
  (obtain q85 := O.ts
   with_reducible refine x1_2 q85 fun ts hdT h3 => ?_
   clear q85)
  have hsz : 3 < ts.size := (Array.getElem?_eq_some_iff.mp h3).1
  have nT := N _ (.tail _ (.head _))
  unfold setFlight
  refine wpAny_bind (wpAny_field (N.get (.head _)) hd h1 ?_)
  rw [if_pos (show (Value.ref T != Value.none) = true from by simp)]
  refine wpAny_setField nT.1 hdT hsz ?_
  (obtain q99 := id F.ns
   refine x3_3 q99 fun oL es ep hL hdL r => ?_
   clear q99)
  have other : ∀ b, b ≠ T → (s.heap.update T (Obj.mapFields (·.setIfInBounds 3 (fl'.elim .none fun f => rawInt f)))).get? b = s.heap.get? b := fun b hb' => Heap.get?_update_other _ _ (Ne.symm hb')
  have hdd := Obj.data_mapFields hdT (·.setIfInBounds 3 (fl'.elim .none fun f => rawInt f))
  refine h _ _ ⟨(i3_3 oL es ep ((other L (Ne.symm nT.2.1)).trans hL) hdL r), fun b o eb => (other b (fun q => by rw [q, nT.2.2] at eb; cases eb)).trans (F.keep b o eb), F.above⟩ (fun p hp => ?_) ⟨O.cls, (i1_3 vs hd h1 h2), ⟨_, hdd, by simp [hsz]⟩⟩
  refine mc1 hp ?_ fun hp => ?_
  · exact ⟨(other e hne).trans (N _ (.head _)).1, (N _ (.head _)).2⟩
  refine mc1 hp ?_ fun hp => ?_
  · exact ⟨Heap.get?_update_self _ nT.1 (Obj.isFreed_of_fields hdd), nT.2⟩
  · have hN := N p (.tail _ (.tail _ hp))
    exact ⟨(other _ (hr p hp)).trans hN.1, hN.2⟩
theorem came_back (F : Fr hb L s.heap m) (N : News hb L s.heap ((e, ob) :: (T, oT) :: rest)) (O : HeldO X c fl ob oT T) (hne : e ≠ T) (hr : ∀ p ∈ rest, p.1 ≠ T)
    (h : ∀ h' oT', Fr hb L h' m → News hb L h' ((e, ob) :: (T, oT') :: rest) → HeldO X c (rawInt L) ob oT' T → E (.ref e) { s with heap := h' }) (hf : env.frame = some L := by rfl) :
    cameBackBy (model prog w) A env E (.ref e) s := by
  (obtain q910 := O.vs
   with_reducible refine x1_3 q910 fun vs hd h1 h2 => ?_
   clear q910)
  unfold cameBackBy
  refine wpAny_bind (wpAny_field (N.get (.head _)) hd h1 ?_)
  rw [if_neg (by simp), hf]
  exact flight_to (fl' := some L) F N O hne hr fun h' oT' F' N' O' => h h' oT' F' N' O'
theorem pass_on {α : Type} {what : String} {Q : α → Shared → Prop} (F : Fr hb L s.heap m) (N : News hb L s.heap ((e, ob) :: (T, oT) :: rest)) (O : HeldO X c fl ob oT T) (hne : e ≠ T) (hr : ∀ p ∈ rest, p.1 ≠ T)
    (h : ∀ h' oT', Fr hb L h' m → News hb L h' ((e, ob) :: (T, oT') :: rest) → HeldO X c (rawInt L) ob oT' T → E (.ref e) { s with heap := h' }) (hf : env.frame = some L := by rfl) :
    wpAny (model prog w) A (PySem.passOn what (.ref e) env : Sem α) Q E s := by
  (obtain q911 := O.vs
   with_reducible refine x1_3 q911 fun vs hd h1 h2 => ?_
   clear q911)
  unfold PySem.passOn
  refine wpAny_bind (wpAny_field (N.get (.head _)) hd h1 ?_)
  rw [if_neg (by simp), hf]
  exact wpAny_bind (flight_to (fl' := some L) F N O hne hr fun h' oT' F' N' O' => wpAny_throw (h h' oT' F' N' O'))
theorem calm_in (N : News hb L h ((e, ob) :: rest)) (O : HeldO X .none fl ob oT T) : Calm (A.mark (some (.ref e))) h := by
  (obtain q912 := O.vs
   with_reducible refine x1_3 q912 fun vs hd h1 h2 => ?_
   clear q912)
  exact .inr (i3_4 e ob vs rfl (N.get (.head _)) hd h2)
variable {p : Program} {loose : List Str} {mg mb : Str → Option Value} {K : Frag} {x : Str} {np pos : Pos} {b₀ : Stmt} {suite : List Stmt} {more : List ExceptHandler} {Q : Flow → Shared → Prop} {cl : List (Str × Addr)}
theorem clause_hit (F : Fr hb L s.heap m) (N : News hb L s.heap ((e, ob) :: (T, oT) :: rest)) (O : HeldO X c fl ob oT T) (hne : e ≠ T) (hr : ∀ p ∈ rest, p.1 ≠ T)
    (XK : K.In hb) (TR : TopRead p loose mg mb hb) (hx1 : nsIn K mainGlobals x = some none)
    (k : ∀ h', Fr hb L h' m → News hb L h' rest → wpAny (model prog w) (A.mark (some (.ref e))) (execs (b₀ :: suite) (envX name scope L a cd cl)) Q (notedBy (model prog w) (A.mark (some (.ref e))) (envX name scope L a cd cl) (cameBackBy (model prog w) A (envX name scope L a cd cl) E)) { s with heap := h' })
    (hk : scope.kind = .function) (hxk : (envX name scope L a cd cl).kindOf x = some .globalImplicit)
    (h3 : subB X (.type x.toString) = some true := by decide +kernel) (hv : bootBuiltins x = some (.type x.toString) := by decide +kernel) (h1 : subB x.toString (.type "BaseException") = some true := by decide +kernel)
    (h2 : subB ((Manifest.find? x.toString).elim "type" fun y => y.metatype) (.type "tuple") = some false := by decide +kernel) (hn : x ≠ "__name__" := by decide)
    (hdb : (x == ("__debug__" : Str)) = false := by decide) :
    wpAny (model prog w) A (handleBy (.ref e) (envX name scope L a cd cl) (.ExceptHandler (some (.Name x np)) none (b₀ :: suite) pos :: more)) Q E s := by
  refine wpAny_handleBy_builtin (X := X) (T := x.toString) (b := true) (isSubtype_of_subB h1) (isSubtype_of_subB h2) (isSubtype_of_subB h3) (nameX_B F XK TR hx1 hv hn ⟨rfl, ⟨ob, N.get (.head _), O.cls⟩, ?_⟩ hk hxk hdb)
  rw [if_pos rfl]
  exact flight_to (fl' := none) F N O hne hr fun h' oT' F' N' _ => k h' F' fun p hp => N' p (.tail _ (.tail _ hp))
noncomputable abbrev ToClauses (prog : Program) (w : World) (A : Around) (env : Env) (hs : List ExceptHandler) (Q : Flow → Shared → Prop) (E : Value → Shared → Prop) (v : Value) (s : Shared) : Prop :=
  wpAny (model prog w) A (noteFrame v env) (fun _ s₂ => wpAny (model prog w) A (setFlight v none) (fun _ s₃ => wpAny (model prog w) A (handleBy v env hs) Q E s₃) E s₂) E s
theorem caught_held (F : Fr hb L s.heap m) (N : News hb L s.heap ((e, ob) :: (T, oT) :: rest)) (O : HeldO X c (rawInt L) ob oT T) (hne : e ≠ T) (hr : ∀ p ∈ rest, p.1 ≠ T)
    (XK : K.In hb) (TR : TopRead p loose mg mb hb) (hx1 : nsIn K mainGlobals x = some none)
    (k : ∀ h', Fr hb L h' m → News hb L h' rest → wpAny (model prog w) (A.mark (some (.ref e))) (execs (b₀ :: suite) (envX name scope L a cd cl)) Q (notedBy (model prog w) (A.mark (some (.ref e))) (envX name scope L a cd cl) (cameBackBy (model prog w) A (envX name scope L a cd cl) E)) { s with heap := h' })
    (hk : scope.kind = .function) (hxk : (envX name scope L a cd cl).kindOf x = some .globalImplicit)
    (h3 : subB X (.type x.toString) = some true := by decide +kernel) (hv : bootBuiltins x = some (.type x.toString) := by decide +kernel) (h1 : subB x.toString (.type "BaseException") = some true := by decide +kernel)
    (h2 : subB ((Manifest.find? x.toString).elim "type" fun y => y.metatype) (.type "tuple") = some false := by decide +kernel) (hn : x ≠ "__name__" := by decide)
    (hdb : (x == ("__debug__" : Str)) = false := by decide) :
    ToClauses prog w A (envX name scope L a cd cl) (.ExceptHandler (some (.Name x np)) none (b₀ :: suite) pos :: more) Q E (.ref e) s :=
  note_again N O (flight_to (fl' := none) F N O hne hr fun h' oT' F' N' O' => clause_hit (s := { s with heap := h' }) F' N' O' hne hr XK TR hx1 (fun h'' F'' N'' => k h'' F'' N'') hk hxk h3 hv h1 h2 hn hdb)
theorem caught_new (hfr : A.frames = some (envX name scope L a cd [] :: l)) (Fs : Frs l frs) (hx : NewX h s.heap e X c) (F : Fr hb L h m) (N : News hb L h (new ++ frs)) (hap : ∀ p ∈ new, p.1 ∉ frs.map (·.1))
    (XK : K.In hb) (TR : TopRead p loose mg mb hb) (hx1 : nsIn K mainGlobals x = some none)
    (k : ∀ h' frs', SameUp frs frs' → Frs l frs' → Fr hb L h' m → News hb L h' (new ++ frs') → wpAny (model prog w) (A.mark (some (.ref e))) (execs (b₀ :: suite) (envX name scope L a cd [])) Q (notedBy (model prog w) (A.mark (some (.ref e))) (envX name scope L a cd []) (cameBackBy (model prog w) A (envX name scope L a cd []) E)) { s with heap := h' })
    (hk : scope.kind = .function) (hxk : (envX name scope L a cd []).kindOf x = some .globalImplicit)
    (h3 : subB X (.type x.toString) = some true := by decide +kernel) (hv : bootBuiltins x = some (.type x.toString) := by decide +kernel) (h1 : subB x.toString (.type "BaseException") = some true := by decide +kernel)
    (h2 : subB ((Manifest.find? x.toString).elim "type" fun y => y.metatype) (.type "tuple") = some false := by decide +kernel) (hn : x ≠ "__name__" := by decide)
    (hdb : (x == ("__debug__" : Str)) = false := by decide) :
    ToClauses prog w A (envX name scope L a cd []) (.ExceptHandler (some (.Name x np)) none (b₀ :: suite) pos :: more) Q E (.ref e) s :=
  note_new hfr Fs hx F N hap (fun h' frs' T ob oT SU Fs' F' N' O hne hap' => flight_to (s := { s with heap := h' }) (fl' := none) F' N' O hne (fun p hp => (hap' p hp).2) fun h'' oT' F'' N'' O'' =>
    clause_hit (s := { s with heap := h'' }) F'' N'' O'' hne (fun p hp => (hap' p hp).2) XK TR hx1 (fun h3 F3 N3 => k h3 frs' SU Fs' F3 N3) hk hxk h3 hv h1 h2 hn hdb) hk
end
end

end Mine
end PartExc

section PartKey
open PySem PySem.W PyProof.Rows PySem.Calls
set_option Elab.async false
set_option maxRecDepth 100000
set_option maxHeartbeats 8000000
set_option linter.unusedVariables false
set_option rowWalk.seconds 0
namespace Mine
open TI (Frs SameUp)
noncomputable def KeyAt (v : Heap) (C k r : Addr) : Prop := ∃ dd : Option Addr, v.get? k = some { cls := .ref C, dict := dd, data := .plain, slots := #[some (.ref r)] }
theorem KeyAt.ext {h h' : Heap} {C k r : Addr} (x : KeyAt h C k r) (e : h.StaysIn h') : KeyAt h' C k r := let ⟨dd, x⟩ := x; ⟨dd, e _ _ x⟩
noncomputable def KeyRec (v : Heap) (C k : Addr) (a : Rec) : Prop := ∃ r, KeyAt v C k r ∧ RecAt v r a
theorem KeyRec.ext {h h' : Heap} {C k : Addr} {a : Rec} (x : KeyRec h C k a) (e : h.StaysIn h') : KeyRec h' C k a := let ⟨r, x, y⟩ := x; ⟨r, x.ext e, y.ext e⟩
structure KeyCls (w : World) (v : Heap) (C : Addr) (c : Rec → Rec → Int) : Prop where
  make : ∀ (A : Around) (s : Shared) (r : Addr), v.StaysIn (view A [] s.heap) → Here w A [] s.heap → A.depth + 30 < recursionLimit → A.units + 600 < cLine → Quiet w A (call (.ref C) [.ref r]) s (fun y v' => ∃ k, y = .ref k ∧ KeyAt v' C k r)
  lt : ∀ (A : Around) (s : Shared) (k1 k2 : Addr) (a b : Rec), v.StaysIn (view A [] s.heap) → Here w A [] s.heap → A.depth + 30 < recursionLimit → A.units + 600 < cLine → KeyRec (view A [] s.heap) C k1 a → KeyRec (view A [] s.heap) C k2 b → Quiet w A (richCompare .Lt (.ref k1) (.ref k2)) s (fun y _ => y = .bool (decide (c a b < 0)))
  gt : ∀ (A : Around) (s : Shared) (k1 k2 : Addr) (a b : Rec), v.StaysIn (view A [] s.heap) → Here w A [] s.heap → A.depth + 30 < recursionLimit → A.units + 600 < cLine → KeyRec (view A [] s.heap) C k1 a → KeyRec (view A [] s.heap) C k2 b → Quiet w A (richCompare .Gt (.ref k1) (.ref k2)) s (fun y _ => y = .bool (decide (0 < c a b)))
  eq : ∀ (A : Around) (s : Shared) (k1 k2 : Addr) (a b : Rec), v.StaysIn (view A [] s.heap) → Here w A [] s.heap → A.depth + 30 < recursionLimit → A.units + 600 < cLine → KeyRec (view A [] s.heap) C k1 a → KeyRec (view A [] s.heap) C k2 b → Quiet w A (richCompare .Eq (.ref k1) (.ref k2)) s (fun y _ => y = .bool (decide (c a b = 0)))
structure KeyRow (v : Heap) (C l : Addr) (ks : List Addr) (as : List Rec) : Prop where
  list : v.IsList l (ks.map Value.ref).toArray
  len : ks.length = as.length
  small : as.length ≤ 1000
  at_ : ∀ (i : Nat) (k : Addr) (a : Rec), ks[i]? = some k → as[i]? = some a → KeyRec v C k a
theorem KeyRow.ext {h h' : Heap} {C l : Addr} {ks : List Addr} {as : List Rec} (x : KeyRow h C l ks as) (e : h.StaysIn h') : KeyRow h' C l ks as :=
  ⟨let ⟨o, ho, r⟩ := x.list; ⟨o, e _ _ ho, r⟩, x.len, x.small, fun i k a h1 h2 => (x.at_ i k a h1 h2).ext e⟩
theorem Ext.unmark {A : Around} {hd : Option Value} {hid : List Addr} {h h' : Heap} (x : Ext (A.mark hd) hid h h') : Ext A hid h h' := ⟨x.keep, x.frs⟩
theorem Split.app {frs : List (Addr × Obj)} : ∀ {new : List (Addr × Obj)}, Split (new ++ frs) new frs
  | [] => .nil
  | _ :: _ => .cons Split.app
noncomputable def skip (c : Rec → Rec → Int) (e : Rec) (xs : List Rec) (i : Nat) : Nat := i + ((xs.drop i).takeWhile fun x => decide (c x e = 0)).length
theorem skip_on {c : Rec → Rec → Int} {e x : Rec} {xs : List Rec} {i : Nat} (hx : xs[i]? = some x) (hc : c x e = 0) : skip c e xs i = skip c e xs (i + 1) := by
  unfold skip
  have hi : i < xs.length := (List.getElem?_eq_some_iff.mp hx).1
  rw [List.drop_eq_getElem_cons hi, List.takeWhile_cons, if_pos (by rw [(List.getElem?_eq_some_iff.mp hx).2]; simpa using hc), List.length_cons]
  omega
theorem skip_stop {c : Rec → Rec → Int} {e x : Rec} {xs : List Rec} {i : Nat} (hx : xs[i]? = some x) (hc : c x e ≠ 0) : skip c e xs i = i := by
  unfold skip
  have hi : i < xs.length := (List.getElem?_eq_some_iff.mp hx).1
  rw [List.drop_eq_getElem_cons hi, List.takeWhile_cons, if_neg (by rw [(List.getElem?_eq_some_iff.mp hx).2]; simpa using hc)]
  rfl
theorem skip_end {c : Rec → Rec → Int} {e : Rec} {xs : List Rec} {i : Nat} (hi : xs.length ≤ i) : skip c e xs i = i := by
  unfold skip
  rw [List.drop_eq_nil_of_le hi]
  rfl
theorem skip_ge {c : Rec → Rec → Int} {e : Rec} {xs : List Rec} {i : Nat} : i ≤ skip c e xs i := Nat.le_add_right _ _

section
variable {w : World} {A : Around} {E : Value → Shared → Prop} {s : Shared} {g h : Heap} {L f C : Addr} {m : Str → Option Value} {name : Str} {scope : Scope} {cd : Value} {c : Rec → Rec → Int} {l : List Env} {frs new : List (Addr × Obj)} {hd : Option Value}
theorem local_name {A : Around} {M : Model} {x : Str} {pos : Pos} {v : Value} {Q : Value → Shared → Prop} (F : Fr g L s.heap m) (hv : m x = some v) (h : Q v s) (hk : scope.kind = .function) (hx : scope.names.lookup x = some .local) (hd : (x == ("__debug__" : Str)) = false) :
    wpAny M A (eval (.Name x pos) (envX name scope L f cd [])) Q E s := wpAny_Name (wpAny_loadName_local hk hx F.ns hv h) hd
theorem key_cmp {P : Int → Bool} {op : CmpOp} (hop : ∀ (A : Around) (s : Shared) (k1 k2 : Addr) (a b : Rec), g.StaysIn (view A [] s.heap) → Here w A [] s.heap → A.depth + 30 < recursionLimit → A.units + 600 < cLine → KeyRec (view A [] s.heap) C k1 a → KeyRec (view A [] s.heap) C k2 b → Quiet w A (richCompare op (.ref k1) (.ref k2)) s (fun y _ => y = .bool (P (c a b))))
    (hc : ∀ a b, compareOp op a b = richCompare op a b) {p : Program} {loose : List Str} {mean : ExcName → Option Value} {mg mb : Str → Option Value} {k1 k2 : Addr} {a b : Rec} {news : List (Addr × Obj)} {Q : Value → Shared → Prop}
    (hl : A.frames = some l) (Fs : Frs l frs) (F : Fr g L s.heap m) (N : News g L s.heap news) (S : Split news new frs) (X : (Mine.hd.heap_1 w.params).In g) (T : Top p loose mean mg mb g) (hap : ∀ p ∈ new, p.1 ∉ frs.map (·.1))
    (hk : scope.kind = .function) (hdp : A.depth + 40 < recursionLimit) (hun : A.units + 700 < cLine) (R1 : KeyRec g C k1 a) (R2 : KeyRec g C k2 b)
    (ret : ∀ h' tk frs', SameUp frs frs' → Frs l frs' → Fr g L h' m → News g L h' (new ++ frs') → Q (.bool (P (c a b))) { s with heap := h', toks := tk }) :
    wpAny (model Challenge.rw_mg0030_01.row.prog w) ((A.deeper (envX name scope L f cd [])).mark hd) (compareOp op (.ref k1) (.ref k2)) Q E s := by
  rw [hc]
  have hv : g.StaysIn (view (A.deeper (envX name scope L f cd [])) [] s.heap) := in_view F N S Fs hl rfl
  refine hop ((A.deeper (envX name scope L f cd [])).mark hd) s k1 k2 a b hv ((here_of hl Fs F N S X T rfl hk).frames rfl) ?_ ?_ (R1.ext hv) (R2.ext hv) _ _ fun r h' tk x e => ?_
  · show A.depth + 1 + 30 < _; omega
  · show A.units + 3 + 600 < _; omega
  subst e
  (obtain q91 := back (env := envX name scope L f cd []) hl Fs F N S rfl hap x.unmark
   with_reducible refine x1_4 q91 fun frs' SU Fs' F' N' => ?_
   clear q91)
  exact ret h' tk frs' SU Fs' F' N'

theorem skip_loop {X I V : Str} {pX pI pS pV pC pI' p1 pA : Pos} {kk : Nat} {le kV : Addr} {ks : List Addr} {as : List Rec} {aV : Rec} {p : Program} {loose : List Str} {mean : ExcName → Option Value} {mg mb : Str → Option Value} {Q : Flow → Shared → Prop}
    (KC : KeyCls w g C c) (R : KeyRow g C le ks as) (RV : KeyRec g C kV aV) (hl : A.frames = some l) (XK : (Mine.hd.heap_1 w.params).In g) (T : Top p loose mean mg mb g)
    (hk : scope.kind = .function) (hdp : A.depth + 40 < recursionLimit) (hun : A.units + 700 < cLine)
    (hX : scope.names.lookup X = some .local) (hI : scope.names.lookup I = some .local) (hV : scope.names.lookup V = some .local) (dX : (X == ("__debug__" : Str)) = false) (dI : (I == ("__debug__" : Str)) = false) (dV : (V == ("__debug__" : Str)) = false)
    (hXI : X ≠ I) (hVI : V ≠ I) (hE : PassesOwn (model Challenge.rw_mg0030_01.row.prog w) ((A.deeper (envX name scope L f cd [])).mark hd) (envX name scope L f cd []) E)
    (hcalm : ∀ h frs, News g L h (new ++ frs) → Calm ((A.deeper (envX name scope L f cd [])).mark hd) h) (hap : ∀ p ∈ new, p.1 ∉ frs.map (·.1)) (i₀ : Nat)
    (done : ∀ h' tk frs' t m', skip c aV as i₀ < as.length → SameUp frs frs' → Frs l frs' → Fr g L h' m' → News g L h' (new ++ frs') → m' I = some (.int (skip c aV as i₀ : Nat) t) → (∀ y, y ≠ I → m' y = m y) → Q .next { s with heap := h', toks := tk })
    (out : ∀ h' h'' tk frs' t m' e, as.length ≤ skip c aV as i₀ → SameUp frs frs' → Frs l frs' → Fr g L h' m' → News g L h' (new ++ frs') → m' I = some (.int (skip c aV as i₀ : Nat) t) → (∀ y, y ≠ I → m' y = m y) → NewX h' h'' e "IndexError" (((A.deeper (envX name scope L f cd [])).mark hd).handled.getD .none) → E (.ref e) { s with heap := h'', toks := tk }) :
    ∀ (n i : Nat) (h : Heap) (tk : Nat) (t : Tok) (m' : Str → Option Value) (frs' : List (Addr × Obj)), as.length - i ≤ n → i ≤ as.length → skip c aV as i₀ = skip c aV as i → SameUp frs frs' → Frs l frs' → Fr g L h m' → News g L h (new ++ frs') → m' X = some (.ref le) → m' I = some (.int i t) → m' V = some (.ref kV) → (∀ y, y ≠ I → m' y = m y) →
    WhlRest Challenge.rw_mg0030_01.row.prog w ((A.deeper (envX name scope L f cd [])).mark hd) E (envX name scope L f cd []) (.Compare (.Subscript (.Name X pX) (.Name I pI) pS) [.Eq] [.Name V pV] pC) [.AugAssign (.Name I pI') .Add (.Constant (.int 1) kk p1) pA] [] Q 0 { s with heap := h, toks := tk } := by
  intro n
  induction n with
  | zero =>
    intro i h tk t m' frs' hn hi hsk SU Fs F N mX mI mV mr
    have hie : i = as.length := by omega
    subst hie
    refine whl_turn (k := 0) hE (wpAny_isTrue_Compare1 (Subscript_ (local_name F mX (local_name F mI (item_out (hcalm _ _ N) (let ⟨o, ho, r⟩ := R.list; ⟨o, F.keep _ _ ho, r⟩) (Int.natCast_nonneg _) (by simp [R.len]) (by have := R.small; omega) ?_) hk hI dI) hk hX dX)))
    intro h' tk' e x
    have hs : skip c aV as i₀ = as.length := hsk.trans (skip_end (Nat.le_refl _))
    exact out h h' tk' frs' t m' e (Nat.le_of_eq hs.symm) SU Fs F N (by rw [hs]; exact mI) mr x
  | succ n ih =>
    intro i h tk t m' frs' hn hi hsk SU Fs F N mX mI mV mr
    by_cases hlt : i < as.length
    · obtain ⟨x, hx⟩ : ∃ x, as[i]? = some x := ⟨as[i], List.getElem?_eq_getElem hlt⟩
      obtain ⟨kx, hkx⟩ : ∃ kx, ks[i]? = some kx := ⟨ks[i]'(by rw [R.len]; exact hlt), List.getElem?_eq_getElem _⟩
      refine whl_turn (k := 0) hE (wpAny_isTrue_Compare1 (Subscript_ (local_name F mX (local_name F mI (item_in (v := .ref kx) (let ⟨o, ho, r⟩ := R.list; ⟨o, F.keep _ _ ho, r⟩) (Int.natCast_nonneg _) (by have := R.small; omega) (by simp [hkx]) (local_name F mV ?_ hk hV dV)) hk hI dI) hk hX dX)))
      have hap' : ∀ p ∈ new, p.1 ∉ frs'.map (·.1) := fun p hp => apart_up SU (hap p hp)
      have S : Split (new ++ frs') new frs' := Split.app
      refine key_cmp (P := fun z => decide (z = 0)) (op := .Eq) (fun A s k1 k2 a b => KC.eq A s k1 k2 a b) (fun _ _ => rfl) hl Fs F N S XK T hap' hk hdp hun (R.at_ i kx x hkx hx) RV fun h1 tk1 frs1 SU1 Fs1 F1 N1 => ?_
      refine wpAny_truthy_bool ?_
      by_cases hc : c x aV = 0
      · refine WhlIf.yes (by simpa using hc) ?_
        refine wpAny_execs_cons (wpAny_AugAssign_Name (wpAny_loadName_local hk hI F1.ns mI (wpAny_Constant_int (iadd_int (wpAny_storeName_local hI F1.ns (fun h2 hn2 hs2 => ?_) ?_)))))
        · refine wpAny_pure ?_
          show WhlRest _ _ _ _ _ _ _ _ _ 0 _
          refine ih (i + 1) h2 _ (tk1 + 1) _ frs1 (by omega) hlt (hsk.trans (skip_on hx hc)) (SU.trans SU1) Fs1 (F1.set hn2 hs2) (N1.set hs2) ?_ ?_ ?_ ?_
          · simp only [if_neg hXI]; exact mX
          · simp only [if_true]; rw [show ((i + 1 : Nat) : Int) = (i : Int) + 1 by omega]
          · simp only [if_neg hVI]; exact mV
          · intro y hy; simp only [if_neg hy]; exact mr y hy
        · show (scope.kind == .class || (scope.kind == .module && L != mainGlobals)) = false
          rw [hk]; rfl
      · refine WhlIf.no (by simpa using hc) ?_
        have hs : skip c aV as i₀ = i := hsk.trans (skip_stop hx hc)
        exact wpAny_pure (done h1 tk1 frs1 t m' (by rw [hs]; exact hlt) (SU.trans SU1) Fs1 F1 N1 (by rw [hs]; exact mI) mr)
    · have hie : i = as.length := by omega
      exact ih i h tk t m' frs' (by omega) hi hsk SU Fs F N mX mI mV mr
theorem skip_loop0 {X I V : Str} {pX pI pS pV pC pI' p1 pA : Pos} {kk : Nat} {le kV : Addr} {ks : List Addr} {as : List Rec} {aV : Rec} {p : Program} {loose : List Str} {mean : ExcName → Option Value} {mg mb : Str → Option Value} {Q : Flow → Shared → Prop}
    (KC : KeyCls w g C c) (R : KeyRow g C le ks as) (RV : KeyRec g C kV aV) (hl : A.frames = some l) (XK : (Mine.hd.heap_1 w.params).In g) (T : Top p loose mean mg mb g)
    (hk : scope.kind = .function) (hdp : A.depth + 40 < recursionLimit) (hun : A.units + 700 < cLine)
    (hX : scope.names.lookup X = some .local) (hI : scope.names.lookup I = some .local) (hV : scope.names.lookup V = some .local) (dX : (X == ("__debug__" : Str)) = false) (dI : (I == ("__debug__" : Str)) = false) (dV : (V == ("__debug__" : Str)) = false)
    (hXI : X ≠ I) (hVI : V ≠ I) (hE : PassesOwn (model Challenge.rw_mg0030_01.row.prog w) (A.deeper (envX name scope L f cd [])) (envX name scope L f cd []) E)
    (hcalm : ∀ h frs, News g L h (new ++ frs) → Calm (A.deeper (envX name scope L f cd [])) h) (hap : ∀ p ∈ new, p.1 ∉ frs.map (·.1)) (i₀ : Nat)
    (done : ∀ h' tk frs' t m', skip c aV as i₀ < as.length → SameUp frs frs' → Frs l frs' → Fr g L h' m' → News g L h' (new ++ frs') → m' I = some (.int (skip c aV as i₀ : Nat) t) → (∀ y, y ≠ I → m' y = m y) → Q .next { s with heap := h', toks := tk })
    (out : ∀ h' h'' tk frs' t m' e, as.length ≤ skip c aV as i₀ → SameUp frs frs' → Frs l frs' → Fr g L h' m' → News g L h' (new ++ frs') → m' I = some (.int (skip c aV as i₀ : Nat) t) → (∀ y, y ≠ I → m' y = m y) → NewX h' h'' e "IndexError" ((A.deeper (envX name scope L f cd [])).handled.getD .none) → E (.ref e) { s with heap := h'', toks := tk }) :
    ∀ (n i : Nat) (h : Heap) (tk : Nat) (t : Tok) (m' : Str → Option Value) (frs' : List (Addr × Obj)), as.length - i ≤ n → i ≤ as.length → skip c aV as i₀ = skip c aV as i → SameUp frs frs' → Frs l frs' → Fr g L h m' → News g L h (new ++ frs') → m' X = some (.ref le) → m' I = some (.int i t) → m' V = some (.ref kV) → (∀ y, y ≠ I → m' y = m y) →
    WhlRest Challenge.rw_mg0030_01.row.prog w (A.deeper (envX name scope L f cd [])) E (envX name scope L f cd []) (.Compare (.Subscript (.Name X pX) (.Name I pI) pS) [.Eq] [.Name V pV] pC) [.AugAssign (.Name I pI') .Add (.Constant (.int 1) kk p1) pA] [] Q 0 { s with heap := h, toks := tk } := by
  have e := Around.mark_none (A.deeper (envX name scope L f cd []))
  revert hE hcalm out
  rw [← e]
  intro hE hcalm out
  exact skip_loop (hd := none) KC R RV hl XK T hk hdp hun hX hI hV dX dI dV hXI hVI hE hcalm hap i₀ done out
end

end Mine
end PartKey

section PartC5a
open PySem PySem.W PyProof.Rows PySem.Calls
set_option Elab.async false
set_option maxRecDepth 100000
set_option maxHeartbeats 8000000
set_option linter.unusedVariables false
set_option rowWalk.seconds 0
namespace Mine
open TI (Frs SameUp)
theorem look_eq {x : Str} {v : Value} {m : Str → Option Value} : (fun y => if y = x then some v else m y) x = some v := if_pos rfl
theorem look_ne {x z : Str} {v : Value} {r : Option Value} {m : Str → Option Value} (hz : z ≠ x) (h : m z = r) : (fun y => if y = x then some v else m y) z = r := (if_neg hz).trans h
section
variable {w : World} {A : Around} {E : Value → Shared → Prop} {s : Shared} {g h : Heap} {L f C : Addr} {m : Str → Option Value} {name : Str} {scope : Scope} {cd : Value} {c : Rec → Rec → Int} {l : List Env} {frs new : List (Addr × Obj)} {hd : Option Value}
theorem item_key {A : Around} {le : Addr} {ks : List Addr} {as : List Rec} {i : Nat} {t : Tok} {value slice : PySem.Expr} {Q : Value → Shared → Prop} (hA : Calm A s.heap) (R : KeyRow g C le ks as) (F : Fr g L s.heap m) (hi : i ≤ as.length)
    (hin : ∀ k a, ks[i]? = some k → as[i]? = some a → KeyRec g C k a → Q (.ref k) s)
    (hout : as.length ≤ i → ∀ h' tk e, NewX s.heap h' e "IndexError" (A.handled.getD .none) → Stop (E (.ref e) { s with heap := h', toks := tk }))
    (hs : subscripted slice false (.ref le) (.int i t) = operate [.ref le, .int i t] (getItem (.ref le) (.int i t)) := by with_unfolding_all rfl) :
    wpAny (model Challenge.rw_mg0030_01.row.prog w) A (subscriptTail value slice (.ref le) (.int i t)) Q E s := by
  have hl : s.heap.IsList le (ks.map Value.ref).toArray := let ⟨o, ho, r⟩ := R.list; ⟨o, F.keep _ _ ho, r⟩
  by_cases hlt : i < as.length
  · obtain ⟨x, hx⟩ : ∃ x, as[i]? = some x := ⟨as[i], List.getElem?_eq_getElem hlt⟩
    obtain ⟨kx, hkx⟩ : ∃ kx, ks[i]? = some kx := ⟨ks[i]'(by rw [R.len]; exact hlt), List.getElem?_eq_getElem _⟩
    exact item_in (v := .ref kx) hl (Int.natCast_nonneg _) (by have := R.small; omega) (by simp [hkx]) (hin kx x hkx hx (R.at_ i kx x hkx hx)) hs
  · exact item_out hA hl (Int.natCast_nonneg _) (by simp [R.len]; omega) (by have := R.small; omega) (hout (by omega)) hs
theorem key_cmp0 {P : Int → Bool} {op : CmpOp} (hop : ∀ (A : Around) (s : Shared) (k1 k2 : Addr) (a b : Rec), g.StaysIn (view A [] s.heap) → Here w A [] s.heap → A.depth + 30 < recursionLimit → A.units + 600 < cLine → KeyRec (view A [] s.heap) C k1 a → KeyRec (view A [] s.heap) C k2 b → Quiet w A (richCompare op (.ref k1) (.ref k2)) s (fun y _ => y = .bool (P (c a b))))
    (hc : ∀ a b, compareOp op a b = richCompare op a b) {p : Program} {loose : List Str} {mean : ExcName → Option Value} {mg mb : Str → Option Value} {k1 k2 : Addr} {a b : Rec} {news : List (Addr × Obj)} {Q : Value → Shared → Prop}
    (hl : A.frames = some l) (Fs : Frs l frs) (F : Fr g L s.heap m) (N : News g L s.heap news) (S : Split news new frs) (X : (Mine.hd.heap_1 w.params).In g) (T : Top p loose mean mg mb g) (hap : ∀ p ∈ new, p.1 ∉ frs.map (·.1))
    (hk : scope.kind = .function) (hdp : A.depth + 40 < recursionLimit) (hun : A.units + 700 < cLine) (R1 : KeyRec g C k1 a) (R2 : KeyRec g C k2 b)
    (ret : ∀ h' tk frs', SameUp frs frs' → Frs l frs' → Fr g L h' m → News g L h' (new ++ frs') → Q (.bool (P (c a b))) { s with heap := h', toks := tk }) :
    wpAny (model Challenge.rw_mg0030_01.row.prog w) (A.deeper (envX name scope L f cd [])) (compareOp op (.ref k1) (.ref k2)) Q E s := by
  have := key_cmp (name := name) (f := f) (cd := cd) (E := E) (hd := none) hop hc hl Fs F N S X T hap hk hdp hun R1 R2 ret
  rwa [Around.mark_none] at this
end
inductive Reach (c : Rec → Rec → Int) (xs ys : List Rec) : Nat → Nat → List Nat → List Nat → Bool → Prop
  | start : Reach c xs ys 0 0 [] [] false
  | endI {i j ms us} : Reach c xs ys i j ms us false → xs.length ≤ i → Reach c xs ys i j ms us true
  | endJ {i j ms us} : Reach c xs ys i j ms us false → i < xs.length → ys.length ≤ j → Reach c xs ys i j ms us true
  | lt {i j ms us e a} : Reach c xs ys i j ms us false → xs[i]? = some e → ys[j]? = some a → c e a < 0 → Reach c xs ys (skip c e xs (i + 1)) j (ms ++ [i]) us (decide (xs.length ≤ skip c e xs (i + 1)))
  | gt {i j ms us e a} : Reach c xs ys i j ms us false → xs[i]? = some e → ys[j]? = some a → ¬ c e a < 0 → 0 < c e a → Reach c xs ys i (skip c a ys (j + 1)) ms (us ++ [j]) (decide (ys.length ≤ skip c a ys (j + 1)))
  | eq {i j ms us e a} : Reach c xs ys i j ms us false → xs[i]? = some e → ys[j]? = some a → ¬ c e a < 0 → ¬ 0 < c e a → Reach c xs ys (skip c e xs (i + 1)) (skip c a ys (j + 1)) ms us (decide (xs.length ≤ skip c e xs (i + 1)) || decide (ys.length ≤ skip c a ys (j + 1)))
theorem Reach.len {c : Rec → Rec → Int} {xs ys : List Rec} {i j : Nat} {ms us : List Nat} {b : Bool} (x : Reach c xs ys i j ms us b) : ms.length ≤ i ∧ us.length ≤ j := by
  induction x with
  | start => exact ⟨Nat.le_refl _, Nat.le_refl _⟩
  | endI _ _ ih => exact ih
  | endJ _ _ _ ih => exact ih
  | @lt i j ms us e a _ _ _ _ ih => exact ⟨by rw [List.length_append, List.length_singleton]; have := @skip_ge c e xs (i + 1); omega, ih.2⟩
  | @gt i j ms us e a _ _ _ _ _ ih => exact ⟨ih.1, by rw [List.length_append, List.length_singleton]; have := @skip_ge c a ys (j + 1); omega⟩
  | @eq i j ms us e a _ _ _ _ _ ih => exact ⟨by have := @skip_ge c e xs (i + 1); omega, by have := @skip_ge c a ys (j + 1); omega⟩
theorem extend_U {prog : Program} {w : World} {A : Around} {E : Value → Shared → Prop} {s : Shared} {h₀ : Heap} {L D b : Addr} {m : Str → Option Value} {news : List (Addr × Obj)} {ys : List Value} {n n2 : Nat} {its2 : Array Value} {g : Obj → List (Addr × Obj)} {Q : Value → Shared → Prop}
    (F : Fr h₀ L s.heap m) (N : News h₀ L s.heap news) (U : UpdF D (W.listOf ys.toArray n) news g) (hb : (b, W.listOf its2 n2) ∈ news)
    (hsz : ys.length + its2.size ≤ sizeLine) (h : ∀ h' n', Fr h₀ L h' m → News h₀ L h' (g (W.listOf (ys ++ its2.toList).toArray n')) → Q .none { s with heap := h' }) :
    wpAny (model prog w) A (call (.builtin "list.extend") [.ref D, .ref b]) Q E s := by
  have hbb := N.get hb
  (obtain q91 := U.split
   with_reducible refine x2_4 q91 fun pre post r92 hg h1 h2 => ?_
   clear q91
   obtain rfl := r92)
  exact extend_in F N h1 h2 hbb (fun h' n' F' N' => h h' n' F' (by rw [hg]; exact N')) hsz
theorem append_U {prog : Program} {w : World} {A : Around} {E : Value → Shared → Prop} {s : Shared} {h₀ : Heap} {L D : Addr} {m : Str → Option Value} {news : List (Addr × Obj)} {ys : List Value} {n : Nat} {x : Value} {g : Obj → List (Addr × Obj)} {Q : Value → Shared → Prop}
    (F : Fr h₀ L s.heap m) (N : News h₀ L s.heap news) (U : UpdF D (W.listOf ys.toArray n) news g)
    (hsz : ys.length ≤ sizeLine) (h : ∀ h' n', Fr h₀ L h' m → News h₀ L h' (g (W.listOf (ys ++ [x]).toArray n')) → Q .none { s with heap := h' }) :
    wpAny (model prog w) A (call (.builtin "list.append") [.ref D, x]) Q E s := by
  (obtain q93 := U.split
   with_reducible refine x2_4 q93 fun pre post r94 hg h1 h2 => ?_
   clear q93
   obtain rfl := r94)
  have z := N (D, W.listOf ys.toArray n) (List.mem_append.mpr (.inr (.head _)))
  refine append_at (hsz := by simpa using hsz) z.1 fun h' hs ho' => h h' (n + 1) (F.change hs z.2.1 z.2.2) ?_
  rw [hg]
  refine news_set N h1 h2 hs ?_
  rw [ho', List.push_toArray]
theorem skip_le {c : Rec → Rec → Int} {e : Rec} {xs : List Rec} {i : Nat} (hi : i ≤ xs.length) : skip c e xs i ≤ xs.length := by
  unfold skip
  have := (List.takeWhile_sublist (l := xs.drop i) fun x => decide (c x e = 0)).length_le
  rw [List.length_drop] at this
  omega
theorem passes_noted {M : Model} {A A' : Around} {env : Env} {E : Value → Shared → Prop} (hAA : SameStack A' A') : PassesOwn M A' env (notedBy M A' env (cameBackBy M A env E)) := fun _ _ h => wpAny_look_again hAA h
noncomputable def OffAll (frs : List (Addr × Obj)) (a : Addr) : Prop := a ∉ frs.map (·.1)
theorem OffAll.use {frs frs' : List (Addr × Obj)} {a : Addr} (h : OffAll frs a) (SU : SameUp frs frs') : ∀ p ∈ frs', p.1 ≠ a := fun p hp q => apart_up SU h (List.mem_map.mpr ⟨p, hp, q⟩)
theorem off_back {frs frs' : List (Addr × Obj)} {a : Addr} (SU : SameUp frs frs') (h : ∀ p ∈ frs', p.1 ≠ a) : OffAll frs a := fun q => by
  (obtain q81 := List.mem_map.mp q
   with_reducible refine x1_2 q81 fun p hp e => ?_
   clear q81)
  obtain ⟨sl, hm⟩ := SU.back p hp
  exact h _ hm e
theorem off2 {frs : List (Addr × Obj)} {a b : Addr} {o o' : Obj} (x : OffAll frs a) (y : OffAll frs b) : ∀ p ∈ [(a, o), (b, o')], p.1 ∉ frs.map (·.1) := by
  intro p hp
  refine mc1 hp ?_ fun hp => ?_
  · exact x
  · rcases List.mem_singleton.mp hp with rfl
    exact y
theorem snoc_at {ks : List Addr} {ms : List Nat} {i : Nat} {k : Addr} (h : ks[i]? = some k) : (ms.filterMap fun j => ks[j]?.map Value.ref) ++ [Value.ref k] = (ms ++ [i]).filterMap fun j => ks[j]?.map Value.ref := by
  rw [List.filterMap_append]
  simp [h]
noncomputable def told (ks : List Addr) (ps : List Nat) (i : Nat) : List Value := (ps.filterMap fun j => ks[j]?.map Value.ref) ++ (ks.map Value.ref).drop i

theorem made_viewD {A : Around} {g h : Heap} {L a : Addr} {o : Obj} {l : List Env} {frs news new : List (Addr × Obj)} (hl : A.frames = some l) (Fs : Frs l frs) (N : News g L h news) (S : Split news new frs) (ha : (a, o) ∈ news) (hn : ∀ es n, o.data ≠ .dict es n) : (view A [] h).get? a = some o := by
  refine view_of ?_ (N.get ha)
  rw [List.nil_append, show fsA A = frs.map (·.1) by unfold fsA; rw [hl]; exact Fs.addrs]
  exact apart_data Fs N S ha hn
theorem allLt_mem {d : Addr} : ∀ {l : List (Addr × Obj)}, AllLt d l → ∀ p ∈ l, p.1 < d
  | [], _, _, h => nomatch h
  | _ :: _, x, p, h => by
    refine mc1 h ?_ fun h => ?_
    · exact x.1
    · exact allLt_mem x.2 p h
noncomputable def SldInv (c : Rec → Rec → Int) (ks₁ ks₂ : List Addr) (as₁ as₂ : List Rec) (g : Heap) (L am au e₁ e₂ : Addr) (l : List Env) (frs : List (Addr × Obj)) (n : Nat) (h : Heap) : Prop :=
  ∃ i j ms us ti tj m frs' km ku, (as₁.length - i) + (as₂.length - j) = n ∧ i ≤ as₁.length ∧ j ≤ as₂.length ∧ Reach c as₁ as₂ i j ms us false ∧ SameUp frs frs' ∧ Frs l frs' ∧ Fr g L h m ∧
    News g L h ((au, W.listOf (us.filterMap fun j => ks₂[j]?.map Value.ref).toArray ku) :: (am, W.listOf (ms.filterMap fun j => ks₁[j]?.map Value.ref).toArray km) :: frs') ∧
    m (Str.ofString "expected") = some (.ref e₁) ∧ m (Str.ofString "actual") = some (.ref e₂) ∧ m (Str.ofString "i") = some (.int (i : Nat) ti) ∧ m (Str.ofString "j") = some (.int (j : Nat) tj) ∧ m (Str.ofString "missing") = some (.ref am) ∧ m (Str.ofString "unexpected") = some (.ref au)
noncomputable def SldEnd (c : Rec → Rec → Int) (ks₁ ks₂ : List Addr) (as₁ as₂ : List Rec) (g : Heap) (L am au e₁ e₂ : Addr) (l : List Env) (frs frs' : List (Addr × Obj)) (m : Str → Option Value) (h : Heap) : Prop :=
  ∃ i j ms us ti tj km ku, i ≤ as₁.length ∧ j ≤ as₂.length ∧ Reach c as₁ as₂ i j ms us true ∧ SameUp frs frs' ∧ Frs l frs' ∧ Fr g L h m ∧
    News g L h ((au, W.listOf (us.filterMap fun j => ks₂[j]?.map Value.ref).toArray ku) :: (am, W.listOf (ms.filterMap fun j => ks₁[j]?.map Value.ref).toArray km) :: frs') ∧
    m (Str.ofString "expected") = some (.ref e₁) ∧ m (Str.ofString "actual") = some (.ref e₂) ∧ m (Str.ofString "i") = some (.int (i : Nat) ti) ∧ m (Str.ofString "j") = some (.int (j : Nat) tj) ∧ m (Str.ofString "missing") = some (.ref am) ∧ m (Str.ofString "unexpected") = some (.ref au)
end Mine
end PartC5a

section PartC6a
open PySem PySem.W PyProof.Rows PySem.Calls
set_option Elab.async false
set_option maxRecDepth 100000
set_option maxHeartbeats 8000000
set_option linter.unusedVariables false
set_option rowWalk.seconds 0
namespace Mine
theorem start_C6a {M : Model} {A : Around} {env : Env} {E : Value → Shared → Prop} {s : Shared} {Q : Flow → Shared → Prop} (h : Q .next s) : wpAny M A (execs [] env) Q E s := by
  w_top off
  walk1
  exact h
open TI (Frs SameUp)
theorem Ext.frames {A A' : Around} {hid : List Addr} {h h' : Heap} (x : Ext A' hid h h') (e : A'.frames = A.frames) : Ext A hid h h' := by
  have hf : fsA A' = fsA A := by unfold fsA; rw [e]
  obtain ⟨x1, x2⟩ := x
  unfold view at x1
  rw [hf] at x1 x2
  exact ⟨x1, x2⟩
theorem erase_map {α β : Type} (f : α → β) : ∀ (l : List α) (i : Nat), (l.map f).eraseIdx i = (l.eraseIdx i).map f
  | [], _ => rfl
  | _ :: _, 0 => rfl
  | a :: l, i + 1 => by simp [List.eraseIdx, erase_map f l i]
theorem IsList.inj {h : Heap} {l : Addr} {a b : Array Value} (x : h.IsList l a) (y : h.IsList l b) : a = b := by
  (refine x1_3 x fun o ho _ q91 => ?_
   try clear x
   with_reducible refine x1_1 q91 fun n hd => ?_
   clear q91)
  (refine x1_3 y fun o' ho' _ q92 => ?_
   try clear y
   with_reducible refine x1_1 q92 fun n' hd' => ?_
   clear q92)
  rw [ho] at ho'
  cases ho'
  rw [hd] at hd'
  injection hd'
theorem RecAt.inj {h : Heap} {r : Addr} {a b : Rec} (x : RecAt h r a) (y : RecAt h r b) : a = b := by
  (have q93 := x
   clear x
   refine x3_1 q93 fun t0 t1 t2 x => ?_
   clear q93)
  (have q94 := y
   clear y
   refine x3_1 q94 fun u0 u1 u2 y => ?_
   clear q94)
  have e := IsList.inj x y
  simp only [Array.mk.injEq, List.cons.injEq, Value.int.injEq] at e
  exact Prod.ext e.1.1 (Prod.ext e.2.1.1 e.2.2.1.1)
theorem KeyRec.inj {h : Heap} {C k : Addr} {a b : Rec} (x : KeyRec h C k a) (y : KeyRec h C k b) : a = b := by
  (refine x1_2 x fun r x1 x2 => ?_
   try clear x)
  (refine x1_2 y fun q y1 y2 => ?_
   try clear y)
  unfold KeyAt at x1 y1
  obtain ⟨d1, x1⟩ := x1
  obtain ⟨d2, y1⟩ := y1
  rw [x1] at y1
  simp only [Option.some.injEq, Obj.mk.injEq, Array.mk.injEq, List.cons.injEq, Value.ref.injEq] at y1
  (with_reducible refine x0_5 y1 fun _ _ _ e _ => ?_
   try clear y1)
  subst e
  exact x2.inj y2
section
variable {w : World} {A A₂ : Around} {E : Value → Shared → Prop} {s : Shared} {g h : Heap} {L f C : Addr} {m : Str → Option Value} {name : Str} {scope : Scope} {cd : Value} {c : Rec → Rec → Int} {l : List Env} {frs new : List (Addr × Obj)} {p : Program} {loose : List Str} {mean : ExcName → Option Value} {mg mb : Str → Option Value}
theorem key_eqBool {k1 k2 : Addr} {a b : Rec} {news : List (Addr × Obj)} {Q : Bool → Shared → Prop} (KC : KeyCls w g C c) (rfl_ : ∀ a, c a a = 0) (hA : A₂.frames = (A.deeper (envX name scope L f cd [])).frames)
    (hl : A.frames = some l) (Fs : Frs l frs) (F : Fr g L s.heap m) (N : News g L s.heap news) (S : Split news new frs) (X : (Mine.hd.heap_1 w.params).In g) (T : Top p loose mean mg mb g) (hap : ∀ p ∈ new, p.1 ∉ frs.map (·.1))
    (hk : scope.kind = .function) (hdp : A₂.depth + 30 < recursionLimit) (hun : A₂.units + 600 < cLine) (R1 : KeyRec g C k1 a) (R2 : KeyRec g C k2 b)
    (ret : ∀ h' tk frs', SameUp frs frs' → Frs l frs' → Fr g L h' m → News g L h' (new ++ frs') → Q (decide (c a b = 0)) { s with heap := h', toks := tk }) :
    wpAny (model Challenge.rw_mg0030_01.row.prog w) A₂ (eqBool (.ref k1) (.ref k2)) Q E s := by
  unfold eqBool
  refine wpAny_holding ?_
  by_cases hkk : k1 = k2
  · subst hkk
    have := R1.inj R2
    subst this
    rw [if_pos (by simp)]
    refine wpAny_bind (wpAny_rule (wpAny_pure ?_))
    have := ret s.heap s.toks frs (SameUp.refl _) Fs F (S.eq ▸ N)
    rwa [decide_eq_true (rfl_ a)] at this
  · rw [if_neg (by simpa using hkk)]
    have hv : g.StaysIn (view A₂ [] s.heap) := by
      have h1 : g.StaysIn (view (A.deeper (envX name scope L f cd [])) [] s.heap) := in_view F N S Fs hl rfl
      have hf : fsA A₂ = fsA (A.deeper (envX name scope L f cd [])) := by unfold fsA; rw [hA]
      unfold view at h1 ⊢
      rw [hf]
      exact h1
    refine wpAny_bind (KC.eq A₂ s k1 k2 a b hv ((here_of hl Fs F N S X T rfl hk).frames hA) hdp hun (R1.ext hv) (R2.ext hv) _ _ fun r h' tk x e => ?_)
    subst e
    (obtain q95 := back (env := envX name scope L f cd []) hl Fs F N S rfl hap (x.frames hA)
     with_reducible refine x1_4 q95 fun frs' SU Fs' F' N' => ?_
     clear q95)
    exact wpAny_truthy_bool (ret h' tk frs' SU Fs' F' N')
theorem remove_keys {e₂ kI : Addr} {aI : Rec} {js : List Addr} {bs : List Rec} {n : Nat} {gn : Obj → List (Addr × Obj)} {Q : Value → Shared → Prop} (KC : KeyCls w g C c) (rfl_ : ∀ a, c a a = 0) (hh : A.handled = none)
    (hl : A.frames = some l) (Fs : Frs l frs) (F : Fr g L s.heap m) (N : News g L s.heap (new ++ frs)) (X : (Mine.hd.heap_1 w.params).In g) (T : Top p loose mean mg mb g) (hap : ∀ p ∈ new, p.1 ∉ frs.map (·.1))
    (hk : scope.kind = .function) (hdp : A.depth + 40 < recursionLimit) (hun : A.units + 700 < cLine) (U : UpdF e₂ (W.listOf (js.map Value.ref).toArray n) new gn) (hlen : js.length = bs.length) (hsm : js.length ≤ 1000)
    (R : ∀ (i : Nat) (k : Addr) (b : Rec), js[i]? = some k → bs[i]? = some b → KeyRec g C k b) (RI : KeyRec g C kI aI)
    (found : ∀ (j : Nat) (h' : Heap) (tk n' : Nat) (frs' : List (Addr × Obj)), j < js.length → (∀ b, bs[j]? = some b → c b aI = 0) → (∀ (i : Nat) (b : Rec), i < j → bs[i]? = some b → c b aI ≠ 0) → SameUp frs frs' → Frs l frs' → Fr g L h' m → News g L h' (gn (W.listOf ((js.eraseIdx j).map Value.ref).toArray n') ++ frs') → Q .none { s with heap := h', toks := tk })
    (lost : ∀ (h' h'' : Heap) (tk : Nat) (e : Addr) (frs' : List (Addr × Obj)), (∀ (i : Nat) (b : Rec), bs[i]? = some b → c b aI ≠ 0) → SameUp frs frs' → Frs l frs' → Fr g L h' m → News g L h' (new ++ frs') → NewX h' h'' e "ValueError" .none → E (.ref e) { s with heap := h'', toks := tk }) :
    wpAny (model Challenge.rw_mg0030_01.row.prog w) (A.deeper (envX name scope L f cd [])) (call (.builtin "list.remove") [.ref e₂, .ref kI]) Q E s := by
  (obtain q96 := U.split
   with_reducible refine x2_4 q96 fun pre post hnew hgn hp1 hp2 => ?_
   clear q96)
  have hm0 : (e₂, W.listOf (js.map Value.ref).toArray n) ∈ new := by rw [hnew]; exact List.mem_append_right _ (.head _)
  have loop : ∀ (k i : Nat) (h : Heap) (tk : Nat) (frs' : List (Addr × Obj)), js.length - i = k → i ≤ js.length → (∀ (i' : Nat) (b : Rec), i' < i → bs[i']? = some b → c b aI ≠ 0) → SameUp frs frs' → Frs l frs' → Fr g L h m → News g L h (new ++ frs') →
      codeAny (model Challenge.rw_mg0030_01.row.prog w) (A.deeper (envX name scope L f cd [])) (.builtin "list.remove.loop" ⟨[.ref e₂, .ref kI, rawInt i], []⟩) (wants Q E) { s with heap := h, toks := tk } := by
    intro k
    induction k with
    | zero =>
      intro i h tk frs' hk' hi hno SU Fs F N
      have hie : i = js.length := by omega
      have he : h.get? e₂ = some (W.listOf (js.map Value.ref).toArray n) := N.get (List.mem_append_left _ hm0)
      refine codeAny_builtin MeetsSeq.entry_remove_loop ?_
      rw [Around.under_plainId MeetsSeq.plain_remove_loop _]
      wp_walk using wpAny_loadPart' he
      rw [show ((js.map Value.ref).toArray)[((i : Nat) : Int).toNat]? = none by simp [hie]]
      wp_walk
      refine raise_words plainExc_ValueError (.inl hh) fun h' tk' e x => ?_
      refine lost h h' tk' e frs' (fun i' b hb => hno i' b ?_ hb) SU Fs F N ?_
      · rw [hie, hlen]; exact (List.getElem?_eq_some_iff.mp hb).1
      · have x' : NewX h h' e "ValueError" (A.handled.getD .none) := x
        rw [hh] at x'
        exact x'
    | succ k ih =>
      intro i h tk frs' hk' hi hno SU Fs F N
      have hlt : i < js.length := by omega
      have he : h.get? e₂ = some (W.listOf (js.map Value.ref).toArray n) := N.get (List.mem_append_left _ hm0)
      obtain ⟨b, hb⟩ : ∃ b, bs[i]? = some b := ⟨bs[i]'(by rw [← hlen]; exact hlt), List.getElem?_eq_getElem _⟩
      have hji : js[i]? = some js[i] := List.getElem?_eq_getElem hlt
      refine codeAny_builtin MeetsSeq.entry_remove_loop ?_
      rw [Around.under_plainId MeetsSeq.plain_remove_loop _]
      wp_walk using wpAny_loadPart' he
      rw [show ((js.map Value.ref).toArray)[((i : Nat) : Int).toNat]? = some (.ref js[i]) by simp [hlt]]
      have hap' : ∀ p ∈ new, p.1 ∉ frs'.map (·.1) := fun p hp => apart_up SU (hap p hp)
      refine wpAny_bind (key_eqBool (s := { s with heap := h, toks := tk }) (name := name) (scope := scope) (f := f) (cd := cd) KC rfl_ rfl hl Fs F N Split.app X T hap' hk ?_ ?_ (R i _ b hji hb) RI fun h1 tk1 frs1 SU1 Fs1 F1 N1 => ?_)
      · show A.depth + 1 + 30 < _; omega
      · show A.units + 3 + 1 + 600 < _; omega
      by_cases hc : c b aI = 0
      · rw [decide_eq_true hc]
        have he1 : h1.get? e₂ = some (W.listOf (js.map Value.ref).toArray n) := N1.get (List.mem_append_left _ hm0)
        have hz : (js.map Value.ref).toArray.size ≤ sizeLine := by simp only [List.size_toArray, List.length_map, sizeLine]; omega
        have hz' : ((js.map Value.ref).toArray.eraseIdxIfInBounds i).size ≤ sizeLine + 1 := Nat.le_trans (MeetsSeq.size_erased _ _) (Nat.le_succ_of_le hz)
        wp_walk using (wpAny_updateSeq he1 rfl (hz := hz) (_hz' := hz')), wpAny_loadPart' he1
        have z := N1 _ (List.mem_append_left _ hm0)
        refine found i _ tk1 (if ((js.map Value.ref).toArray.eraseIdxIfInBounds i).size == (js.map Value.ref).toArray.size then n else n + 1) frs1 hlt (fun b' hb' => by rw [hb] at hb'; cases hb'; exact hc) hno (SU.trans SU1) Fs1 (F1.change (Heap.SameBut.update ..) z.2.1 z.2.2) ?_
        rw [hgn]
        rw [hnew] at N1
        have e1 : pre ++ (e₂, W.listOf (js.map Value.ref).toArray n) :: post ++ frs1 = pre ++ (e₂, W.listOf (js.map Value.ref).toArray n) :: (post ++ frs1) := by simp
        have e2 : ∀ o, pre ++ (e₂, o) :: post ++ frs1 = pre ++ (e₂, o) :: (post ++ frs1) := by intro o; simp
        rw [e1] at N1
        rw [e2]
        have hoff : OffAll frs e₂ := hap _ hm0
        refine news_set N1 hp1 (fun p hp => (List.mem_append.mp hp).elim (hp2 p) (hoff.use (SU.trans SU1) p)) (Heap.SameBut.update ..) ?_
        rw [Heap.get?_update_self _ he1 rfl]
        have e3 : (js.map Value.ref).toArray.eraseIdxIfInBounds i = ((js.eraseIdx i).map Value.ref).toArray := by
          apply Array.toList_inj.mp
          simp [Array.eraseIdxIfInBounds, hlt, erase_map]
        simp only [Obj.mapSeq, Int.toNat_natCast, e3]
      · rw [decide_eq_false hc]
        wp_walk
        refine ⟨plainId_quiet MeetsSeq.plain_remove_loop _, ?_⟩
        rw [show ((i : Int) + 1) = ((i + 1 : Nat) : Int) by push_cast; rfl]
        exact ih (i + 1) h1 tk1 frs1 (by omega) hlt (fun i' b' hi' hb' => by
          rcases Nat.lt_succ_iff_lt_or_eq.mp hi' with h1 | h1
          · exact hno i' b' h1 hb'
          · subst h1; rw [hb] at hb'; cases hb'; exact hc) (SU.trans SU1) Fs1 F1 N1
  have he : s.heap.get? e₂ = some (W.listOf (js.map Value.ref).toArray n) := N.get (List.mem_append_left _ hm0)
  refine wpAny_call (codeAny_call_builtin PySem.F.slot_list_remove.plain PySem.F.entry_list_remove (PySem.F.slot_list_remove.check _ _ _ _ _ _ _ _ ⟨_, he, rfl⟩ (PySem.F.args_list_remove_2 _ _) ?_))
  wp_walk using wpAny_loadPart' he
  exact ⟨plainId_quiet MeetsSeq.plain_remove_loop _, loop _ 0 s.heap s.toks frs rfl (Nat.zero_le _) (fun _ _ h => absurd h (Nat.not_lt_zero _)) (SameUp.refl _) Fs F N⟩
end

end Mine
end PartC6a

section MacCC
open PySem PySem.W PyProof.Rows PySem.Calls in
local macro_rules | `(tactic| kd_p) => `(tactic| first | assumption | exact Mine.look_eq | (refine Mine.look_ne (by decide) ?_; kd_p))
open PySem PySem.W PyProof.Rows PySem.Calls in
local macro_rules | `(tactic| walk_at "eval Name") => `(tactic| (k_here; (with_reducible show wpAny _ _ (eval (Expr.Name _ _) (envX _ _ _ _ _ _)) _ _ _); k_dflt (refine' nameX_L ?F ?v ?_ ?a ?b ?c; (case a => rfl); (case b => rfl); (case c => decide); (case F => k_asm); (case v => kd_p); k_whole)))
open PySem PySem.W PyProof.Rows PySem.Calls in
local macro_rules | `(tactic| walk_at "exec While") => `(tactic| ((with_reducible show wpAny _ _ (exec (Stmt.While _ _ _ _) _) _ _ _); isplit))
open PySem PySem.W PyProof.Rows PySem.Calls in
local macro_rules | `(tactic| walk_at "WhlPost") => `(tactic| ((with_reducible show WhlPost _ _ _ _ _ _ _ _ _ _ Flow.next _); isplit))
open PySem PySem.W PyProof.Rows PySem.Calls in
local macro_rules | `(tactic| walk_at "exec Try") => `(tactic| ((with_reducible show wpAny _ _ (exec (Stmt.Try _ _ _ _ _) _) _ _ _); isplit))
open PySem PySem.W PyProof.Rows PySem.Calls in
local macro_rules | `(tactic| k_all) => `(tactic| exact Mine.OffAll.use (by assumption) (by assumption))
open PySem PySem.W PyProof.Rows PySem.Calls in
local macro_rules | `(tactic| walk_at "call builtin:list.append") => `(tactic| (k_here; (refine Mine.append_U (by k_asm) (by k_asm) (by k_updF) (by simp only [sizeLine]; omega) ?_); intro h9 n9 F9 N9; (try dsimp only at N9)))
section PartC5b
open PySem PySem.W PyProof.Rows PySem.Calls
set_option Elab.async false
set_option maxRecDepth 100000
set_option maxHeartbeats 8000000
set_option linter.unusedVariables false
set_option rowWalk.seconds 0
namespace Mine
theorem start_C5b {M : Model} {A : Around} {env : Env} {E : Value → Shared → Prop} {s : Shared} {Q : Flow → Shared → Prop} (h : Q .next s) : wpAny M A (execs [] env) Q E s := by
  w_top off
  walk1
  exact h
open TI (Frs SameUp)
local macro_rules | `(tactic| walk_at "exec Try cons nil") => `(tactic| ((with_reducible show wpAny _ _ (exec (Stmt.Try _ _ _ _ _) _) _ _ _); isplit))
local macro_rules | `(tactic| walk_at "subscriptTail Name Name ref int") => `(tactic| (k_here; (refine item_key (Or.inl (by assumption)) (by assumption) (by k_asm) (by assumption) ?_ ?_); (all_goals first | (intro k9 a9 hk9 ha9 hr9) | (intro hz9 h9 tk9 e9 x9))))
local macro_rules | `(tactic| walk_at "compareOp Lt ref ref") => `(tactic| (k_here; (refine key_cmp0 (P := fun z => decide (z < 0)) (op := .Lt) (fun A s k1 k2 a b => KeyCls.lt (by assumption) A s k1 k2 a b) (fun _ _ => rfl) (by k_asm) (by k_asm) (by k_asm) (by k_asm) (by kwd_rel) (by k_asm) (by k_asm) (by kwd_inv) rfl (by assumption) (by assumption) (by assumption) (by assumption) ?_); intro h9 tk9 frs9 SU8 Fs9 F9 N9; have SU9 := SameUp.trans (by k_asm) SU8; clear SU8; simp only [List.nil_append, List.cons_append] at N9))
local macro_rules | `(tactic| walk_at "compareOp Gt ref ref") => `(tactic| (k_here; (refine key_cmp0 (P := fun z => decide (0 < z)) (op := .Gt) (fun A s k1 k2 a b => KeyCls.gt (by assumption) A s k1 k2 a b) (fun _ _ => rfl) (by k_asm) (by k_asm) (by k_asm) (by k_asm) (by kwd_rel) (by k_asm) (by k_asm) (by kwd_inv) rfl (by assumption) (by assumption) (by assumption) (by assumption) ?_); intro h9 tk9 frs9 SU8 Fs9 F9 N9; have SU9 := SameUp.trans (by k_asm) SU8; clear SU8; simp only [List.nil_append, List.cons_append] at N9))
local macro_rules | `(tactic| walk_at "loadName") => `(tactic| (k_here; k_dflt (refine wpAny_loadName_local (by rfl) (by rfl) (Fr.ns (by k_asm)) (by kd_p) ?_)))
local macro_rules | `(tactic| walk_at "subscriptTail Name Slice ref ref") => `(tactic| (k_here; k_dflt (refine kmk_slice (by k_asm) (by k_asm) (Fr.lst (by k_asm) (by assumption)) (.int _ _) .none ?_ (by with_unfolding_all rfl) (fun _ => by with_unfolding_all rfl) (by assumption)); intro D' h' F' N' l1; (try k_lt l1); rw [slicePick_from'] at N'))
local macro_rules | `(tactic| walk_at "call builtin:list.extend") => `(tactic| (k_here; (refine extend_U (by k_asm) (by k_asm) (by k_updF) (by k_mem) (by simp [sizeLine]; omega) ?_); intro h9 n9 F9 N9; (try dsimp only at N9)))
theorem c_sld {w : World} {A : Around} {s : Shared} {C e₁ e₂ : Addr} {c : Rec → Rec → Int} {ks₁ ks₂ : List Addr} {as₁ as₂ : List Rec}
    (H : Here w A [] s.heap) (hh : A.handled = none) (hd : A.depth + 40 < recursionLimit) (hu : A.units + 700 < cLine) (KC : KeyCls w (view A [] s.heap) C c) (R₁ : KeyRow (view A [] s.heap) C e₁ ks₁ as₁) (R₂ : KeyRow (view A [] s.heap) C e₂ ks₂ as₂) :
    Quiet w A (call (.ref 21) [.ref e₁, .ref e₂]) s (fun r v => ∃ t a b i j ms us, r = .ref t ∧ IsTup v t #[.ref a, .ref b] ∧ v.IsList a (told ks₁ ms i).toArray ∧ v.IsList b (told ks₂ us j).toArray ∧ Reach c as₁ as₂ i j ms us true) := by
  intro Q E ret
  have X := H.frag
  have XS := X.keeps view_le
  revert XS X; k_fill; intro X XS
  refine wpAny_call ?_
  k_dflt (refine' enter_m (cl := []) (hid := []) (news := []) H ?hN (XS 21 _ (by k_is)) ?hd (codeRec_of XS ?hc) (by omega) ?hb ?hl ?_ ?hcell ?hco ?hg ?hk; (case hN => exact fun _ h => nomatch h); (case hd => exact rfl); (case hc => k_is); (case hb => exact BindsTo.of_eq rfl); (case hl => exact locs rfl); (case hcell => decide); (case hco => exact rfl); (case hg => exact rfl); (case hk => exact rfl))
  clear XS X
  intro l frs p loose mean mg mb L h' I' X' T' F' N'
  have hl := I'.hl
  have Fs := I'.fs
  have SU := SameUp.refl frs
  generalize hg : view A [] s.heap = g at *
  have hl₁ := R₁.list
  have hl₂ := R₂.list
  have hk₁ : ks₁.length ≤ 1000 := by rw [R₁.len]; exact R₁.small
  have hk₂ : ks₂.length ≤ 1000 := by rw [R₂.len]; exact R₂.small
  have hz₁ : (ks₁.map Value.ref).toArray.size ≤ sizeLine := by simp only [List.size_toArray, List.length_map, sizeLine]; omega
  have hz₂ : (ks₂.map Value.ref).toArray.size ≤ sizeLine := by simp only [List.size_toArray, List.length_map, sizeLine]; omega
  simp only [List.nil_append] at N'
  (try dsimp only)
  refine wpAny_mono (E := fun _ _ => False) ?_ (fun _ _ h => h) (fun _ _ h => h.elim)
  (try k_fold)
  have mE : (fun y => List.lookup y [(Str.ofString "actual", Value.ref e₂), (Str.ofString "expected", Value.ref e₁)]) (Str.ofString "expected") = some (.ref e₁) := rfl
  k_steps
  refine whl_start 0 ?_
  rename_i am _ lm _ _ au _ lu h2 F2 N2
  have I0 : SldInv c ks₁ ks₂ as₁ as₂ g L am au e₁ e₂ l frs _ h2 := (i10_14 0 0 [] [] _ _ _ frs 0 0 rfl (Nat.zero_le _) (Nat.zero_le _) .start SU Fs F2 N2 rfl rfl rfl rfl rfl rfl)
  have apm : OffAll frs am := apart_lt lm
  have apu : OffAll frs au := apart_lt (allLt_mem lu.2)
  have hne : @LT.lt Nat _ am au := lu.1
  clear F2 N2 lm lu Fs SU mE
  revert I0
  refine (fun K I0 => K _ _ _ I0 : (∀ (n : Nat) (h : Heap) (tk : Nat), SldInv c ks₁ ks₂ as₁ as₂ g L am au e₁ e₂ l frs n h → WhlRest _ _ _ _ _ _ _ _ _ 0 { s with heap := h, toks := tk }) → _ → _) ?_
  intro n
  induction n using Nat.strongRecOn with
  | ind n ih =>
    (intro h tk h9q; (refine x10_1 h9q fun i j ms us ti tj m frs' km ku q9z => x0_14 q9z fun hn hi hj RE SU Fs F N m1 m2 m3 m4 m5 m6 => ?_
                      clear q9z
                      try clear h9q))
    refine whl_turn (k := 0) PassesOwn.never ?_
    refine isTrue_plain (wpAny_Constant_bool (wpAny_truthy_bool ?_))
    refine WhlIf.yes rfl ?_
    k_steps
    refine wpAny_Try_except ?_
    k_fold
    have hE : ∀ (e : Addr) (h1 h3 : Heap) (tk1 : Nat) (cc : Value) (m1 : Str → Option Value) (frs1 : List (Addr × Obj)), SldEnd c ks₁ ks₂ as₁ as₂ g L am au e₁ e₂ l frs frs1 m1 h1 → NewX h1 h3 e "IndexError" cc → ek (.ref e) { s with heap := h3, toks := tk1 } := by
      clear ih F N m1 m2 m3 m4 m5 m6 SU Fs
      (rintro e h1 h3 tk1 cc m frs1 h9q; (refine x8_1 h9q fun i j ms us ti tj km ku q9z => x0_13 q9z fun hi hj RE SU Fs F N m1 m2 m3 m4 m5 m6 => ?_
                                          clear q9z
                                          try clear h9q); rintro hx)
      show ToClauses _ _ _ _ _ _ _ _ _
      refine caught_new (new := [(au, W.listOf (us.filterMap fun j => ks₂[j]?.map Value.ref).toArray ku), (am, W.listOf (ms.filterMap fun j => ks₁[j]?.map Value.ref).toArray km)]) (Around.frames_deeper hl) Fs hx F N (off2 (apart_up SU apu) (apart_up SU apm)) X' (topRead_of T') (by k_is) (fun h4 frs4 SU4 Fs4 F4 N4 => ?_) rfl rfl
      simp only [List.cons_append, List.nil_append] at N4
      replace SU4 := SU.trans SU4
      clear F N SU Fs
      have hml : (ms.filterMap fun j => ks₁[j]?.map Value.ref).length ≤ 1000 := Nat.le_trans (List.length_filterMap_le _ _) (Nat.le_trans RE.len.1 (Nat.le_trans hi R₁.small))
      have hul : (us.filterMap fun j => ks₂[j]?.map Value.ref).length ≤ 1000 := Nat.le_trans (List.length_filterMap_le _ _) (Nat.le_trans RE.len.2 (Nat.le_trans hj R₂.small))
      (try dsimp only)
      (try k_fold)
      k_steps
      show Q _ _
      rename_i D3 h5 F5 N5 l5
      subst hg
      exact ret _ h5 _ (ext_of I'.hl I'.fs I'.fr F5 N5 SU4 (by kwd_rel) I'.above) (i7_5 D3 am au i j ms us rfl (i1_3 _ (made_viewD I'.hl Fs4 N5 (by kwd_rel) (by k_mem) (fun _ _ q => by cases q)) rfl ⟨_, rfl⟩) (i1_3 _ (made_viewD I'.hl Fs4 N5 (by kwd_rel) (.tail _ (.tail _ (.tail _ (.tail _ (.head _))))) (fun _ _ q => by cases q)) rfl ⟨_, rfl⟩) (i1_3 _ (made_viewD I'.hl Fs4 N5 (by kwd_rel) (.tail _ (.tail _ (.tail _ (.head _)))) (fun _ _ q => by cases q)) rfl ⟨_, rfl⟩) RE)
    have hEh : ∀ (e T : Addr) (ob oT : Obj) (h1 : Heap) (tk1 : Nat) (cc : Value) (m1 : Str → Option Value) (frs1 : List (Addr × Obj)), SldEnd c ks₁ ks₂ as₁ as₂ g L am au e₁ e₂ l frs frs1 m1 h1 → News g L h1 [(e, ob), (T, oT)] → HeldO "IndexError" cc (rawInt L) ob oT T → e ≠ T → am ≠ T → au ≠ T → (∀ p ∈ frs1, p.1 ≠ T) → ek (.ref e) { s with heap := h1, toks := tk1 } := by
      clear ih F N m1 m2 m3 m4 m5 m6 SU Fs
      (rintro e T ob oT h1 tk1 cc m frs4 h9q; (refine x8_1 h9q fun i j ms us ti tj km ku q9z => x0_13 q9z fun hi hj RE SU4 Fs4 F N m1 m2 m3 m4 m5 m6 => ?_
                                               clear q9z
                                               try clear h9q); rintro NX O hne2 n1 n2 n3)
      show ToClauses _ _ _ _ _ _ _ _ _
      refine caught_held (s := { s with heap := h1, toks := tk1 }) (rest := (au, W.listOf (us.filterMap fun j => ks₂[j]?.map Value.ref).toArray ku) :: (am, W.listOf (ms.filterMap fun j => ks₁[j]?.map Value.ref).toArray km) :: frs4) F (fun p hp => ?_) O hne2 (fun p hp => ?_) X' (topRead_of T') (by k_is) (fun h4 F4 N4 => ?_) rfl rfl
      · refine mc1 hp ?_ fun hp => ?_
        · exact NX _ (.head _)
        · refine mc1 hp ?_ fun hp => ?_
          · exact NX _ (.tail _ (.head _))
          · exact N p hp
      · refine mc1 hp ?_ fun hp => ?_
        · exact n2
        · refine mc1 hp ?_ fun hp => ?_
          · exact n1
          · exact n3 p hp
      clear F N NX
      have hml : (ms.filterMap fun j => ks₁[j]?.map Value.ref).length ≤ 1000 := Nat.le_trans (List.length_filterMap_le _ _) (Nat.le_trans RE.len.1 (Nat.le_trans hi R₁.small))
      have hul : (us.filterMap fun j => ks₂[j]?.map Value.ref).length ≤ 1000 := Nat.le_trans (List.length_filterMap_le _ _) (Nat.le_trans RE.len.2 (Nat.le_trans hj R₂.small))
      (try dsimp only)
      (try k_fold)
      k_steps
      show Q _ _
      rename_i D3 h5 F5 N5 l5
      subst hg
      exact ret _ h5 _ (ext_of I'.hl I'.fs I'.fr F5 N5 SU4 (by kwd_rel) I'.above) (i7_5 D3 am au i j ms us rfl (i1_3 _ (made_viewD I'.hl Fs4 N5 (by kwd_rel) (by k_mem) (fun _ _ q => by cases q)) rfl ⟨_, rfl⟩) (i1_3 _ (made_viewD I'.hl Fs4 N5 (by kwd_rel) (.tail _ (.tail _ (.tail _ (.tail _ (.head _))))) (fun _ _ q => by cases q)) rfl ⟨_, rfl⟩) (i1_3 _ (made_viewD I'.hl Fs4 N5 (by kwd_rel) (.tail _ (.tail _ (.tail _ (.head _)))) (fun _ _ q => by cases q)) rfl ⟨_, rfl⟩) RE)
    have hml : (ms.filterMap fun j => ks₁[j]?.map Value.ref).length ≤ 1000 := Nat.le_trans (List.length_filterMap_le _ _) (Nat.le_trans RE.len.1 (Nat.le_trans hi R₁.small))
    have hul : (us.filterMap fun j => ks₂[j]?.map Value.ref).length ≤ 1000 := Nat.le_trans (List.length_filterMap_le _ _) (Nat.le_trans RE.len.2 (Nat.le_trans hj R₂.small))
    k_steps
    · rename_i ke ae hke hae hre _ ka aa hka haa hra _ _ _ fr9 Fs9 SU9 hc _ n9 h5 F5 N5
      have hlt1 : i + 1 ≤ as₁.length := (List.getElem?_eq_some_iff.mp hae).1
      have hge := @skip_ge c ae as₁ (i + 1)
      have hle := skip_le (c := c) (e := ae) hlt1
      have RX := Reach.lt RE hae haa hc
      rw [snoc_at hke] at N5
      refine whl_start 0 ?_
      refine skip_loop0 (c := c) (new := [(au, W.listOf (us.filterMap fun j => ks₂[j]?.map Value.ref).toArray ku), (am, W.listOf ((ms ++ [i]).filterMap fun j => ks₁[j]?.map Value.ref).toArray n9)]) (frs := frs) KC R₁ hre hl X' T' rfl hd hu rfl rfl rfl (by decide) (by decide) (by decide) (by decide) (by decide) (by dsimp only [ek]; passes_own) (fun _ _ _ => .inl hh) (off2 apu apm) (i + 1) ?_ ?_ _ (i + 1) h5 _ _ _ fr9 (Nat.le_refl _) hlt1 rfl SU9 Fs9 F5 N5 (by kd_p) (by kd_p) (by kd_p) (fun _ _ => rfl)
      · intro h6 tk6 fr6 t6 m9 hlt6 SU6 Fs6 F6 N6 mi6 mr6
        (try dsimp only)
        k_steps
        show WhlRest _ _ _ _ _ _ _ _ _ 0 _
        rw [decide_eq_false (by omega)] at RX
        exact ih _ (by omega) _ _ (i10_14 _ j _ us t6 tj m9 fr6 n9 ku rfl hle hj RX SU6 Fs6 F6 N6 ((mr6 _ (by decide)).trans (by kd_p)) ((mr6 _ (by decide)).trans (by kd_p)) mi6 ((mr6 _ (by decide)).trans (by kd_p)) ((mr6 _ (by decide)).trans (by kd_p)) ((mr6 _ (by decide)).trans (by kd_p)))
      · intro h6 h7 tk6 fr6 t6 m9 e6 hge6 SU6 Fs6 F6 N6 mi6 mr6 x6
        rw [decide_eq_true hge6] at RX
        exact hE e6 h6 h7 tk6 _ m9 fr6 (i8_13 _ j _ us t6 tj n9 ku hle hj RX SU6 Fs6 F6 N6 ((mr6 _ (by decide)).trans (by kd_p)) ((mr6 _ (by decide)).trans (by kd_p)) mi6 ((mr6 _ (by decide)).trans (by kd_p)) ((mr6 _ (by decide)).trans (by kd_p)) ((mr6 _ (by decide)).trans (by kd_p))) x6
    · rename_i ke ae hke hae hre _ ka aa hka haa hra _ _ _ _ _ _ hn1 _ _ fr9 Fs9 SU9 hc _ n9 h5 F5 N5
      have hlt1 : j + 1 ≤ as₂.length := (List.getElem?_eq_some_iff.mp haa).1
      have hge := @skip_ge c aa as₂ (j + 1)
      have hle := skip_le (c := c) (e := aa) hlt1
      have RX := Reach.gt RE hae haa hn1 hc
      rw [snoc_at hka] at N5
      refine whl_start 0 ?_
      refine skip_loop0 (c := c) (new := [(au, W.listOf ((us ++ [j]).filterMap fun j => ks₂[j]?.map Value.ref).toArray n9), (am, W.listOf (ms.filterMap fun j => ks₁[j]?.map Value.ref).toArray km)]) (frs := frs) KC R₂ hra hl X' T' rfl hd hu rfl rfl rfl (by decide) (by decide) (by decide) (by decide) (by decide) (by dsimp only [ek]; passes_own) (fun _ _ _ => .inl hh) (off2 apu apm) (j + 1) ?_ ?_ _ (j + 1) h5 _ _ _ fr9 (Nat.le_refl _) hlt1 rfl SU9 Fs9 F5 N5 (by kd_p) (by kd_p) (by kd_p) (fun _ _ => rfl)
      · intro h6 tk6 fr6 t6 m9 hlt6 SU6 Fs6 F6 N6 mi6 mr6
        (try dsimp only)
        k_steps
        show WhlRest _ _ _ _ _ _ _ _ _ 0 _
        rw [decide_eq_false (by omega)] at RX
        exact ih _ (by omega) _ _ (i10_14 i _ ms _ ti t6 m9 fr6 km n9 rfl hi hle RX SU6 Fs6 F6 N6 ((mr6 _ (by decide)).trans (by kd_p)) ((mr6 _ (by decide)).trans (by kd_p)) ((mr6 _ (by decide)).trans (by kd_p)) mi6 ((mr6 _ (by decide)).trans (by kd_p)) ((mr6 _ (by decide)).trans (by kd_p)))
      · intro h6 h7 tk6 fr6 t6 m9 e6 hge6 SU6 Fs6 F6 N6 mi6 mr6 x6
        rw [decide_eq_true hge6] at RX
        exact hE e6 h6 h7 tk6 _ m9 fr6 (i8_13 i _ ms _ ti t6 km n9 hi hle RX SU6 Fs6 F6 N6 ((mr6 _ (by decide)).trans (by kd_p)) ((mr6 _ (by decide)).trans (by kd_p)) ((mr6 _ (by decide)).trans (by kd_p)) mi6 ((mr6 _ (by decide)).trans (by kd_p)) ((mr6 _ (by decide)).trans (by kd_p))) x6
    · rename_i ke ae hke hae hre _ ka aa hka haa hra _ _ _ _ _ _ hn1 _ _ fr9 Fs9 SU9 hn2 h5 F5 N5
      have hlt1 : i + 1 ≤ as₁.length := (List.getElem?_eq_some_iff.mp hae).1
      have hlt2 : j + 1 ≤ as₂.length := (List.getElem?_eq_some_iff.mp haa).1
      have hge1 := @skip_ge c ae as₁ (i + 1)
      have hle1 := skip_le (c := c) (e := ae) hlt1
      have hge2 := @skip_ge c aa as₂ (j + 1)
      have hle2 := skip_le (c := c) (e := aa) hlt2
      have RX := Reach.eq RE hae haa hn1 hn2
      refine wpAny_Try_finally ?_
      refine wpAny_execs_cons ?_
      refine whl_start 0 ?_
      refine skip_loop0 (c := c) (new := [(au, W.listOf (us.filterMap fun j => ks₂[j]?.map Value.ref).toArray ku), (am, W.listOf (ms.filterMap fun j => ks₁[j]?.map Value.ref).toArray km)]) (frs := frs) KC R₁ hre hl X' T' rfl hd hu rfl rfl rfl (by decide) (by decide) (by decide) (by decide) (by decide) (by passes_own) (fun _ _ _ => .inl hh) (off2 apu apm) (i + 1) ?_ ?_ _ (i + 1) h5 _ _ _ fr9 (Nat.le_refl _) hlt1 rfl SU9 Fs9 F5 N5 (by kd_p) (by kd_p) (by kd_p) (fun _ _ => rfl)
      · intro h6 tk6 fr6 t6 m9 hlt6 SU6 Fs6 F6 N6 mi6 mr6
        have q1 : m9 (Str.ofString "expected") = some (.ref e₁) := (mr6 _ (by decide)).trans (by kd_p)
        have q2 : m9 (Str.ofString "actual") = some (.ref e₂) := (mr6 _ (by decide)).trans (by kd_p)
        have q3 : m9 (Str.ofString "j") = some (.int (j : Nat) tj) := (mr6 _ (by decide)).trans (by kd_p)
        have q4 : m9 (Str.ofString "missing") = some (.ref am) := (mr6 _ (by decide)).trans (by kd_p)
        have q5 : m9 (Str.ofString "unexpected") = some (.ref au) := (mr6 _ (by decide)).trans (by kd_p)
        have q6 : m9 (Str.ofString "a") = some (.ref ka) := (mr6 _ (by decide)).trans (by kd_p)
        simp only [List.cons_append, List.nil_append] at N6
        clear F5 N5 mr6 Fs9 SU9 m1 m2 m3 m4 m5 m6
        refine wpAny_pure ?_
        refine wpAny_pure ?_
        k_steps
        rename_i h8 F8 N8
        refine whl_start 0 ?_
        refine skip_loop0 (c := c) (new := [(au, W.listOf (us.filterMap fun j => ks₂[j]?.map Value.ref).toArray ku), (am, W.listOf (ms.filterMap fun j => ks₁[j]?.map Value.ref).toArray km)]) (frs := frs) KC R₂ hra hl X' T' rfl hd hu rfl rfl rfl (by decide) (by decide) (by decide) (by decide) (by decide) (passes_noted (SameStack.refl _)) (fun _ _ _ => .inl hh) (off2 apu apm) (j + 1) ?_ ?_ _ (j + 1) h8 _ _ _ fr6 (Nat.le_refl _) hlt2 rfl SU6 Fs6 F8 N8 (by kd_p) (by kd_p) (by kd_p) (fun _ _ => rfl)
        · intro h10 tk10 fr10 t10 m10 hlt10 SU10 Fs10 F10 N10 mi10 mr10
          (try dsimp only)
          k_steps
          show WhlRest _ _ _ _ _ _ _ _ _ 0 _
          rw [decide_eq_false (by omega), decide_eq_false (by omega)] at RX
          exact ih _ (by omega) _ _ (i10_14 _ _ ms us t6 t10 m10 fr10 km ku rfl hle1 hle2 RX SU10 Fs10 F10 N10 ((mr10 _ (by decide)).trans (by kd_p)) ((mr10 _ (by decide)).trans (by kd_p)) ((mr10 _ (by decide)).trans (by kd_p)) mi10 ((mr10 _ (by decide)).trans (by kd_p)) ((mr10 _ (by decide)).trans (by kd_p)))
        · intro h10 h11 tk10 fr10 t10 m10 e10 hge10 SU10 Fs10 F10 N10 mi10 mr10 x10
          rw [decide_eq_true hge10, Bool.or_true] at RX
          refine note_new (Around.frames_deeper hl) Fs10 x10 F10 N10 (off2 (apart_up SU10 apu) (apart_up SU10 apm)) (fun h12 fr12 T ob oT SU12 Fs12 F12 N12 O hne12 hap12 => ?_) rfl
          refine came_back (s := { s with heap := h12, toks := tk10 }) F12 N12 O hne12 (fun p hp => (hap12 p hp).2) (fun h13 oT13 F13 N13 O13 => ?_)
          exact hEh e10 T ob oT13 h13 tk10 _ m10 fr12 (i8_13 _ _ ms us t6 t10 km ku hle1 hle2 RX (SU10.trans SU12) Fs12 F13 (fun p hp => N13 p (.tail _ (.tail _ hp))) ((mr10 _ (by decide)).trans (by kd_p)) ((mr10 _ (by decide)).trans (by kd_p)) ((mr10 _ (by decide)).trans (by kd_p)) mi10 ((mr10 _ (by decide)).trans (by kd_p)) ((mr10 _ (by decide)).trans (by kd_p)))
            (fun p hp => N13 p ((List.mem_cons.mp hp).elim (fun q => q ▸ .head _) fun hp => List.mem_singleton.mp hp ▸ .tail _ (.head _))) O13 hne12 (hap12 _ (.tail _ (.head _))).2 (hap12 _ (.head _)).2 (fun p hp => (hap12 p (.tail _ (.tail _ hp))).2)
      · intro h6 h7 tk6 fr6 t6 m9 e6 hge6 SU6 Fs6 F6 N6 mi6 mr6 x6
        rw [decide_eq_true hge6, Bool.true_or] at RX
        have q1 : m9 (Str.ofString "expected") = some (.ref e₁) := (mr6 _ (by decide)).trans (by kd_p)
        have q2 : m9 (Str.ofString "actual") = some (.ref e₂) := (mr6 _ (by decide)).trans (by kd_p)
        have q3 : m9 (Str.ofString "j") = some (.int (j : Nat) tj) := (mr6 _ (by decide)).trans (by kd_p)
        have q4 : m9 (Str.ofString "missing") = some (.ref am) := (mr6 _ (by decide)).trans (by kd_p)
        have q5 : m9 (Str.ofString "unexpected") = some (.ref au) := (mr6 _ (by decide)).trans (by kd_p)
        have q6 : m9 (Str.ofString "a") = some (.ref ka) := (mr6 _ (by decide)).trans (by kd_p)
        clear F5 N5 mr6 Fs9 SU9 m1 m2 m3 m4 m5 m6
        refine note_new (Around.frames_deeper hl) Fs6 x6 F6 N6 (off2 (apart_up SU6 apu) (apart_up SU6 apm)) (fun h8 fr8 T ob oT SU8 Fs8 F8 N8 O hne8 hap8 => ⟨ref_ne_byPass _, ?_⟩) rfl
        refine note_again (s := { s with heap := h8, toks := tk6 }) N8 O ?_
        refine flight_to (s := { s with heap := h8, toks := tk6 }) (fl' := none) F8 N8 O hne8 (fun p hp => (hap8 p hp).2) (fun h9 oT9 F9 N9 O9 => ?_)
        replace SU8 := SU6.trans SU8
        have hoe : OffAll frs e6 := off_back SU8 fun p hp => (hap8 p (.tail _ (.tail _ hp))).1
        have hoT : OffAll frs T := off_back SU8 fun p hp => (hap8 p (.tail _ (.tail _ hp))).2
        have hTm := (hap8 _ (.tail _ (.head _))).2
        have hTu := (hap8 _ (.head _)).2
        have O10 : HeldO "IndexError" .none .none ob oT9 T := by
          have O11 : HeldO "IndexError" (A.handled.getD .none) .none ob oT9 T := O9
          rw [hh] at O11
          exact O11
        clear F8 N8 F6 N6 Fs6 SU6 O O9 hap8 x6
        simp only [List.cons_append, List.nil_append] at N9
        k_steps
        rename_i h10 F10 N10
        refine whl_start 0 ?_
        refine skip_loop (hd := some (.ref e6)) (c := c) (new := [(e6, ob), (T, oT9), (au, W.listOf (us.filterMap fun j => ks₂[j]?.map Value.ref).toArray ku), (am, W.listOf (ms.filterMap fun j => ks₁[j]?.map Value.ref).toArray km)]) (frs := frs) KC R₂ hra hl X' T' rfl hd hu rfl rfl rfl (by decide) (by decide) (by decide) (by decide) (by decide) (passes_noted (SameStack.refl _)) (fun h frs N => calm_in N O10) ?_ (j + 1) ?_ ?_ _ (j + 1) h10 _ _ _ fr8 (Nat.le_refl _) hlt2 rfl SU8 Fs8 F10 N10 (by kd_p) (by kd_p) (by kd_p) (fun _ _ => rfl)
        · intro p hp
          refine mc1 hp ?_ fun hp => ?_
          · exact hoe
          · refine mc1 hp ?_ fun hp => ?_
            · exact hoT
            · exact off2 apu apm p hp
        · intro h12 tk12 fr12 t12 m12 hlt12 SU12 Fs12 F12 N12 mi12 mr12
          have hr12 : ∀ p ∈ (au, W.listOf (us.filterMap fun j => ks₂[j]?.map Value.ref).toArray ku) :: (am, W.listOf (ms.filterMap fun j => ks₁[j]?.map Value.ref).toArray km) :: fr12, p.1 ≠ T := by
            intro p hp
            refine mc1 hp ?_ fun hp => ?_
            · exact hTu
            · refine mc1 hp ?_ fun hp => ?_
              · exact hTm
              · exact hoT.use SU12 p hp
          refine wpAny_pure ?_
          refine pass_on (s := { s with heap := h12, toks := tk12 }) F12 N12 O10 hne8 hr12 (fun h13 oT13 F13 N13 O13 => ?_)
          exact hEh e6 T ob oT13 h13 tk12 _ m12 fr12 (i8_13 _ _ ms us t6 t12 km ku hle1 hle2 RX SU12 Fs12 F13 (fun p hp => N13 p (.tail _ (.tail _ hp))) ((mr12 _ (by decide)).trans (by kd_p)) ((mr12 _ (by decide)).trans (by kd_p)) ((mr12 _ (by decide)).trans (by kd_p)) mi12 ((mr12 _ (by decide)).trans (by kd_p)) ((mr12 _ (by decide)).trans (by kd_p)))
            (fun p hp => N13 p ((List.mem_cons.mp hp).elim (fun q => q ▸ .head _) fun hp => List.mem_singleton.mp hp ▸ .tail _ (.head _))) O13 hne8 hTm hTu (hoT.use SU12)
        · intro h12 h13 tk12 fr12 t12 m12 e12 hge12 SU12 Fs12 F12 N12 mi12 mr12 x12
          have hap12 : ∀ p ∈ [(e6, ob), (T, oT9), (au, W.listOf (us.filterMap fun j => ks₂[j]?.map Value.ref).toArray ku), (am, W.listOf (ms.filterMap fun j => ks₁[j]?.map Value.ref).toArray km)], p.1 ∉ fr12.map (·.1) := by
            intro p hp
            refine mc1 hp ?_ fun hp => ?_
            · exact apart_up SU12 hoe
            · refine mc1 hp ?_ fun hp => ?_
              · exact apart_up SU12 hoT
              · exact off2 (apart_up SU12 apu) (apart_up SU12 apm) p hp
          refine note_new (A := (A.deeper _).mark (some (.ref e6))) (Around.frames_deeper hl) Fs12 x12 F12 N12 hap12 (fun h14 fr14 T2 ob2 oT2 SU14 Fs14 F14 N14 O14 hne14 hap14 => ?_) rfl
          refine came_back (s := { s with heap := h14, toks := tk12 }) F14 N14 O14 hne14 (fun p hp => (hap14 p hp).2) (fun h15 oT15 F15 N15 O15 => ?_)
          exact hEh e12 T2 ob2 oT15 h15 tk12 _ m12 fr14 (i8_13 _ _ ms us t6 t12 km ku hle1 hle2 RX (SU12.trans SU14) Fs14 F15 (fun p hp => N15 p (.tail _ (.tail _ (.tail _ (.tail _ hp))))) ((mr12 _ (by decide)).trans (by kd_p)) ((mr12 _ (by decide)).trans (by kd_p)) ((mr12 _ (by decide)).trans (by kd_p)) mi12 ((mr12 _ (by decide)).trans (by kd_p)) ((mr12 _ (by decide)).trans (by kd_p)))
            (fun p hp => N15 p ((List.mem_cons.mp hp).elim (fun q => q ▸ .head _) fun hp => List.mem_singleton.mp hp ▸ .tail _ (.head _))) O15 hne14 (hap14 _ (.tail _ (.tail _ (.tail _ (.head _))))).2 (hap14 _ (.tail _ (.tail _ (.head _)))).2 (fun p hp => (hap14 p (.tail _ (.tail _ (.tail _ (.tail _ hp))))).2)
    · rename_i ke ae hke hae hre h5 F5 N5 hz h7 tk7 e7 x7
      exact hE e7 h5 h7 tk7 _ _ frs' (i8_13 i j ms us ti tj km ku hi hj (RE.endJ (List.getElem?_eq_some_iff.mp hae).1 hz) SU Fs F5 N5 (by kd_p) (by kd_p) (by kd_p) (by kd_p) (by kd_p) (by kd_p)) x7
    · rename_i hz h7 tk7 e7 x7
      exact hE e7 h h7 tk7 _ m frs' (i8_13 i j ms us ti tj km ku hi hj (RE.endI hz) SU Fs F N m1 m2 m3 m4 m5 m6) x7

end Mine
end PartC5b

section PartC6
open PySem PySem.W PyProof.Rows PySem.Calls
set_option Elab.async false
set_option maxRecDepth 100000
set_option maxHeartbeats 8000000
set_option linter.unusedVariables false
set_option rowWalk.seconds 0
namespace Mine
theorem start_C6 {M : Model} {A : Around} {env : Env} {E : Value → Shared → Prop} {s : Shared} {Q : Flow → Shared → Prop} (h : Q .next s) : wpAny M A (execs [] env) Q E s := by
  w_top off
  walk1
  exact h
open TI (Frs SameUp)
inductive UReach (c : Rec → Rec → Int) (xs ys : List Rec) : Nat → List Nat → List Nat → Prop
  | start : UReach c xs ys xs.length [] (List.range ys.length)
  | hit {i ms ids j e x} : UReach c xs ys (i + 1) ms ids → xs[i]? = some e → ids[j]? = some x → c (ys.getD x (0, 0, 0)) e = 0 → (∀ j' x', j' < j → ids[j']? = some x' → c (ys.getD x' (0, 0, 0)) e ≠ 0) → UReach c xs ys i ms (ids.eraseIdx j)
  | miss {i ms ids e} : UReach c xs ys (i + 1) ms ids → xs[i]? = some e → (∀ x, x ∈ ids → c (ys.getD x (0, 0, 0)) e ≠ 0) → UReach c xs ys i (ms ++ [i]) ids
theorem UReach.in_ {c : Rec → Rec → Int} {xs ys : List Rec} {i : Nat} {ms ids : List Nat} (x : UReach c xs ys i ms ids) : i ≤ xs.length ∧ ms.length + i ≤ xs.length ∧ ids.length ≤ ys.length ∧ ∀ z ∈ ids, z < ys.length := by
  induction x with
  | start => exact ⟨Nat.le_refl _, by simp, by simp, fun z hz => List.mem_range.mp hz⟩
  | @hit i ms ids j e x _ _ hj _ _ ih => exact ⟨by omega, by omega, Nat.le_trans (List.length_eraseIdx_le _ _) ih.2.2.1, fun z hz => ih.2.2.2 z (List.mem_of_mem_eraseIdx hz)⟩
  | @miss i ms ids e _ _ _ ih => exact ⟨by omega, by rw [List.length_append, List.length_singleton]; omega, ih.2.2⟩
noncomputable def keysAt (ks : List Addr) (ps : List Nat) : List Value := (ps.map fun j => ks.getD j 0).map Value.ref
theorem keysAt_snoc (ks : List Addr) (ps : List Nat) (i : Nat) (k : Addr) (h : ks[i]? = some k) : keysAt ks ps ++ [Value.ref k] = keysAt ks (ps ++ [i]) := by
  unfold keysAt
  rw [List.map_append, List.map_append]
  simp [List.getD, h]
theorem last_snoc (p : List Value) (y : Value) : kl_last (p ++ [y]) = some (p, y) := by
  induction p with
  | nil => rfl
  | cons a p ih =>
    cases p with
    | nil => rfl
    | cons b p =>
      show (match kl_last (b :: p ++ [y]) with | some (p, y) => some (a :: p, y) | none => some ([], a)) = _
      rw [ih]
theorem made_viewH {A : Around} {hid : List Addr} {g h : Heap} {L a : Addr} {o : Obj} {l : List Env} {frs news new : List (Addr × Obj)} (hl : A.frames = some l) (Fs : Frs l frs) (N : News g L h news) (S : Split news new frs) (ha : (a, o) ∈ news) (hn : ∀ es n, o.data ≠ .dict es n) (hx : a ∉ hid) : (view A hid h).get? a = some o := by
  refine view_of (fun q => (List.mem_append.mp q).elim hx fun q => ?_) (N.get ha)
  rw [show fsA A = frs.map (·.1) by unfold fsA; rw [hl]; exact Fs.addrs] at q
  exact apart_data Fs N S ha hn q
theorem take_snoc {ks : List Addr} {i : Nat} {k : Addr} (h : ks[i]? = some k) : (ks.take (i + 1)).map Value.ref = (ks.take i).map Value.ref ++ [Value.ref k] := by
  rw [List.take_add_one, h, List.map_append]; rfl
theorem off3 {frs : List (Addr × Obj)} {a b d : Addr} {o o' o'' : Obj} (x : OffAll frs a) (y : OffAll frs b) (z : OffAll frs d) : ∀ p ∈ [(a, o), (b, o'), (d, o'')], p.1 ∉ frs.map (·.1) := by
  intro p hp
  refine mc1 hp ?_ fun hp => ?_
  · exact x
  · exact off2 y z p hp
noncomputable def UldInv (c : Rec → Rec → Int) (ks₁ ks₂ : List Addr) (as₁ as₂ : List Rec) (g : Heap) (L am e₁ e₂ : Addr) (l : List Env) (frs : List (Addr × Obj)) (i : Nat) (h : Heap) : Prop :=
  ∃ ms ids m frs' km k1 k2, UReach c as₁ as₂ i ms ids ∧ SameUp frs frs' ∧ Frs l frs' ∧ Fr g L h m ∧
    News g L h ((am, W.listOf (keysAt ks₁ ms).toArray km) :: (e₁, W.listOf ((ks₁.take i).map Value.ref).toArray k1) :: (e₂, W.listOf (keysAt ks₂ ids).toArray k2) :: frs') ∧
    m (Str.ofString "expected") = some (.ref e₁) ∧ m (Str.ofString "actual") = some (.ref e₂) ∧ m (Str.ofString "missing") = some (.ref am)
local macro_rules | `(tactic| walk_at "getMethod ref") => `(tactic| (k_here; k_dflt (refine kl_method (by k_asm) (by k_mem) PySem.F.slot_list_remove PySem.F.type_list_remove ?_)))
local macro_rules | `(tactic| walk_at "call builtin:list.pop") => `(tactic| (k_here; (refine kl_pop (by k_asm) (by k_asm) (last_snoc _ _) (by k_upd) (by simp [sizeLine]; omega) ?_); intro h9 F9 N9))
local macro_rules | `(tactic| walk_at "call builtin:list.remove") => `(tactic| isplit)
theorem c_uld {w : World} {A : Around} {s : Shared} {C e₁ e₂ : Addr} {c : Rec → Rec → Int} {ks₁ ks₂ : List Addr} {as₁ as₂ : List Rec} {n1 n2 : Nat}
    (H : Here w A [e₁, e₂] s.heap) (hh : A.handled = none) (hd : A.depth + 40 < recursionLimit) (hu : A.units + 700 < cLine) (KC : KeyCls w (view A [e₁, e₂] s.heap) C c) (rfl_ : ∀ a, c a a = 0) (hne : e₁ ≠ e₂)
    (h1 : s.heap.get? e₁ = some (W.listOf (ks₁.map Value.ref).toArray n1)) (h2 : s.heap.get? e₂ = some (W.listOf (ks₂.map Value.ref).toArray n2)) (l1 : ks₁.length = as₁.length) (l2 : ks₂.length = as₂.length) (s1 : as₁.length ≤ 1000) (s2 : as₂.length ≤ 1000)
    (R₁ : ∀ (i : Nat) (k : Addr) (a : Rec), ks₁[i]? = some k → as₁[i]? = some a → KeyRec (view A [e₁, e₂] s.heap) C k a) (R₂ : ∀ (i : Nat) (k : Addr) (a : Rec), ks₂[i]? = some k → as₂[i]? = some a → KeyRec (view A [e₁, e₂] s.heap) C k a) :
    QuietB w A (call (.ref 28) [.ref e₁, .ref e₂]) s [e₁, e₂] (fun r h => ∃ t a ms ids n1' n2', r = .ref t ∧ IsTup (view A [e₁, e₂] h) t #[.ref a, .ref e₂] ∧ (view A [e₁, e₂] h).IsList a (keysAt ks₁ ms).toArray ∧ h.get? e₁ = some (W.listOf #[] n1') ∧ h.get? e₂ = some (W.listOf (keysAt ks₂ ids).toArray n2') ∧ UReach c as₁ as₂ 0 ms ids) := by
  intro Q E ret
  have X := H.frag
  have XS : (Mine.hd.heap_1 w.params).In s.heap := X.keeps view_le
  revert XS X; k_fill; intro X XS
  refine wpAny_call ?_
  k_dflt (refine' enter_m (cl := []) (hid := [e₁, e₂]) (news := [(e₁, W.listOf (ks₁.map Value.ref).toArray n1), (e₂, W.listOf (ks₂.map Value.ref).toArray n2)]) H ?hN (XS 28 _ (by k_is)) ?hd (codeRec_of XS ?hc) (by omega) ?hb ?hl ?_ ?hcell ?hco ?hg ?hk; (case hN => (intro p hp; refine mc1 hp ?_ fun hp => ?_; exact ⟨h1, .head _⟩; rcases List.mem_singleton.mp hp with rfl; exact ⟨h2, .tail _ (.head _)⟩)); (case hd => exact rfl); (case hc => k_is); (case hb => exact BindsTo.of_eq rfl); (case hl => exact locs rfl); (case hcell => decide); (case hco => exact rfl); (case hg => exact rfl); (case hk => exact rfl))
  clear XS X
  intro l frs p loose mean mg mb L h' I' X' T' F' N'
  have hl := I'.hl
  have Fs := I'.fs
  have SU := SameUp.refl frs
  have ap1 : OffAll frs e₁ := fun q => by (obtain q81 := List.mem_map.mp q
                                           with_reducible refine x1_2 q81 fun x hx e => ?_
                                           clear q81); exact frs_ne I' h1 (fun _ _ q => by cases q) x hx e
  have ap2 : OffAll frs e₂ := fun q => by (obtain q82 := List.mem_map.mp q
                                           with_reducible refine x1_2 q82 fun x hx e => ?_
                                           clear q82); exact frs_ne I' h2 (fun _ _ q => by cases q) x hx e
  have q1 : e₁ < L := Nat.lt_of_lt_of_le (Heap.lt_size h1) I'.above
  have q2 : e₂ < L := Nat.lt_of_lt_of_le (Heap.lt_size h2) I'.above
  generalize hg : view A [e₁, e₂] s.heap = g at *
  simp only [List.cons_append, List.nil_append] at N'
  (try dsimp only)
  refine wpAny_mono (E := fun _ _ => False) ?_ (fun _ _ h => h) (fun _ _ h => h.elim)
  (try k_fold)
  k_steps
  refine whl_start 0 ?_
  rename_i am _ lm h2 F2 N2
  have apm : OffAll frs am := apart_lt (allLt_mem lm.2.2)
  have I0 : UldInv c ks₁ ks₂ as₁ as₂ g L am e₁ e₂ l frs as₁.length h2 := (i7_8 [] (List.range as₂.length) _ frs 0 n1 n2 .start SU Fs F2 (by
    rw [← l1, ← l2, List.take_length, show keysAt ks₂ (List.range ks₂.length) = ks₂.map Value.ref by
      unfold keysAt
      congr 1
      apply List.ext_getElem?
      intro i
      by_cases hi : i < ks₂.length
      · simp [List.getElem?_range hi, hi, List.getD]
      · simp [hi]]
    exact N2) rfl rfl rfl)
  have z1 : @LT.lt Nat _ e₁ am := lm.1
  have z2 : @LT.lt Nat _ e₂ am := lm.2.1
  have z3 : @Ne Nat e₁ e₂ := hne
  clear F2 N2 lm Fs SU
  revert I0
  refine (fun K I0 => K _ _ _ I0 : (∀ (n : Nat) (h : Heap) (tk : Nat), UldInv c ks₁ ks₂ as₁ as₂ g L am e₁ e₂ l frs n h → WhlRest _ _ _ _ _ _ _ _ _ 0 { s with heap := h, toks := tk }) → _ → _) ?_
  intro n
  induction n with
  | zero =>
    (intro h tk h9q; (refine x7_1 h9q fun ms ids m frs' km k1 k2 q9z => x0_8 q9z fun RE SU Fs F N m1 m2 m3 => ?_
                      clear q9z
                      try clear h9q))
    refine whl_turn (k := 0) PassesOwn.never ?_
    refine isTrue_plain (local_name F m1 (wpAny_truthy_list (N.isList (.tail _ (.head _))) (by simp) ?_) rfl rfl (by decide))
    refine WhlIf.no (by simp) ?_
    refine wpAny_pure ?_
    (try dsimp only)
    k_steps
    show Q _ _
    rename_i D3 h5 F5 N5 l5
    subst hg
    have hD : D3 ∉ [e₁, e₂] := fun q => by
      rcases List.mem_cons.mp q with q | q
      · exact absurd q (Nat.ne_of_gt l5.2.1)
      · exact absurd (List.mem_singleton.mp q) (Nat.ne_of_gt l5.2.2.1)
    have hM : am ∉ [e₁, e₂] := fun q => by
      rcases List.mem_cons.mp q with q | q
      · exact absurd q (Nat.ne_of_gt z1)
      · exact absurd (List.mem_singleton.mp q) (Nat.ne_of_gt z2)
    exact ret _ h5 _ (ext_of I'.hl I'.fs I'.fr F5 N5 SU (by kwd_rel) I'.above) (i6_6 D3 am ms ids k1 k2 rfl (i1_3 _ (made_viewH I'.hl Fs N5 (by kwd_rel) (.head _) (fun _ _ q => by cases q) hD) rfl ⟨_, rfl⟩) (i1_3 _ (made_viewH I'.hl Fs N5 (by kwd_rel) (.tail _ (.head _)) (fun _ _ q => by cases q) hM) rfl ⟨_, rfl⟩) (N5.get (.tail _ (.tail _ (.head _)))) (N5.get (.tail _ (.tail _ (.tail _ (.head _))))) RE)
  | succ i ih =>
    (intro h tk h9q; (refine x7_1 h9q fun ms ids m frs' km k1 k2 q9z => x0_8 q9z fun RE SU Fs F N m1 m2 m3 => ?_
                      clear q9z
                      try clear h9q))
    have hb := RE.in_
    have hi : i < as₁.length := by omega
    obtain ⟨e, he⟩ : ∃ e, as₁[i]? = some e := ⟨as₁[i], List.getElem?_eq_getElem hi⟩
    obtain ⟨k, hk⟩ : ∃ k, ks₁[i]? = some k := ⟨ks₁[i]'(by omega), List.getElem?_eq_getElem _⟩
    have hkm : (keysAt ks₁ ms).length ≤ 1000 := by unfold keysAt; simp only [List.length_map]; omega
    have hk1 : ks₁.length ≤ 1000 := by omega
    rw [take_snoc hk] at N
    refine whl_turn (k := 0) PassesOwn.never ?_
    refine isTrue_plain (local_name F m1 (wpAny_truthy_list (N.isList (.tail _ (.head _))) ?_ ?_) rfl rfl (by decide))
    · simp only [List.size_toArray, List.length_append, List.length_map, List.length_take, List.length_cons, List.length_nil]; omega
    refine WhlIf.yes (by simp) ?_
    k_steps
    rename_i h5 F5 N5
    refine wpAny_Try_except ?_
    k_fold
    have hE : ∀ (x : Addr) (h1 h3 : Heap) (tk1 : Nat) (cc : Value) (frs1 : List (Addr × Obj)) (m1 : Str → Option Value) (j1 : Nat), (∀ z, z ∈ ids → c (as₂.getD z (0, 0, 0)) e ≠ 0) → SameUp frs frs1 → Frs l frs1 → Fr g L h1 m1 →
        News g L h1 ((am, W.listOf (keysAt ks₁ ms).toArray km) :: (e₁, W.listOf ((ks₁.take i).map Value.ref).toArray j1) :: (e₂, W.listOf (keysAt ks₂ ids).toArray k2) :: frs1) →
        m1 (Str.ofString "expected") = some (.ref e₁) → m1 (Str.ofString "actual") = some (.ref e₂) → m1 (Str.ofString "missing") = some (.ref am) → m1 (Str.ofString "item") = some (.ref k) → NewX h1 h3 x "ValueError" cc → ek (.ref x) { s with heap := h3, toks := tk1 } := by
      clear F5 N5 m1 m2 m3 SU Fs
      intro x h1 h3 tk1 cc frs1 m j1 hno SU Fs F N m1 m2 m3 m4 hx
      show ToClauses _ _ _ _ _ _ _ _ _
      refine caught_new (new := [(am, W.listOf (keysAt ks₁ ms).toArray km), (e₁, W.listOf ((ks₁.take i).map Value.ref).toArray j1), (e₂, W.listOf (keysAt ks₂ ids).toArray k2)]) (Around.frames_deeper hl) Fs hx F N (off3 (apart_up SU apm) (apart_up SU ap1) (apart_up SU ap2)) X' (topRead_of T') (by k_is) (fun h4 frs4 SU4 Fs4 F4 N4 => ?_) rfl rfl
      simp only [List.cons_append, List.nil_append] at N4
      replace SU4 := SU.trans SU4
      clear F N SU Fs
      (try dsimp only)
      (try k_fold)
      k_steps
      show WhlRest _ _ _ _ _ _ _ _ _ 0 _
      rename_i h9 n9 F9 N9
      rw [keysAt_snoc _ _ _ _ hk] at N9
      exact ih _ _ (i7_8 _ ids _ frs4 n9 j1 k2 (.miss RE he hno) SU4 Fs4 F9 N9 m1 m2 m3)
    k_steps
    have g1 : ∀ z ∈ ids, ks₂[z]? = some (ks₂.getD z 0) ∧ as₂[z]? = some (as₂.getD z (0, 0, 0)) := fun z hz => by
      have h9 := hb.2.2.2 z hz
      have h8 : z < ks₂.length := by omega
      simp [List.getD, h9, h8]
    refine remove_keys (new := [(am, W.listOf (keysAt ks₁ ms).toArray km), (e₁, W.listOf ((ks₁.take i).map Value.ref).toArray (k1 + 1)), (e₂, W.listOf (keysAt ks₂ ids).toArray k2)]) (js := ids.map fun z => ks₂.getD z 0) (bs := ids.map fun z => as₂.getD z (0, 0, 0)) KC rfl_ hh hl Fs F5 N5 X' T' (off3 (apart_up SU apm) (apart_up SU ap1) (apart_up SU ap2)) rfl hd hu
      (UpdF.tail (Nat.ne_of_gt z2) (UpdF.tail z3 (UpdF.head fun _ h => nomatch h))) (by simp) (by simp only [List.length_map]; omega) ?_ (R₁ i k e hk he) ?_ ?_
    · intro i' k' b h8 h9
      rw [List.getElem?_map] at h8 h9
      cases hz : ids[i']? with
      | none => rw [hz] at h8; cases h8
      | some z =>
        rw [hz] at h8 h9
        cases h8
        cases h9
        have := g1 z (List.mem_of_getElem? hz)
        exact R₂ z _ _ this.1 this.2
    · intro j h6 tk6 n6 fr6 hj hhit hno SU6 Fs6 F6 N6
      rw [erase_map] at N6
      have hj' : j < ids.length := by simpa using hj
      have hxj : ids[j]? = some ids[j] := List.getElem?_eq_getElem hj'
      have RX : UReach c as₁ as₂ i ms (ids.eraseIdx j) := .hit RE he hxj (hhit _ (by rw [List.getElem?_map, hxj]; rfl)) (fun j' x' hj1 hx1 => hno j' _ hj1 (by rw [List.getElem?_map, hx1]; rfl))
      (try dsimp only)
      k_steps
      show WhlRest _ _ _ _ _ _ _ _ _ 0 _
      exact ih _ _ (i7_8 ms _ _ fr6 km (k1 + 1) n6 RX (SU.trans SU6) Fs6 F6 N6 (by kd_p) (by kd_p) (by kd_p))
    · intro h6 h7 tk6 x6 fr6 hno SU6 Fs6 F6 N6 hx6
      refine hE x6 h6 h7 tk6 _ fr6 _ (k1 + 1) (fun z hz => ?_) (SU.trans SU6) Fs6 F6 N6 (by kd_p) (by kd_p) (by kd_p) (by kd_p) hx6
      obtain ⟨j, hj⟩ := List.getElem?_of_mem hz
      exact hno j _ (by rw [List.getElem?_map, hj]; rfl)

end Mine
end PartC6

end MacCC
section PartNew1
open PySem PySem.W PyProof.Rows PySem.Calls
set_option Elab.async false
set_option maxRecDepth 100000
set_option maxHeartbeats 4000000
set_option rowWalk.seconds 0
namespace Mine
theorem start_New1 {M : Model} {A : Around} {env : Env} {E : Value → Shared → Prop} {s : Shared} {Q : Flow → Shared → Prop} (h : Q .next s) : wpAny M A (execs [] env) Q E s := by
  w_top off
  walk1
  exact h
noncomputable def nsE (hs : Nat → Int) (ts : Nat → Tok) (sl fi fl fg fe fle fge st : Addr) : Array DictEntry := #[⟨hs 1, .str "__module__" (ts 1), .str "cpy313.functools" (ts 13)⟩, ⟨hs 2, .str "__qualname__" (ts 2), .str "cmp_to_key.<locals>.K" (ts 14)⟩, ⟨hs 3, .str "__firstlineno__" (ts 3), .int 48 (ts 15)⟩, ⟨hs 4, .str "__slots__" (ts 4), .ref sl⟩, ⟨hs 5, .str "__init__" (ts 5), .ref fi⟩, ⟨hs 6, .str "__lt__" (ts 6), .ref fl⟩, ⟨hs 7, .str "__gt__" (ts 7), .ref fg⟩, ⟨hs 8, .str "__eq__" (ts 8), .ref fe⟩, ⟨hs 9, .str "__le__" (ts 9), .ref fle⟩, ⟨hs 10, .str "__ge__" (ts 10), .ref fge⟩, ⟨hs 11, .str "__hash__" (ts 11), .none⟩, ⟨hs 12, .str "__static_attributes__" (ts 12), .ref st⟩]
noncomputable def nsK (hs : Nat → Int) (ts : Nat → Tok) (sl fi fl fg fe fle fge st : Addr) (more : List DictEntry) : Array DictEntry := ⟨(⟨hs 1, .str "__module__" (ts 1), .str "cpy313.functools" (ts 13)⟩ : DictEntry) :: (⟨hs 3, .str "__firstlineno__" (ts 3), .int 48 (ts 15)⟩ : DictEntry) :: (⟨hs 4, .str "__slots__" (ts 4), .ref sl⟩ : DictEntry) :: (⟨hs 5, .str "__init__" (ts 5), .ref fi⟩ : DictEntry) :: (⟨hs 6, .str "__lt__" (ts 6), .ref fl⟩ : DictEntry) :: (⟨hs 7, .str "__gt__" (ts 7), .ref fg⟩ : DictEntry) :: (⟨hs 8, .str "__eq__" (ts 8), .ref fe⟩ : DictEntry) :: (⟨hs 9, .str "__le__" (ts 9), .ref fle⟩ : DictEntry) :: (⟨hs 10, .str "__ge__" (ts 10), .ref fge⟩ : DictEntry) :: (⟨hs 11, .str "__hash__" (ts 11), .none⟩ : DictEntry) :: (⟨hs 12, .str "__static_attributes__" (ts 12), .ref st⟩ : DictEntry) :: more⟩
theorem slots_read {w : World} {A : Around} {h : Heap} {g : Array GenState} {d : Drawn} {t : Nat} {os : OsState} {sl fi fl fg fe fle fge st : Addr} {hs : Nat → Int} {ts : Nat → Tok} {t16 : Tok} {Q : Builtin.Slots.Plan → Shared → Prop} {E : Value → Shared → Prop}
  (hsl : h.get? sl = some ⟨.type "list", none, .seq #[.str "obj" t16] 0, #[]⟩)
  (hQ : ∀ h', (∀ b o', h.get? b = some o' → h'.get? b = some o') → Q { names := ["obj"], dict := false, weak := false, inherited := [] } ⟨h', g, d, t, os⟩)
 : wpAny (model Challenge.rw_mg0030_01.row.prog w) A (Builtin.Slots.read "K" [.type "object"] (nsE hs ts sl fi fl fg fe fle fge st)) Q E ⟨h, g, d, t, os⟩ := by
  have e9 : isSubtype (.type "list") (.type "str") = pure false := by kernel_rfl
  have e15 : Builtin.Slots.givesWeak (.type "object") = pure false := by kernel_rfl
  have e16 : Builtin.Slots.varSize (.type "object") = pure false := by kernel_rfl
  have e17 : Builtin.Slots.bestBase [.type "object"] = pure (.type "object") := by kernel_rfl
  have e18 : Builtin.Slots.givesDict (.type "object") = pure false := by kernel_rfl
  have e20 : Builtin.Slots.slotNamesOf (.type "object") = pure [] := by kernel_rfl
  have ef : (nsE hs ts sl fi fl fg fe fle fge st).find? (·.key.isStr "__slots__") = some ⟨hs 4, .str "__slots__" (ts 4), .ref sl⟩ := by kernel_rfl
  unfold Builtin.Slots.read
  refine wpAny_bind (wpAny_of_eq e17 (wpAny_bind (wpAny_of_eq e20 (wpAny_bind (wpAny_of_eq e18 (wpAny_bind (wpAny_of_eq e15 (wpAny_bind (wpAny_of_eq e16 ?_)))))))))
  rw [ef]
  wp_walk using wpAny_collect_seq sl (.inl rfl) hsl rfl rfl
  intro h' hk
  have i1 : Builtin.Slots.isIdentifier (Str.ofString "obj") = some true := by kernel_rfl
  have i2 : Builtin.Slots.mangle (Str.ofString "K") (Str.ofString "obj") = Str.ofString "obj" := by kernel_rfl
  have i3 : ((nsE hs ts sl fi fl fg fe fle fge st).any (·.key.isStr (Str.ofString "obj"))) = false := by kernel_rfl
  wp_walk
  rw [i1]
  wp_walk
  exact Eq.mp (congrArg (fun p => Q p ⟨h', g, d, t, os⟩) (by kernel_rfl)) (hQ h' hk)
theorem slots_read' {w : World} {A : Around} {h : Heap} {g : Array GenState} {d : Drawn} {t : Nat} {os : OsState} {sl fi fl fg fe fle fge st : Addr} {hs : Nat → Int} {ts : Nat → Tok} {t16 : Tok} {Q : Builtin.Slots.Plan → Shared → Prop} {E : Value → Shared → Prop} {bs : List Value} (hbs : bs = [.type "object"])
  (hsl : h.get? sl = some ⟨.type "list", none, .seq #[.str "obj" t16] 0, #[]⟩)
  (hQ : ∀ h', (∀ b o', h.get? b = some o' → h'.get? b = some o') → Q { names := ["obj"], dict := false, weak := false, inherited := [] } ⟨h', g, d, t, os⟩)
 : wpAny (model Challenge.rw_mg0030_01.row.prog w) A (Builtin.Slots.read (Str.ofString "K") bs (nsE hs ts sl fi fl fg fe fle fge st)) Q E ⟨h, g, d, t, os⟩ := by
  subst hbs; exact slots_read hsl hQ
theorem not_turned {M : Model} {A : Around} {s : Shared} {Q : Unit → Shared → Prop} {E : Value → Shared → Prop} {bs : List Value} (hbs : bs = [.type "object"]) (hQ : Q () s) : wpAny M A (Builtin.notOverATurnedClass bs) Q E s := by
  subst hbs; exact wpAny_of_eq (by kernel_rfl) hQ
theorem ext_base {M : Model} {A : Around} {s : Shared} {Q : Value → Shared → Prop} {E : Value → Shared → Prop} {bs : List Value} (hbs : bs = [.type "object"]) (hQ : Q (.type "object") s) : wpAny M A (Builtin.extendedBase bs) Q E s := by
  subst hbs; exact wpAny_of_eq (by kernel_rfl) hQ
section
variable {M : Model} {A : Around} {E : Value → Shared → Prop} {h : Heap} {g : Array GenState} {d : Drawn} {t : Nat} {os : OsState} {a : Addr} {o : Obj} {name : Str}
theorem nsGet_x {r : Option Value} {Q : Option Value → Shared → Prop} (ho : h.get? a = some o) (he : nsLook name o = pure r) (hq : Q r ⟨h, g, d, t, os⟩) : wpAny M A (nsGet a name) Q E ⟨h, g, d, t, os⟩ := by
  unfold nsGet
  exact wpAny_bind (wpAny_loadPart ho (wpAny_of_eq he hq))
theorem nsDel_x {Q : Bool → Shared → Prop} (ho : h.get? a = some o) (he : nsHas name o = pure true) (hq : Q true ⟨h.update a (Obj.dropName name), g, d, t, os⟩) : wpAny M A (nsDel a name) Q E ⟨h, g, d, t, os⟩ := by
  unfold nsDel
  refine wpAny_bind (wpAny_loadPart ho (wpAny_bind (wpAny_of_eq he ?_)))
  exact wpAny_bind (wpAny_updatePart ho (wpAny_pure hq))
end
section
variable {prog : Program} {w : World} {A : Around} {E : Value → Shared → Prop} {h : Heap} {g : Array GenState} {d : Drawn} {t : Nat} {os : OsState} {a : Addr} {c : Value} {di : Option Addr} {es : Array DictEntry} {n : Nat} {sl : Array (Option Value)} {name : Str} {v : Value}
theorem nsSet_x {Q : Unit → Shared → Prop} (ho : h.get? a = some ⟨c, di, .dict es n, sl⟩) (hr : aRefKeyMayBeTheName name es = false)
    (hq : ∀ hs, Q () ⟨h.update a (Obj.putName name hs (.str name t) v), g, d, t + 1, os⟩) : wpAny (model prog w) A (nsSet a name v) Q E ⟨h, g, d, t, os⟩ := by
  unfold nsSet strHash
  refine wpAny_bind (wpAny_bind (wpAny_askSetting (wpAny_pure ?_)))
  unfold mkText
  refine wpAny_bind (wpAny_bind (wpAny_fresh (wpAny_pure ?_)))
  refine wpAny_bind (wpAny_loadPart ho ?_)
  show wpAny _ _ (if aRefKeyMayBeTheName name es = true then _ else _) _ _ _
  rw [hr]
  exact wpAny_updatePart ho (hq _)
end
theorem nsGet_any {M : Model} {A : Around} {s : Shared} {Q : Option Value → Shared → Prop} {E : Value → Shared → Prop} {a : Addr} {n : Str} (h : False) : wpAny M A (nsGet a n) Q E s := h.elim
theorem nsDel_any {M : Model} {A : Around} {s : Shared} {Q : Bool → Shared → Prop} {E : Value → Shared → Prop} {a : Addr} {n : Str} (h : False) : wpAny M A (nsDel a n) Q E s := h.elim
theorem nsSet_any {M : Model} {A : Around} {s : Shared} {Q : Unit → Shared → Prop} {E : Value → Shared → Prop} {a : Addr} {n : Str} {v : Value} (h : False) : wpAny M A (nsSet a n v) Q E s := h.elim
theorem slots_any {M : Model} {A : Around} {s : Shared} {Q : Builtin.Slots.Plan → Shared → Prop} {E : Value → Shared → Prop} {n : Str} {bs : List Value} {es : Array DictEntry} (h : False) : wpAny M A (Builtin.Slots.read n bs es) Q E s := h.elim
theorem lin_any {M : Model} {A : Around} {s : Shared} {Q : List Value → Shared → Prop} {E : Value → Shared → Prop} {bs : List Value} {f : Value → Sem (List Value)} (h : False) : wpAny M A (Builtin.linearize bs f) Q E s := h.elim
theorem call_any {M : Model} {A : Around} {s : Shared} {Q : Value → Shared → Prop} {E : Value → Shared → Prop} {f : Value} {as : List Value} {kw : List (Str × Value)} (h : False) : wpAny M A (call f as kw) Q E s := h.elim
theorem keep_push {h0 h : Heap} {o : Obj} (k : ∀ b x, h0.get? b = some x → h.get? b = some x) : ∀ b x, h0.get? b = some x → (h.push o).get? b = some x := fun b x e => Heap.get?_push_of_some _ (k b x e)
theorem keep_upd {h0 h : Heap} {a : Addr} {f : Obj → Obj} (ha : h0.get? a = none) (k : ∀ b x, h0.get? b = some x → h.get? b = some x) : ∀ b x, h0.get? b = some x → (h.update a f).get? b = some x := fun b x e =>
  (Heap.get?_update_other h f (fun q => by subst q; rw [ha] at e; cases e)).trans (k b x e)
theorem gen3 {M : Model} {A : Around} {α : Type} {t : Sem α} {Q : α → Shared → Prop} {E : Value → Shared → Prop} {h0 h2 : Heap} {g : Array GenState} {d : Drawn} {tk : Nat} {os : OsState} {N C : Addr} {oN oC : Obj}
    (f1 : h2.get? N = some oN) (f2 : h2.get? C = some oC) (f3 : ∀ b o, h0.get? b = some o → h2.get? b = some o)
    (K : ∀ h2', h2'.get? N = some oN → h2'.get? C = some oC → (∀ b o, h0.get? b = some o → h2'.get? b = some o) → wpAny M A t Q E ⟨h2', g, d, tk, os⟩) : wpAny M A t Q E ⟨h2, g, d, tk, os⟩ := K h2 f1 f2 f3
theorem none_of {h0 h : Heap} {a : Addr} (k : ∀ b x, h0.get? b = some x → h.get? b = some x) (hz : h.objs.size ≤ a) : h0.get? a = none := by
  cases e : h0.get? a with
  | none => rfl
  | some o => exact absurd (Heap.lt_size (k _ _ e)) (Nat.not_lt.mpr hz)
section
variable {M : Model} {A : Around} {E : Value → Shared → Prop} {h0 h : Heap} {g : Array GenState} {d : Drawn} {t : Nat} {os : OsState} {N C : Addr} {oN oC : Obj} {name : Str}
theorem setSlot_any {Q : Unit → Shared → Prop} {s : Shared} {a : Addr} {i : Nat} {v : Option Value} (h : False) : wpAny M A (setSlotAt a i v) Q E s := h.elim
theorem updCls_any {Q : Unit → Shared → Prop} {s : Shared} {a : Addr} {f : ClassData → ClassData} (h : False) : wpAny M A (updateCls a f) Q E s := h.elim
theorem setSlot_C {c : Value} {di : Option Addr} {dt : Data} {sl : Array (Option Value)} {i : Nat} {v : Option Value} (sl' : Array (Option Value)) {Q : Unit → Shared → Prop} (f1 : h.get? N = some oN) (f2 : h.get? C = some ⟨c, di, dt, sl⟩) (f3 : ∀ b o, h0.get? b = some o → h.get? b = some o) (hNC : N ≠ C) (zC : h0.get? C = none)
    (hi : i < 16) (hfr : (⟨c, di, dt, sl'⟩ : Obj).isFreed = false) (hf : (sl ++ Array.replicate (i + 1 - sl.size) none).setIfInBounds i v = sl')
    (K : ∀ h', h'.get? N = some oN → h'.get? C = some ⟨c, di, dt, sl'⟩ → (∀ b o, h0.get? b = some o → h'.get? b = some o) → Q () ⟨h', g, d, t, os⟩) : wpAny M A (setSlotAt C i v) Q E ⟨h, g, d, t, os⟩ := by
  unfold setSlotAt
  show wpAny M A (if i ≥ sizeLine then _ else updatePart C _ _) _ _ _
  rw [if_neg (by rw [sizeLine_eq]; omega)]
  refine wpAny_updatePart f2 (K _ ?_ ?_ ?_)
  · exact Heap.get?_update_of_ne _ (Ne.symm hNC) f1
  · have := Heap.get?_update_self (fun o : Obj => { o with slots := (o.slots ++ Array.replicate (i + 1 - o.slots.size) none).setIfInBounds i v }) f2 (by dsimp only; rw [hf]; exact hfr)
    dsimp only at this
    rw [hf] at this
    exact this
  · exact keep_upd zC f3
theorem updCls_C {c : Value} {di : Option Addr} {cd : ClassData} {sl : Array (Option Value)} {f : ClassData → ClassData} (cd' : ClassData) {Q : Unit → Shared → Prop} (f1 : h.get? N = some oN) (f2 : h.get? C = some ⟨c, di, .cls cd, sl⟩) (f3 : ∀ b o, h0.get? b = some o → h.get? b = some o) (hNC : N ≠ C) (zC : h0.get? C = none)
    (hf : f cd = cd') (hp : (Data.cls cd').pastItsLine = none)
    (K : ∀ h', h'.get? N = some oN → h'.get? C = some ⟨c, di, .cls cd', sl⟩ → (∀ b o, h0.get? b = some o → h'.get? b = some o) → Q () ⟨h', g, d, t, os⟩) : wpAny M A (updateCls C f) Q E ⟨h, g, d, t, os⟩ := by
  subst hf
  unfold updateCls
  refine wpAny_bind (wpAny_load f2 ?_)
  refine wpAny_bind (wpAny_update f2 ?_)
  have e : (h.update C (Obj.mapCls f)).get? C = some ⟨c, di, .cls (f cd), sl⟩ := Heap.get?_update_self (Obj.mapCls f) f2 rfl
  have k := K (h.update C (Obj.mapCls f)) (Heap.get?_update_of_ne _ (Ne.symm hNC) f1) e (keep_upd zC f3)
  unfold lookBehind
  refine wpAny_bind (wpAny_loadPart e ?_)
  dsimp only
  rw [hp]
  exact wpAny_pure k
theorem nsGet_N {r : Option Value} {Q : Option Value → Shared → Prop} (f1 : h.get? N = some oN) (he : nsLook name oN = pure r) (hq : Q r ⟨h, g, d, t, os⟩) : wpAny M A (nsGet N name) Q E ⟨h, g, d, t, os⟩ := nsGet_x f1 he hq
theorem nsDel_N (oN' : Obj) {Q : Bool → Shared → Prop} (f1 : h.get? N = some oN) (f2 : h.get? C = some oC) (f3 : ∀ b o, h0.get? b = some o → h.get? b = some o) (hNC : N ≠ C) (zN : h0.get? N = none)
    (he : nsHas name oN = pure true) (hf : Obj.dropName name oN = oN') (hfr : oN'.isFreed = false)
    (K : ∀ h', h'.get? N = some oN' → h'.get? C = some oC → (∀ b o, h0.get? b = some o → h'.get? b = some o) → Q true ⟨h', g, d, t, os⟩) : wpAny M A (nsDel N name) Q E ⟨h, g, d, t, os⟩ := by
  subst hf
  exact nsDel_x f1 he (K _ (Heap.get?_update_self _ f1 hfr) (Heap.get?_update_of_ne _ hNC f2) (keep_upd zN f3))
end
section
variable {prog : Program} {w : World} {A : Around} {E : Value → Shared → Prop} {h0 h : Heap} {g : Array GenState} {d : Drawn} {t : Nat} {os : OsState} {N C : Addr} {oC : Obj} {c : Value} {di : Option Addr} {es : Array DictEntry} {n : Nat} {sl : Array (Option Value)} {name : Str} {v : Value}
theorem nsSet_N (oN' : Int → Tok → Obj) {Q : Unit → Shared → Prop} (f1 : h.get? N = some ⟨c, di, .dict es n, sl⟩) (f2 : h.get? C = some oC) (f3 : ∀ b o, h0.get? b = some o → h.get? b = some o) (hNC : N ≠ C) (zN : h0.get? N = none)
    (hr : aRefKeyMayBeTheName name es = false) (hf : ∀ hs t, Obj.putName name hs (.str name t) v ⟨c, di, .dict es n, sl⟩ = oN' hs t) (hfr : ∀ hs t, (oN' hs t).isFreed = false)
    (K : ∀ h' hs tk, h'.get? N = some (oN' hs t) → h'.get? C = some oC → (∀ b o, h0.get? b = some o → h'.get? b = some o) → Q () ⟨h', g, d, tk, os⟩) : wpAny (model prog w) A (nsSet N name v) Q E ⟨h, g, d, t, os⟩ := by
  refine nsSet_x f1 hr fun hs => K _ hs _ ?_ (Heap.get?_update_of_ne _ hNC f2) (keep_upd zN f3)
  have := Heap.get?_update_self (Obj.putName name hs (.str name t) v) f1 (by rw [hf]; exact hfr hs t)
  rw [hf] at this
  exact this
end
theorem lin_base {M : Model} {A : Around} {s : Shared} {Q : List Value → Shared → Prop} {E : Value → Shared → Prop} {bs : List Value} (hbs : bs = [.type "object"]) (hQ : Q [.type "object"] s) : wpAny M A (Builtin.linearize bs mroOf) Q E s := by
  subst hbs; exact wpAny_of_eq (by kernel_rfl) hQ
theorem mro_rest {C : Addr} : List.filter (fun x => x != Value.ref C) [Value.ref C, .type "object"] = [Value.type "object"] := by
  rw [List.filter_cons, if_neg (by simp)]
  rfl
section
variable {M : Model} {A : Around} {E : Value → Shared → Prop} {h0 h : Heap} {g : Array GenState} {d : Drawn} {t : Nat} {os : OsState} {N C : Addr} {oN oC : Obj} {name : Str}
theorem lk_any {s : Shared} {Q : Option Value → Shared → Prop} (h : False) : wpAny M A (typeLookup (.ref C) name) Q E s := h.elim
theorem own_C {c : Value} {di : Option Addr} {cd : ClassData} {sl : Array (Option Value)} {r : Option Value} {Q : Option Value → Shared → Prop} (f1 : h.get? N = some oN) (f2 : h.get? C = some ⟨c, di, .cls cd, sl⟩) (hns : cd.ns = N)
    (he : nsLook name oN = pure r) (hq : Q r ⟨h, g, d, t, os⟩) : wpAny M A (classOwn (.ref C) name) Q E ⟨h, g, d, t, os⟩ := by
  unfold classOwn
  refine wpAny_bind ?_
  unfold classData
  refine wpAny_bind (wpAny_load f2 (wpAny_pure ?_))
  rw [hns]
  exact nsGet_x f1 he hq
theorem lookup_C {c : Value} {di : Option Addr} {cd : ClassData} {sl : Array (Option Value)} {r r0 : Option Value} {Q : Option Value → Shared → Prop} (f1 : h.get? N = some oN) (f2 : h.get? C = some ⟨c, di, .cls cd, sl⟩) (hns : cd.ns = N) (hm : cd.mro = [.ref C, .type "object"])
    (he : nsLook name oN = pure r) (hB : typeLookup (.type "object") name = pure r0) (hq : Q (match r with | some v => some v | none => r0) ⟨h, g, d, t, os⟩) : wpAny M A (typeLookup (.ref C) name) Q E ⟨h, g, d, t, os⟩ := by
  have hb : mroOf (.type "object") = pure [.type "object"] := by kernel_rfl
  have hrest : lookupAlong [.type "object"] name = pure r0 := by rw [typeLookup_eq, hb] at hB; exact hB
  rw [typeLookup_eq]
  refine wpAny_bind ?_
  unfold mroOf
  refine wpAny_bind ?_
  unfold classData
  refine wpAny_bind (wpAny_load f2 (wpAny_pure (wpAny_pure ?_)))
  rw [hm, lookupAlong_cons]
  refine wpAny_bind (own_C f1 f2 hns he ?_)
  cases r with
  | some v => exact wpAny_pure hq
  | none => rw [hrest]; exact wpAny_pure hq
theorem push_NC {C0 : Prop} {o : Obj} {Q : Heap → Prop} (f1 : h.get? N = some oN) (f2 : h.get? C = some oC) (f3 : ∀ b o, h0.get? b = some o → h.get? b = some o) (hfr : o.isFreed = false)
    (K : ∀ h' a, h'.get? N = some oN → h'.get? C = some oC → (∀ b o, h0.get? b = some o → h'.get? b = some o) → h'.get? a = some o → h0.get? a = none → a = h.objs.size → h' = h.push o → Q h') : Q (h.push o) :=
  K _ h.objs.size (Heap.get?_push_of_some _ f1) (Heap.get?_push_of_some _ f2) (fun b o e => Heap.get?_push_of_some _ (f3 b o e)) (Heap.get?_push_size _ hfr) (none_of f3 (Nat.le_refl _)) rfl rfl
end
end Mine
end PartNew1

section PartNew2
open PySem PySem.W PyProof.Rows PySem.Calls PySem.W.X
set_option Elab.async false
set_option maxRecDepth 100000
set_option maxHeartbeats 4000000
set_option linter.unusedVariables false
set_option rowWalk.seconds 0
namespace Mine
local macro_rules | `(tactic| x_close) => `(tactic| repeat ((fail_if_success with_reducible first | refine nsGet_any ?_ | refine nsDel_any ?_ | refine nsSet_any ?_ | refine lin_any ?_ | refine call_any ?_ | refine setSlot_any ?_ | refine updCls_any ?_ | refine lk_any ?_); wp_step))
noncomputable def mdObj (C : Addr) (t : Tok) : Obj := ⟨.type "member_descriptor", none, .fields #[.str "obj" t, .ref C, .builtin "proto.slot", .builtin "proto.slot#set", rawInt 0], #[]⟩
noncomputable def clsK (C N : Addr) (s : List Str) : ClassData := { name := "K", bases := [.type "object"], mro := [.ref C, .type "object"], ns := N, qualname := "cmp_to_key.<locals>.K", slotNames := s, hasDict := false }
section
variable {M : Model} {A : Around} {E : Value → Shared → Prop} {h0 h h2 : Heap} {g : Array GenState} {d : Drawn} {t : Nat} {os : OsState} {N C md : Addr} {oN oC om : Obj} {name : Str}
structure New3 (h0 : Heap) (N C md : Addr) (oN oC om : Obj) (h : Heap) : Prop where
  n : h.get? N = some oN
  c : h.get? C = some oC
  m : h.get? md = some om
  old : ∀ b o, h0.get? b = some o → h.get? b = some o
structure Apart3 (h0 : Heap) (N C md : Addr) : Prop where
  nc : N ≠ C
  nm : N ≠ md
  cm : C ≠ md
  zn : h0.get? N = none
  zc : h0.get? C = none
  zm : h0.get? md = none
theorem gen4 {α : Type} {x : Sem α} {Q : α → Shared → Prop} (f : New3 h0 N C md oN oC om h2)
    (K : ∀ h2', New3 h0 N C md oN oC om h2' → wpAny M A x Q E ⟨h2', g, d, t, os⟩) : wpAny M A x Q E ⟨h2, g, d, t, os⟩ := K h2 f
theorem setSlot_3 {c : Value} {di : Option Addr} {dt : Data} {sl : Array (Option Value)} {i : Nat} {v : Option Value} (sl' : Array (Option Value)) {Q : Unit → Shared → Prop} (f : New3 h0 N C md oN ⟨c, di, dt, sl⟩ om h) (a : Apart3 h0 N C md)
    (hi : i < 16) (hfr : (⟨c, di, dt, sl'⟩ : Obj).isFreed = false) (hf : (sl ++ Array.replicate (i + 1 - sl.size) none).setIfInBounds i v = sl')
    (K : ∀ h', New3 h0 N C md oN ⟨c, di, dt, sl'⟩ om h' → Q () ⟨h', g, d, t, os⟩) : wpAny M A (setSlotAt C i v) Q E ⟨h, g, d, t, os⟩ := by
  unfold setSlotAt
  show wpAny M A (if i ≥ sizeLine then _ else updatePart C _ _) _ _ _
  rw [if_neg (by rw [sizeLine_eq]; omega)]
  refine wpAny_updatePart f.c (K _ ⟨Heap.get?_update_of_ne _ (Ne.symm a.nc) f.n, ?_, Heap.get?_update_of_ne _ a.cm f.m, keep_upd a.zc f.old⟩)
  have := Heap.get?_update_self (fun o : Obj => { o with slots := (o.slots ++ Array.replicate (i + 1 - o.slots.size) none).setIfInBounds i v }) f.c (by dsimp only; rw [hf]; exact hfr)
  dsimp only at this
  rw [hf] at this
  exact this
theorem updCls_3 {c : Value} {di : Option Addr} {cd : ClassData} {sl : Array (Option Value)} {fn : ClassData → ClassData} (cd' : ClassData) {Q : Unit → Shared → Prop} (f : New3 h0 N C md oN ⟨c, di, .cls cd, sl⟩ om h) (a : Apart3 h0 N C md)
    (hf : fn cd = cd') (hp : (Data.cls cd').pastItsLine = none)
    (K : ∀ h', New3 h0 N C md oN ⟨c, di, .cls cd', sl⟩ om h' → Q () ⟨h', g, d, t, os⟩) : wpAny M A (updateCls C fn) Q E ⟨h, g, d, t, os⟩ := by
  subst hf
  unfold updateCls
  refine wpAny_bind (wpAny_load f.c ?_)
  refine wpAny_bind (wpAny_update f.c ?_)
  have e : (h.update C (Obj.mapCls fn)).get? C = some ⟨c, di, .cls (fn cd), sl⟩ := Heap.get?_update_self (Obj.mapCls fn) f.c rfl
  have k := K (h.update C (Obj.mapCls fn)) ⟨Heap.get?_update_of_ne _ (Ne.symm a.nc) f.n, e, Heap.get?_update_of_ne _ a.cm f.m, keep_upd a.zc f.old⟩
  unfold lookBehind
  refine wpAny_bind (wpAny_loadPart e ?_)
  dsimp only
  rw [hp]
  exact wpAny_pure k
end
section
variable {prog : Program} {w : World} {A : Around} {E : Value → Shared → Prop} {h0 h : Heap} {g : Array GenState} {d : Drawn} {t : Nat} {os : OsState} {N C md : Addr} {oC om : Obj} {c : Value} {di : Option Addr} {es : Array DictEntry} {n : Nat} {sl : Array (Option Value)} {name : Str} {v : Value}
theorem nsSet_3 (oN' : Int → Tok → Obj) {Q : Unit → Shared → Prop} (f : New3 h0 N C md ⟨c, di, .dict es n, sl⟩ oC om h) (a : Apart3 h0 N C md)
    (hr : aRefKeyMayBeTheName name es = false) (hf : ∀ hs t, Obj.putName name hs (.str name t) v ⟨c, di, .dict es n, sl⟩ = oN' hs t) (hfr : ∀ hs t, (oN' hs t).isFreed = false)
    (K : ∀ h' hs tk, New3 h0 N C md (oN' hs t) oC om h' → Q () ⟨h', g, d, tk, os⟩) : wpAny (model prog w) A (nsSet N name v) Q E ⟨h, g, d, t, os⟩ := by
  refine nsSet_x f.n hr fun hs => K _ hs _ ⟨?_, Heap.get?_update_of_ne _ a.nc f.c, Heap.get?_update_of_ne _ a.nm f.m, keep_upd a.zn f.old⟩
  have := Heap.get?_update_self (Obj.putName name hs (.str name t) v) f.n (by rw [hf]; exact hfr hs t)
  rw [hf] at this
  exact this
end
theorem install_C {w : World} {A : Around} {E : Value → Shared → Prop} {h0 h : Heap} {g : Array GenState} {d : Drawn} {t : Nat} {os : OsState} {N C : Addr} {c : Value} {di : Option Addr} {slC : Array (Option Value)} {hs : Nat → Int} {ts : Nat → Tok} {sl fi fl fg fe fle fge st : Addr} {bs : List Value} {Q : Unit → Shared → Prop} (hbs : bs = [.type "object"])
    (f1 : h.get? N = some ⟨.type "dict", none, .dict (nsK hs ts sl fi fl fg fe fle fge st []) 1, #[]⟩) (f2 : h.get? C = some ⟨c, di, .cls { name := "K", bases := [.type "object"], mro := [.ref C, .type "object"], ns := N, qualname := "cmp_to_key.<locals>.K" }, slC⟩) (f3 : ∀ b o, h0.get? b = some o → h.get? b = some o) (hNC : N ≠ C) (zN : h0.get? N = none) (zC : h0.get? C = none)
    (K : ∀ h' md ti tj hi tk, Apart3 h0 N C md → New3 h0 N C md ⟨.type "dict", none, .dict (nsK hs ts sl fi fl fg fe fle fge st [⟨hi, .str "obj" ti, .ref md⟩]) 2, #[]⟩ ⟨c, di, .cls (clsK C N ["obj"]), slC⟩ (mdObj C tj) h' → Q () ⟨h', g, d, tk, os⟩) :
    wpAny (model Challenge.rw_mg0030_01.row.prog w) A (Builtin.Slots.install (.ref C) N bs { names := ["obj"], dict := false, weak := false, inherited := [] }) Q E ⟨h, g, d, t, os⟩ := by
  subst hbs
  have e18 : Builtin.Slots.givesDict (.type "object") = pure false := by kernel_rfl
  unfold Builtin.Slots.install
  x_close
  refine nsGet_N (r := none) f1 (by kernel_rfl) ?_
  x_close
  have a9 : Apart3 h0 N C h.objs.size := ⟨hNC, Nat.ne_of_lt (Heap.lt_size f1), Nat.ne_of_lt (Heap.lt_size f2), zN, zC, none_of f3 (Nat.le_refl _)⟩
  refine gen4 (h0 := h0) (N := N) (C := C) (md := h.objs.size) (om := mdObj C t) ⟨Heap.get?_push_of_some _ f1, Heap.get?_push_of_some _ f2, Heap.get?_push_size _ rfl, keep_push f3⟩ ?_
  revert a9
  generalize h.objs.size = md
  intro a9 h2 f
  clear f1 f2 f3
  show wpAny _ _ (nsSet N (Str.ofString "obj") (Value.ref md)) _ _ _
  refine nsSet_3 (fun hi ti => ⟨.type "dict", none, .dict (nsK hs ts sl fi fl fg fe fle fge st [⟨hi, .str "obj" ti, .ref md⟩]) 2, #[]⟩) f a9 (by kernel_rfl) (fun _ _ => by kernel_rfl) (fun _ _ => rfl) ?_
  clear f h2
  intro h2 hi tk f
  x_close
  show wpAny _ _ (updateCls C _) _ _ _
  refine updCls_3 (clsK C N ["obj"]) f a9 (by kernel_rfl) (by kernel_rfl) ?_
  clear f h2
  intro h2 f
  exact K h2 md _ _ hi tk a9 f
theorem install_any {M : Model} {A : Around} {s : Shared} {Q : Unit → Shared → Prop} {E : Value → Shared → Prop} {a : Value} {N : Addr} {bs : List Value} {p : Builtin.Slots.Plan} (h : False) : wpAny M A (Builtin.Slots.install a N bs p) Q E s := h.elim
theorem nsGet_3 {M : Model} {A : Around} {E : Value → Shared → Prop} {h0 h : Heap} {g : Array GenState} {d : Drawn} {t : Nat} {os : OsState} {N C md : Addr} {oN oC om : Obj} {name : Str} {r : Option Value} {Q : Option Value → Shared → Prop} (f : New3 h0 N C md oN oC om h) (he : nsLook name oN = pure r) (hq : Q r ⟨h, g, d, t, os⟩) : wpAny M A (nsGet N name) Q E ⟨h, g, d, t, os⟩ := nsGet_x f.n he hq
end Mine
end PartNew2

section PartNew3
open PySem PySem.W PyProof.Rows PySem.Calls PySem.W.X
set_option Elab.async false
set_option maxRecDepth 100000
set_option maxHeartbeats 0
set_option linter.unusedVariables false
set_option rowWalk.seconds 0
namespace Mine
theorem start_New3 {M : Model} {A : Around} {env : Env} {E : Value → Shared → Prop} {s : Shared} {Q : Flow → Shared → Prop} (h : Q .next s) : wpAny M A (execs [] env) Q E s := by
  w_top off
  walk1
  exact h
noncomputable def oCls (C N bt : Addr) (t0 t14 : Tok) : Obj := ⟨.type "type", none, .cls (clsK C N ["obj"]), #[some (.ref bt), none, some (.str "K" t0), some (.str "cmp_to_key.<locals>.K" t14), some (.builtin "object.__new__"), some (.bool false)]⟩
theorem q_own : classOwn (.type "object") (Str.ofString "__init_subclass__") = pure (some (.builtin "object.__init_subclass__")) := by kernel_rfl
theorem q_ty : typeOf (.builtin "object.__init_subclass__") = pure (.type "classmethod_descriptor") := by kernel_rfl
theorem q_get : typeLookup (.type "classmethod_descriptor") (Str.ofString "__get__") = pure (some (.builtin "classmethod_descriptor.__get__")) := by kernel_rfl
theorem mem_keep {h h' : Heap} {news : List (Addr × Obj)} (D : Mem h h' [] news) : h.StaysIn h' := fun b o e => D.keep b o e (by cases hasCls o <;> rfl)
section
variable {w : World} {A : Around} {h : Heap} {g : Array GenState} {d : Drawn} {tk : Nat} {os : OsState} {C N bt : Addr} {t0 t14 : Tok} {E : Value → Shared → Prop}
set_option hygiene false in
local macro_rules | `(tactic| x_close) => `(tactic| exact ret _ _ (D.at 0 _ _ rfl) (mem_keep D))
theorem sup_get {Q : Value → Shared → Prop} (hC : h.get? C = some (oCls C N bt t0 t14))
    (ret : ∀ a h', h'.get? a = some { cls := .type "builtin_function_or_method", dict := none, data := .fields #[.builtin "object.__init_subclass__", .ref C], slots := #[] } → h.StaysIn h' → Q (.ref a) ⟨h', g, d, tk, os⟩) :
    wpAny (model Challenge.rw_mg0030_01.row.prog w) A (call (.builtin "classmethod_descriptor.__get__") [.builtin "object.__init_subclass__", .none, .ref C]) Q E ⟨h, g, d, tk, os⟩ := by
  unfold oCls clsK at hC
  x_run
theorem sup_make {Q : Value → Shared → Prop} (hC : h.get? C = some (oCls C N bt t0 t14))
    (ret : ∀ a h', h'.get? a = some { cls := .type "super", dict := none, data := .fields #[.ref C, .ref C, .ref C], slots := #[] } → h.StaysIn h' → Q (.ref a) ⟨h', g, d, tk, os⟩) :
    wpAny (model Challenge.rw_mg0030_01.row.prog w) A (call (.type "super") [.ref C, .ref C]) Q E ⟨h, g, d, tk, os⟩ := by
  unfold oCls clsK at hC
  x_run
end
set_option hygiene false in
local macro_rules | `(tactic| x_close) => `(tactic| exact ret)
section
variable {w : World} {A : Around} {h : Heap} {g : Array GenState} {d : Drawn} {tk : Nat} {os : OsState} {C N bt : Addr} {t0 t14 : Tok} {E : Value → Shared → Prop}
theorem sup_call {b : Addr} {Q : Value → Shared → Prop} (hC : h.get? C = some (oCls C N bt t0 t14))
    (hb : h.get? b = some { cls := .type "builtin_function_or_method", dict := none, data := .fields #[.builtin "object.__init_subclass__", .ref C], slots := #[] }) (ret : Q .none ⟨h, g, d, tk, os⟩) :
    wpAny (model Challenge.rw_mg0030_01.row.prog w) A (call (.ref b) []) Q E ⟨h, g, d, tk, os⟩ := by
  unfold oCls clsK at hC
  x_run
theorem for_C {β : Type} {init : β} {f : Value → β → Sem (ForInStep β)} {M : Model} {Q : β → Shared → Prop} {s : Shared} {l : List Value} (hl : l = [.ref C, .type "object"])
    (hh : wpAny M A (f (.type "object") init) (fun r s' => match r with | .done b => Q b s' | .yield b => Q b s') E s) : wpAny M A (forIn ((l.dropWhile (· != .ref C)).drop 1) init f) Q E s := by
  subst hl
  have e : ([Value.ref C, .type "object"].dropWhile (· != .ref C)).drop 1 = [.type "object"] := by
    rw [List.dropWhile_cons_of_neg (by simp)]; rfl
  rw [e, List.forIn_cons]
  refine wpAny_bind (wpAny_mono hh (fun r s' hr => ?_) fun _ _ z => z)
  cases r with
  | done b => exact wpAny_pure hr
  | yield b => exact wpAny_pure hr
theorem q_slot : Slot "super" "__getattribute__" "super.__getattribute__" := PySem.F.ks_slot_super_ga
theorem super_ga {so : Addr} {tk0 : Tok} {Q : Fin → Shared → Prop} (hop : Looks (model Challenge.rw_mg0030_01.row.prog w) h (opaqueClassAbove (.ref C)) none)
    (hso : h.get? so = some { cls := .type "super", dict := none, data := .fields #[.ref C, .ref C, .ref C], slots := #[] })
    (hC : h.get? C = some (oCls C N bt t0 t14))
    (ret : ∀ a h', h'.get? a = some { cls := .type "builtin_function_or_method", dict := none, data := .fields #[.builtin "object.__init_subclass__", .ref C], slots := #[] } → h.StaysIn h' → Q (.done (.ret (.ref a))) ⟨h', g, d, tk, os⟩) :
    wpAny (model Challenge.rw_mg0030_01.row.prog w) A (Builtin.«super.__getattribute__» ⟨[.ref so, .str "__init_subclass__" tk0], []⟩) Q E ⟨h, g, d, tk, os⟩ := by
  have e1 := q_own
  have e2 := q_ty
  have e3 := q_get
  have f0 : (#[.ref C, .ref C, .ref C] : Array Value)[0]? = some (.ref C) := rfl
  have f1 : (#[.ref C, .ref C, .ref C] : Array Value)[1]? = some (.ref C) := rfl
  have f2 : (#[.ref C, .ref C, .ref C] : Array Value)[2]? = some (.ref C) := rfl
  unfold oCls at hC
  unfold Builtin.«super.__getattribute__»
  repeat (first
    | (with_reducible refine wpAny_field hso rfl f0 ?_) | (with_reducible refine wpAny_field hso rfl f1 ?_) | (with_reducible refine wpAny_field hso rfl f2 ?_)
    | (with_reducible refine ks_wpAny_notOpaque hop ?_)
    | (with_reducible refine for_C (show (clsK C N [Str.ofString "obj"]).mro = _ from rfl) ?_)
    | (fail_if_success with_reducible refine call_any ?_); wp_step)
  rw [if_pos (by simp)]
  refine sup_get (show h.get? C = some (oCls C N bt t0 t14) from hC) fun a h' x k => ?_
  repeat wp_step
  exact ret a h' x k
theorem super_attr {so : Addr} {Q : Value → Shared → Prop} (hop : Looks (model Challenge.rw_mg0030_01.row.prog w) h (opaqueClassAbove (.ref C)) none)
    (hso : h.get? so = some { cls := .type "super", dict := none, data := .fields #[.ref C, .ref C, .ref C], slots := #[] })
    (hC : h.get? C = some (oCls C N bt t0 t14))
    (ret : ∀ a h' tk', h'.get? a = some { cls := .type "builtin_function_or_method", dict := none, data := .fields #[.builtin "object.__init_subclass__", .ref C], slots := #[] } → h.StaysIn h' → Q (.ref a) ⟨h', g, d, tk', os⟩) :
    wpAny (model Challenge.rw_mg0030_01.row.prog w) A (getAttr (.ref so) (Str.ofString "__init_subclass__")) Q E ⟨h, g, d, tk, os⟩ := by
  have S := PySem.F.ks_slot_super_ga
  have hlk := S.lookup
  have hT : ∀ t', (⟨h, g, d, t', os⟩ : Shared).TypeIs (.ref so) "super" := fun _ => ⟨_, hso, rfl⟩
  unfold getAttr getAttrBy
  refine wpAny_bind (wpAny_mkText (wpAny_holding (wpAny_bind (wpAny_typeOf (hT _) (wpAny_bind (wpAny_of_eq hlk ?_))))))
  show wpAny _ _ (getAttrByItsOwn (.ref so) (.str "__init_subclass__" tk) (.type "super") (.builtin "super.__getattribute__") true false) _ _ _
  unfold getAttrByItsOwn hookBefore callGetattribute boundAndCalled
  refine wpAny_bind (wpAny_of_eq (show (if onTheHeap (.type "super") then typeLookup (.type "super") "__getattr__" else pure none) = pure none from rfl) ?_)
  refine wpAny_bind (wpAny_attempt (wpAny_holding ?_))
  show wpAny _ _ (bindSpecial (.builtin "super.__getattribute__") (.ref so) >>= _) _ _ _
  refine wpAny_bind (wpAny_of_eq (S.bind _) ?_)
  refine wpAny_mono (Q := fun v s' => ∃ a h', v = .ref a ∧ s' = ⟨h', g, d, tk + 1, os⟩ ∧ h'.get? a = some { cls := .type "builtin_function_or_method", dict := none, data := .fields #[.builtin "object.__init_subclass__", .ref C], slots := #[] } ∧ h.StaysIn h') (E := fun _ _ => False)
    (wpAny_call_entry S (hT _) PySem.F.ks_entry_super_ga (super_ga hop hso hC fun a h' x k => (i1_2 _ rfl (i2_4 a h' rfl rfl x k))) (PySem.F.ks_gaArgs_super _ _)) (fun v s' hv => ?_) fun _ _ z => z.elim
  (with_reducible refine x2_4 hv fun a h' r91 r92 x k => ?_
   try clear hv
   obtain rfl := r91
   obtain rfl := r92)
  exact wpAny_pure (ret a h' _ x k)
end
section
variable {M : Model} {A : Around} {s : Shared} {E : Value → Shared → Prop}
theorem de_any {Q : Array DictEntry → Shared → Prop} {a : Addr} (h : False) : wpAny M A (dictEntries a) Q E s := h.elim
theorem catch_any {α : Type} {m : Sem α} {k : Value → Sem α} {Q : α → Shared → Prop} (h : False) : wpAny M A (Sem.tryCatch m k) Q E s := h.elim
theorem for_any {α β : Type} {xs : Array α} {b : β} {f : α → β → Sem (ForInStep β)} {Q : β → Shared → Prop} (h : False) : wpAny M A (forIn xs b f) Q E s := h.elim
theorem catch_run {α : Type} {m : Sem α} {k : Value → Sem α} {Q : α → Shared → Prop} (h : wpAny M A m Q (fun e s' => wpAny M A (k e) Q E s') s) : wpAny M A (Sem.tryCatch m k) Q E s := wpAny_tryCatch h
theorem de_at {Q : Array DictEntry → Shared → Prop} {a : Addr} {c : Value} {di : Option Addr} {es : Array DictEntry} {n : Nat} {sl : Array (Option Value)} (ho : s.heap.get? a = some ⟨c, di, .dict es n, sl⟩) (h : Q es s) : wpAny M A (dictEntries a) Q E s := by
  unfold dictEntries
  exact wpAny_bind (wpAny_load ho (wpAny_pure h))
theorem for_still {β : Type} {es : Array DictEntry} {b : β} {f : DictEntry → β → Sem (ForInStep β)} {Q : β → Shared → Prop}
    (turn : ∀ e ∈ es.toList, ∀ (Q' : ForInStep β → Shared → Prop), Q' (.yield b) s → wpAny M A (f e b) Q' E s) (h : Q b s) : wpAny M A (forIn es b f) Q E s := by
  refine wpAny_forIn_array' f (fun rest b' s' => b' = b ∧ s' = s ∧ ∀ e ∈ rest, e ∈ es.toList) Q ?_ ?_ es b ⟨rfl, rfl, fun _ h => h⟩
  · (rintro x rest b' s' h9q; obtain ⟨rfl, rfl, hr⟩ := h9q)
    exact turn x (hr x (List.mem_cons_self)) _ ⟨rfl, rfl, fun e he => hr e (List.mem_cons_of_mem _ he)⟩
  · (rintro b' s' h9q; obtain ⟨rfl, rfl, _⟩ := h9q)
    exact h
noncomputable def Dull (h : Heap) (e : DictEntry) : Prop := (∃ x t, e.key = .str x t) ∧ Builtin.laidUnderItsOwnName e.key e.val = false ∧ ∃ T, (∀ g d t os, (⟨h, g, d, t, os⟩ : Shared).TypeIs e.val T) ∧ typeLookup (.type T) (Str.ofString "__set_name__") = pure none
end
end Mine
end PartNew3

section PartNew4
open PySem PySem.W PyProof.Rows PySem.Calls PySem.W.X
set_option Elab.async false
set_option maxRecDepth 100000
set_option maxHeartbeats 4000000
set_option linter.unusedVariables false
set_option rowWalk.seconds 0
namespace Mine
local macro_rules | `(tactic| x_close) => `(tactic| repeat ((fail_if_success with_reducible first | refine nsGet_any ?_ | refine nsDel_any ?_ | refine nsSet_any ?_ | refine lin_any ?_ | refine call_any ?_ | refine setSlot_any ?_ | refine updCls_any ?_ | refine lk_any ?_ | refine install_any ?_ | refine de_any ?_ | refine catch_any ?_ | refine for_any ?_); wp_step))
noncomputable def nsEnd (hs : Nat → Int) (ts : Nat → Tok) (sl fi fl fg fe fle fge st md : Addr) (hi hj : Int) (ti tj : Tok) : Obj := ⟨.type "dict", none, .dict (nsK hs ts sl fi fl fg fe fle fge st [⟨hi, .str "obj" ti, .ref md⟩, ⟨hj, .str "__doc__" tj, .none⟩]) 3, #[]⟩
theorem New3.ext {h0 h h' : Heap} {N C md : Addr} {oN oC om : Obj} (f : New3 h0 N C md oN oC om h) (k : h.StaysIn h') : New3 h0 N C md oN oC om h' := ⟨k _ _ f.n, k _ _ f.c, k _ _ f.m, fun b o e => k _ _ (f.old b o e)⟩
theorem dull_all {h : Heap} {hs : Nat → Int} {ts : Nat → Tok} {sl fi fl fg fe fle fge st md : Addr} {hi hj : Int} {ti tj : Tok}
    (hsl : ∃ o, h.get? sl = some o ∧ o.cls = .type "list") (hfn : ∀ a ∈ [fi, fl, fg, fe, fle, fge], ∃ o, h.get? a = some o ∧ o.cls = .type "function") (hst : ∃ o, h.get? st = some o ∧ o.cls = .type "tuple") (hmd : ∃ o, h.get? md = some o ∧ o.cls = .type "member_descriptor") :
    ∀ e ∈ (nsK hs ts sl fi fl fg fe fle fge st [⟨hi, .str "obj" ti, .ref md⟩, ⟨hj, .str "__doc__" tj, .none⟩]).toList, Dull h e := by
  have l1 : typeLookup (.type "str") (Str.ofString "__set_name__") = pure none := by kernel_rfl
  have l2 : typeLookup (.type "int") (Str.ofString "__set_name__") = pure none := by kernel_rfl
  have l3 : typeLookup (.type "list") (Str.ofString "__set_name__") = pure none := by kernel_rfl
  have l4 : typeLookup (.type "function") (Str.ofString "__set_name__") = pure none := by kernel_rfl
  have l5 : typeLookup (.type "NoneType") (Str.ofString "__set_name__") = pure none := by kernel_rfl
  have l6 : typeLookup (.type "tuple") (Str.ofString "__set_name__") = pure none := by kernel_rfl
  have l7 : typeLookup (.type "member_descriptor") (Str.ofString "__set_name__") = pure none := by kernel_rfl
  have fn : ∀ a ∈ [fi, fl, fg, fe, fle, fge], ∀ x t hh, Dull h ⟨hh, .str x t, .ref a⟩ := fun a ha x t hh => ⟨⟨_, _, rfl⟩, rfl, "function", fun _ _ _ _ => hfn a ha, l4⟩
  unfold nsK
  repeat' (first | exact List.forall_mem_nil _ | refine List.forall_mem_cons.mpr ⟨?_, ?_⟩)
  · exact ⟨⟨_, _, rfl⟩, rfl, "str", fun _ _ _ _ => rfl, l1⟩
  · exact ⟨⟨_, _, rfl⟩, rfl, "int", fun _ _ _ _ => rfl, l2⟩
  · exact ⟨⟨_, _, rfl⟩, rfl, "list", fun _ _ _ _ => hsl, l3⟩
  · exact fn _ (by simp) _ _ _
  · exact fn _ (by simp) _ _ _
  · exact fn _ (by simp) _ _ _
  · exact fn _ (by simp) _ _ _
  · exact fn _ (by simp) _ _ _
  · exact fn _ (by simp) _ _ _
  · exact ⟨⟨_, _, rfl⟩, rfl, "NoneType", fun _ _ _ _ => rfl, l5⟩
  · exact ⟨⟨_, _, rfl⟩, rfl, "tuple", fun _ _ _ _ => hst, l6⟩
  · exact ⟨⟨_, _, rfl⟩, rfl, "member_descriptor", fun _ _ _ _ => hmd, l7⟩
  · exact ⟨⟨_, _, rfl⟩, rfl, "NoneType", fun _ _ _ _ => rfl, l5⟩
theorem c_new {w : World} {A : Around} {h : Heap} {g : Array GenState} {d : Drawn} {t : Nat} {os : OsState} {bt ns sl fi fl fg fe fle fge st : Addr} {hs : Nat → Int} {ts : Nat → Tok} {t0 t16 : Tok} {Q : Fin → Shared → Prop} {E : Value → Shared → Prop}
  (hb : h.get? bt = some ⟨.type "tuple", none, .seq #[.type "object"] 0, #[]⟩)
  (hn : h.get? ns = some ⟨.type "dict", none, .dict (nsE hs ts sl fi fl fg fe fle fge st) 12, #[]⟩)
  (hsl : h.get? sl = some ⟨.type "list", none, .seq #[.str "obj" t16] 0, #[]⟩)
  (hfn : ∀ a ∈ [fi, fl, fg, fe, fle, fge], ∃ o, h.get? a = some o ∧ o.cls = .type "function") (hst : ∃ o, h.get? st = some o ∧ o.cls = .type "tuple")
  (hop : ∀ C, Looks (model Challenge.rw_mg0030_01.row.prog w) h (opaqueClassAbove (.ref C)) none)
  (hnm : (ns == sysModules) = false)
  (ret : ∀ h' N C md hi hj ti tj tm tk, Apart3 h N C md → New3 h N C md (nsEnd hs ts sl fi fl fg fe fle fge st md hi hj ti tj) (oCls C N bt t0 (ts 14)) (mdObj C tm) h' → Q (.done (.ret (.ref C))) ⟨h', g, d, tk, os⟩)
 : wpAny (model Challenge.rw_mg0030_01.row.prog w) A (Builtin.«type.__new__» ⟨[.type "type", .str "K" t0, .ref bt, .ref ns], []⟩) Q E ⟨h, g, d, t, os⟩ := by
  have e1 : isSubtype (.type "tuple") (.type "tuple") = pure true := by kernel_rfl
  have e2 : isSubtype (.type "dict") (.type "dict") = pure true := by kernel_rfl
  have e3 : isType (.type "object") = pure true := by kernel_rfl
  have e4 : typeOf (.type "object") = pure (.type "type") := by kernel_rfl
  have e5 : isSubtype (.type "type") (.type "type") = pure true := by kernel_rfl
  have e6 : Builtin.notOverATurnedClass [.type "object"] = pure () := by kernel_rfl
  have e7 : Builtin.extendedBase [.type "object"] = pure (.type "object") := by kernel_rfl
  have e8 : typeLookup (.type "dict") "__iter__" = pure (some (.builtin "dict.__iter__")) := by kernel_rfl
  repeat (first | ((with_reducible refine not_turned ?_ ?_); focus (kernel_rfl; done)) | ((with_reducible refine ext_base ?_ ?_); focus (kernel_rfl; done)) | ((fail_if_success with_reducible refine slots_any ?_); wp_step))
  with_reducible refine slots_read' ?h1 hsl ?h2
  case h1 => kernel_rfl
  intro h1 k1
  x_close
  refine wpAny_ite_false (by kernel_rfl) ?_
  x_close
  refine wpAny_ite_false (by kernel_rfl) ?_
  x_close
  refine wpAny_ite_false (by kernel_rfl) ?_
  x_close
  (with_reducible apply nsGet_x (r := some (.str "cmp_to_key.<locals>.K" (ts 14)))); (focus (heap_get; done)); (focus kernel_rfl)
  x_close
  (with_reducible apply nsGet_x (r := some (.str "cmp_to_key.<locals>.K" (ts 14)))); (focus (heap_get; done)); (focus kernel_rfl)
  x_close
  (with_reducible apply nsGet_x (r := none)); (focus (heap_get; done)); (focus kernel_rfl)
  x_close
  have zN : h.get? h1.objs.size = none := none_of k1 (Nat.le_refl _)
  have zC : h.get? (h1.push { cls := .type "dict", data := .dict (nsE hs ts sl fi fl fg fe fle fge st) }).objs.size = none := none_of k1 (by rw [Heap.size_push]; exact Nat.le_succ _)
  have hNC : h1.objs.size ≠ (h1.push { cls := .type "dict", data := .dict (nsE hs ts sl fi fl fg fe fle fge st) }).objs.size := by rw [Heap.size_push]; exact Nat.ne_of_lt (Nat.lt_succ_self _)
  (apply gen3 (h0 := h) (N := h1.objs.size) (C := (h1.push { cls := .type "dict", data := .dict (nsE hs ts sl fi fl fg fe fle fge st) }).objs.size) (oC := ⟨.type "type", none, .cls { name := "K", bases := [.type "object"], mro := [], ns := h1.objs.size, qualname := "cmp_to_key.<locals>.K" }, #[]⟩)); (focus (heap_get; done)); (focus exact Heap.get?_push_size _ rfl); (focus (repeat (first | exact k1 | refine keep_push ?_ | refine keep_upd zC ?_ | refine keep_upd zN ?_)))
  clear k1 
  revert zN zC hNC
  generalize (h1.push { cls := .type "dict", data := .dict (nsE hs ts sl fi fl fg fe fle fge st) }).objs.size = C
  generalize h1.objs.size = N
  intro zN zC hNC h2 f1 f2 f3
  have hCN : C ≠ N := Ne.symm hNC
  refine setSlot_C #[some (.ref bt)] f1 f2 f3 hNC zC (by decide) rfl rfl ?_
  clear f1 f2 f3; intro h3 f1 f2 f3
  x_close
  refine setSlot_C #[some (.ref bt), none, some (.str "K" t0)] f1 f2 f3 hNC zC (by decide) rfl rfl ?_
  clear f1 f2 f3; intro h4 f1 f2 f3
  x_close
  refine setSlot_C #[some (.ref bt), none, some (.str "K" t0), some (.str "cmp_to_key.<locals>.K" (ts 14))] f1 f2 f3 hNC zC (by decide) rfl rfl ?_
  clear f1 f2 f3; intro h5 f1 f2 f3
  x_close
  refine nsDel_N ⟨.type "dict", none, .dict (nsK hs ts sl fi fl fg fe fle fge st []) 1, #[]⟩ f1 f2 f3 hNC zN (by kernel_rfl) (by kernel_rfl) rfl ?_
  clear f1 f2 f3; intro h6 f1 f2 f3
  x_close
  refine nsGet_N (r := none) f1 (by kernel_rfl) ?_
  x_close
  refine nsGet_N (r := none) f1 (by kernel_rfl) ?_
  x_close
  refine nsGet_N (r := none) f1 (by kernel_rfl) ?_
  x_close
  refine nsGet_N (r := none) f1 (by kernel_rfl) ?_
  x_close
  refine nsGet_N (r := none) f1 (by kernel_rfl) ?_
  have e13 : Builtin.mroHook? (.type "type") = pure none := by kernel_rfl
  x_close
  refine lin_base (by kernel_rfl) ?_
  x_close
  rw [mro_rest]
  x_close
  refine updCls_C { name := "K", bases := [.type "object"], mro := [.ref C, .type "object"], ns := N, qualname := "cmp_to_key.<locals>.K" } f1 f2 f3 hNC zC (by kernel_rfl) (by kernel_rfl) ?_
  clear f1 f2 f3; intro h7 f1 f2 f3
  have e14 : Bind.madeBy (.type "object") = pure (some "object.__new__") := by kernel_rfl
  have e15 : Builtin.Slots.givesWeak (.type "object") = pure false := by kernel_rfl
  have e18 : Builtin.Slots.givesDict (.type "object") = pure false := by kernel_rfl
  x_close
  refine setSlot_C #[some (.ref bt), none, some (.str "K" t0), some (.str "cmp_to_key.<locals>.K" (ts 14)), some (.builtin "object.__new__")] f1 f2 f3 hNC zC (by decide) rfl rfl ?_
  clear f1 f2 f3; intro h8 f1 f2 f3
  x_close
  refine lookup_C (r := none) (r0 := some (.builtin "object.__new__")) f1 f2 rfl rfl (by kernel_rfl) (by kernel_rfl) ?_
  x_close
  refine wpAny_ite_false (by kernel_rfl) ?_
  x_close
  refine install_C (by kernel_rfl) f1 f2 f3 hNC zN zC ?_
  clear f1 f2 f3 h8
  intro h8 md ti tj hi tk a9 f
  x_close
  refine setSlot_3 #[some (.ref bt), none, some (.str "K" t0), some (.str "cmp_to_key.<locals>.K" (ts 14)), some (.builtin "object.__new__"), some (.bool false)] f a9 (by decide) rfl rfl ?_
  clear f; intro h9 f
  x_close
  refine nsGet_3 (r := none) f (by kernel_rfl) ?_
  x_close
  refine nsSet_3 (fun hj tj => ⟨.type "dict", none, .dict (nsK hs ts sl fi fl fg fe fle fge st [⟨hi, .str "obj" ti, .ref md⟩, ⟨hj, .str "__doc__" tj, .none⟩]) 3, #[]⟩) f a9 (by kernel_rfl) (fun _ _ => by kernel_rfl) (fun _ _ => rfl) ?_
  clear f; intro h10 hj tk9 f
  x_close
  refine nsGet_3 (r := some (.ref fe)) f (by kernel_rfl) ?_
  x_close
  refine nsGet_3 (r := some .none) f (by kernel_rfl) ?_
  x_close
  refine catch_run ?_
  x_close
  refine de_at f.n ?_
  have du := dull_all (hs := hs) (ts := ts) (fi := fi) (fl := fl) (fg := fg) (fe := fe) (fle := fle) (fge := fge) (hi := hi) (hj := hj) (ti := ti) (tj := tk) ⟨_, f.old _ _ hsl, rfl⟩ (fun a ha => let ⟨o, ho, hc⟩ := hfn a ha; ⟨o, f.old _ _ ho, hc⟩) (let ⟨o, ho, hc⟩ := hst; ⟨o, f.old _ _ ho, hc⟩) ⟨_, f.m, rfl⟩
  x_close
  refine for_still (fun e he Q' hq => ?_) ?_
  · (obtain q91 := du e he
     refine x0_3 q91 fun q92 hl q93 => ?_
     clear q91
     obtain ⟨x, t9, hk⟩ := q92
     with_reducible refine x1_2 q93 fun T hT hTy => ?_
     clear q93)
    rw [hk]
    repeat wp_step
    exact hq
  x_close
  refine de_at f.n ?_
  x_close
  refine for_still (fun e he Q' hq => ?_) ?_
  · (obtain q94 := du e he
     refine x0_3 q94 fun q95 hl q96 => ?_
     clear q94
     obtain ⟨x, t9, hk⟩ := q95
     with_reducible refine x1_2 q96 fun T hT hTy => ?_
     clear q96)
    rw [if_neg (by rw [hl]; decide)]
    refine wpAny_bind (wpAny_specialOf (hT _ _ _ _) hTy ?_)
    exact wpAny_pure hq
  x_close
  have f9 : New3 h N C md (nsEnd hs ts sl fi fl fg fe fle fge st md hi hj ti tk) (oCls C N bt t0 (ts 14)) (mdObj C tj) h10 := f
  have k9 : h.StaysIn h10 := f9.old
  refine sup_make f9.c fun so h11 hso k11 => ?_
  have f11 := f9.ext k11
  have k12 : h.StaysIn h11 := fun b o e => k11 _ _ (k9 _ _ e)
  refine wpAny_bind (wpAny_holding (super_attr ((hop C).keeps k12) hso f11.c fun b h13 tk13 hb13 k13 => ?_))
  have f13 := f11.ext k13
  refine wpAny_bind (sup_call f13.c hb13 ?_)
  refine wpAny_pure (wpAny_pure ?_)
  exact ret _ _ _ _ _ _ _ _ _ _ a9 f13
end Mine
end PartNew4

section PartNew5
open PySem PySem.W PyProof.Rows PySem.Calls PySem.W.X
set_option Elab.async false
set_option maxRecDepth 100000
set_option maxHeartbeats 4000000
set_option linter.unusedVariables false
set_option rowWalk.seconds 0
namespace Mine
theorem cta_any {M : Model} {A : Around} {s : Shared} {Q : Unit → Shared → Prop} {E : Value → Shared → Prop} {n : String} {a : Args} (h : False) : wpAny M A (checkTypeCall n a) Q E s := h.elim
theorem isI_any {M : Model} {A : Around} {s : Shared} {Q : Bool → Shared → Prop} {E : Value → Shared → Prop} {a b : Value} (h : False) : wpAny M A (isInstance a b) Q E s := h.elim
theorem cs_any {M : Model} {A : Around} {s : Shared} {Q : Option Value → Shared → Prop} {E : Value → Shared → Prop} {a : Value} {n : Str} {l : List Value} {k : List (Str × Value)} (h : False) : wpAny M A (callSpecial? a n l k) Q E s := h.elim
local macro_rules | `(tactic| x_close) => `(tactic| repeat ((fail_if_success with_reducible first | refine cta_any ?_ | refine isI_any ?_ | refine cs_any ?_ | refine call_any ?_ ); wp_step))
theorem c_type {w : World} {A : Around} {h : Heap} {g : Array GenState} {d : Drawn} {t : Nat} {os : OsState} {bt ns sl fi fl fg fe fle fge st : Addr} {hs : Nat → Int} {ts : Nat → Tok} {t0 t16 : Tok} {Q : Value → Shared → Prop} {E : Value → Shared → Prop}
  (hb : h.get? bt = some ⟨.type "tuple", none, .seq #[.type "object"] 0, #[]⟩)
  (hn : h.get? ns = some ⟨.type "dict", none, .dict (nsE hs ts sl fi fl fg fe fle fge st) 12, #[]⟩)
  (hsl : h.get? sl = some ⟨.type "list", none, .seq #[.str "obj" t16] 0, #[]⟩)
  (hfn : ∀ a ∈ [fi, fl, fg, fe, fle, fge], ∃ o, h.get? a = some o ∧ o.cls = .type "function") (hst : ∃ o, h.get? st = some o ∧ o.cls = .type "tuple")
  (hop : ∀ C, Looks (model Challenge.rw_mg0030_01.row.prog w) h (opaqueClassAbove (.ref C)) none)
  (hnm : (ns == sysModules) = false)
  (ret : ∀ h' N C md hi hj ti tj tm tk, Apart3 h N C md → New3 h N C md (nsEnd hs ts sl fi fl fg fe fle fge st md hi hj ti tj) (oCls C N bt t0 (ts 14)) (mdObj C tm) h' → Q (.ref C) ⟨h', g, d, tk, os⟩)
 : wpAny (model Challenge.rw_mg0030_01.row.prog w) A (call (.type "type") [.str "K" t0, .ref bt, .ref ns]) Q E ⟨h, g, d, t, os⟩ := by
  refine wpAny_call (codeAny_of_tree ?_)
  show wpAny _ _ (callAny (.type "type") _) _ _ _
  refine wpAny_pure ⟨Code.quiet_builtin _ (by decide +kernel), codeAny_builtin F.entry_type_call ?_⟩
  rw [Around.under_plain (weight_type_call_type "type" _ []) rfl]
  unfold Builtin.«type.__call__»
  have m1 : mroOf (.type "type") = pure [.type "type", .type "object"] := by kernel_rfl
  have m2 : Bind.madeBy (.type "type") = pure (some "type.__new__") := by kernel_rfl
  x_close
  refine wpAny_of_eq (a := ()) (by kernel_rfl) ?_
  x_close
  refine wpAny_call (codeAny_of_tree ?_)
  show wpAny _ _ (do checkBuiltinCall "type.__new__" ⟨[.type "type", .str "K" t0, .ref bt, .ref ns], []⟩; again (.builtin "type.__new__" ⟨[.type "type", .str "K" t0, .ref bt, .ref ns], []⟩)) _ _ _
  have pl : plainId "type.__new__" = true := by decide +kernel
  have cb : checkBuiltinCall "type.__new__" ⟨[.type "type", .str "K" t0, .ref bt, .ref ns], []⟩ = pure () := by kernel_rfl
  have en : entryFor table "type.__new__" = some Builtin.«type.__new__» := entryFor_of_tree (by kernel_rfl)
  refine wpAny_bind (wpAny_of_eq cb (wpAny_pure ⟨plainId_quiet pl _, codeAny_builtin en ?_⟩))
  rw [Around.under_plainId pl _]
  refine c_new hb hn hsl hfn hst hop hnm fun h' N C md hi hj ti tj tm tk a3 f => ?_
  have fin := ret h' N C md hi hj ti tj tm tk a3 f
  have hT : ∀ g d t os, (⟨h', g, d, t, os⟩ : Shared).TypeIs (.ref C) "type" := fun _ _ _ _ => ⟨_, f.c, rfl⟩
  have S : Slot "type" "__init__" "type.__init__" := .of (owner := "type") (n := "__init__") (by rw [typeLookup_type, builtinLookup_eq_fast]; kernel_rfl) (by decide +kernel) (by decide +kernel) (by decide +kernel)
    (by first | exact .inl (by decide +kernel) | exact .inr (by decide +kernel)) (by rw [isSubtype_type]; kernel_rfl)
  have e5 : isSubtype (.type "type") (.type "type") = pure true := by kernel_rfl
  have l1 := S.lookup
  have l2 := S.bind (.ref C)
  dsimp only
  refine wpAny_bind (wpAny_isInstance (hT _ _ _ _) e5 ?_)
  refine wpAny_ite_false (by rfl) ?_
  refine wpAny_bind (wpAny_holding ?_)
  unfold callSpecial?
  refine wpAny_bind (wpAny_specialOf (hT _ _ _ _) l1 ?_)
  dsimp only
  x_close
  have en2 : entryFor table "type.__init__" = some Builtin.«type.__init__» := entryFor_of_tree (by kernel_rfl)
  refine wpAny_call_entry S (hT _ _ _ _) en2 ?_ (by unfold argsOk; kernel_rfl)
  unfold Builtin.«type.__init__»
  x_close
  refine ⟨_, rfl, ?_⟩
  refine wpAny_pure (wpAny_ite_false (by rfl) (wpAny_pure fin))
end Mine
end PartNew5

section PartNew6
open PySem PySem.W PyProof.Rows PySem.Calls
set_option Elab.async false
set_option maxRecDepth 100000
set_option maxHeartbeats 8000000
set_option linter.unusedVariables false
set_option rowWalk.seconds 0
namespace Mine
noncomputable abbrev nsO (es : Array DictEntry) (n : Nat) : Obj := ⟨.type "dict", none, .dict es n, #[]⟩
noncomputable abbrev fnO (name qual : Str) (params : Arguments) (body : List Stmt) (scope : Scope) (cl : List (Str × Addr)) (pm cdv ct : Value) : Obj := { cls := .type "function", data := .func (fnX name qual params body scope cl .none .none .none pm none cdv ct) }
section
variable {M : Model} {A : Around} {E : Value → Shared → Prop} {h : Heap} {g : Array GenState} {d : Drawn} {t : Nat} {os : OsState} {name qual : Str} {params : Arguments} {body : List Stmt} {scope : Scope} {env : Env} {c P : Addr} {ps : Array Value} {pos : Pos} {firstLine : Nat} {mg : Str → Option Value}
  {clos : List (Str × Addr)}
theorem mk_fn {Q : Value → Shared → Prop} (hcl : closureFor scope env = pure clos) (hge0 : env.globals = mainGlobals) (hdoc : docOf body = none) (hg : h.Ns mainGlobals mg) (hcode : env.code = .ref c) (C : CodeHd h c P) (hP : h.get? P = some (tabObj ps)) (ht : TriplesOk ps.toList)
    (hnf : codeAmong pos ps.toList = none) (hgP : mainGlobals ≠ P) (hb : h.BuiltinsAt mg P)
    (K : ∀ c' ctv h' tk, Heap.ExtBut P h h' → h.objs.size ≤ c' → c' < h'.objs.size → h'.CodeRec (.ref c') qual → h'.get? P = some (tabObj (ps ++ #[rawInt pos.line, rawInt pos.col, .ref c'])) →
      Q (.ref h'.objs.size) ⟨h'.push (fnO name qual params body scope clos ((mg "__name__").getD .none) (.ref c') ctv), g, d, tk, os⟩) :
    wpAny M A (makeFunction name qual params (.stmts body) scope env [] [] [] pos firstLine) Q E ⟨h, g, d, t, os⟩ := by
  rw [makeFunction_eq]
  simp only [List.zip_nil_right, List.filterMap_nil, List.isEmpty_nil, if_true, pure_bind]
  (refine x2_8 hb fun bm ob hbm hne0 _ hneP hbo hcls hdict hdata => ?_
   try clear hb)
  unfold makeTail
  rw [hcl, hge0]
  refine wpAny_bind (wpAny_pure ?_)
  cases clos with
  | nil =>
    simp only [List.isEmpty_nil, if_true, hdoc]
    refine wpAny_bind (wpAny_pure ?_)
    refine wpAny_bind (wpAny_functionCodeX hcode (C.code hP ht) (C.tab hP) hnf fun c' h' tk hx hge hlt _ hrec htb _ => ?_)
    have hg' := hg.extBut hx hgP
    refine wpAny_bind (wpAny_builtinsFor hg' hbm hne0 (hx _ _ hneP hbo) hcls hdict hdata ?_)
    refine wpAny_bind (wpAny_nsGet hg' ?_)
    exact wpAny_bind (wpAny_pure (wpAny_newObj_type (K c' .none h' tk hx hge hlt hrec htb.2) (by size_fits)))
  | cons q r =>
    simp only [List.isEmpty_cons, Bool.false_eq_true, if_false, hdoc]
    refine wpAny_bind (wpAny_newTextTuple ?_)
    refine wpAny_bind (wpAny_functionCodeX hcode ((C.keeps fun b o e => Heap.get?_push_of_some _ e).code (Heap.get?_push_of_some _ hP) ht) ((C.keeps fun b o e => Heap.get?_push_of_some _ e).tab (Heap.get?_push_of_some _ hP)) hnf fun c' h' tk hx hge hlt _ hrec htb _ => ?_)
    have hg' := (hg.push _).extBut hx hgP
    have hx' : Heap.ExtBut P h h' := fun b o hb' e => hx b o hb' (Heap.get?_push_of_some _ e)
    have hge' : h.objs.size ≤ c' := Nat.le_trans (by rw [Heap.size_push]; exact Nat.le_succ _) hge
    refine wpAny_bind (wpAny_builtinsFor hg' hbm hne0 (hx' _ _ hneP hbo) hcls hdict hdata ?_)
    refine wpAny_bind (wpAny_nsGet hg' ?_)
    exact wpAny_bind (wpAny_pure (wpAny_newObj_type (K c' _ h' tk hx' hge' hlt hrec htb.2) (by size_fits)))
end
section
variable {prog : Program} {w : World} {A : Around} {E : Value → Shared → Prop} {h : Heap} {g : Array GenState} {d : Drawn} {t : Nat} {os : OsState} {env : Env} {ns : Addr} {es : Array DictEntry} {n : Nat} {name : Str} {v : Value}
theorem cls_set {Q : Unit → Shared → Prop} (es' : Int → Tok → Array DictEntry) (n' : Nat) (hn : h.get? ns = some (nsO es n)) (hl : env.locals = ns) (hk : (env.scope.kind == .class) = true)
    (hx : storeName env name v = localSet env name v) (hr : aRefKeyMayBeTheName name es = false) (hf : ∀ hs t, Obj.putName name hs (.str name t) v (nsO es n) = nsO (es' hs t) n')
    (K : ∀ h' hs tk, h'.get? ns = some (nsO (es' hs t) n') → (∀ b o, b ≠ ns → h.get? b = some o → h'.get? b = some o) → h'.objs.size = h.objs.size → Q () ⟨h', g, d, tk, os⟩) :
    wpAny (model prog w) A (storeName env name v) Q E ⟨h, g, d, t, os⟩ := by
  rw [hx]
  unfold localSet
  rw [hl]
  refine wpAny_bind (wpAny_load hn ?_)
  refine wpAny_ite_true (by rfl) ?_
  refine nsSet_x hn hr fun hs => K _ hs _ ?_ (fun b o hb e => (Heap.get?_update_other h _ (Ne.symm hb)).trans e) (Heap.size_update ..)
  have := Heap.get?_update_self (Obj.putName name hs (.str name t) v) hn (by rw [hf]; rfl)
  rw [hf] at this
  exact this

theorem mf_any {M : Model} {s : Shared} {Q : Value → Shared → Prop} {name qualname : Str} {params : Arguments} {body : FuncBody} {scope : Scope} {env : Env} {l : List Value} {l2 : List (Option Value)} {l3 : List (Str × Value)} {pos : Pos} {k : Nat} (h : False) : wpAny M A (makeFunction name qualname params body scope env l l2 l3 pos k) Q E s := h.elim
theorem bn_any {M : Model} {s : Shared} {Q : Unit → Shared → Prop} {env : Env} {n : Str} {v : Value} (h : False) : wpAny M A (bindName env n v) Q E s := h.elim
theorem en_any {M : Model} {s : Shared} {Q : List (Str × Value) → Shared → Prop} {l : List (Str × Sem Value)} (h : False) : wpAny M A (evalNamed l) Q E s := h.elim
theorem cls_def {Q : Flow → Shared → Prop} {ar : List Arg} {body : List Stmt} {scope : Scope} {pos : Pos} {c P : Addr} {ps : Array Value} {mg : Str → Option Value} {clos : List (Str × Addr)} {qual : Str}
    (es' : Int → Tok → Addr → Array DictEntry) (n' : Nat) (hn : h.get? ns = some (nsO es n)) (hl : env.locals = ns) (hk : (env.scope.kind == .class) = true)
    (hx : ∀ v, storeName env name v = localSet env name v) (hr : aRefKeyMayBeTheName name es = false) (hf : ∀ v hs t, Obj.putName name hs (.str name t) (.ref v) (nsO es n) = nsO (es' hs t v) n')
    (hcl : closureFor scope env = pure clos) (hge0 : env.globals = mainGlobals) (hdoc : docOf body = none) (hg : h.Ns mainGlobals mg) (hcode : env.code = .ref c) (C : CodeHd h c P) (hP : h.get? P = some (tabObj ps)) (ht : TriplesOk ps.toList)
    (hnf : codeAmong pos ps.toList = none) (hgP : mainGlobals ≠ P) (hb : h.BuiltinsAt mg P) (hnP : ns ≠ P) (hq : qualnameIn env name name = qual)
    (ha : annotationsOf (ar ++ [] ++ (none : Option Arg).toList ++ [] ++ (none : Option Arg).toList) env = [])
    (K : ∀ f c' ctv h' hs t tk, h'.get? ns = some (nsO (es' hs t f) n') → h'.get? P = some (tabObj (ps ++ #[rawInt pos.line, rawInt pos.col, .ref c'])) → (∀ b o, b ≠ ns → b ≠ P → h.get? b = some o → h'.get? b = some o) →
      h'.CodeRec (.ref c') qual → h'.get? f = some (fnO name qual ⟨[], ar, none, [], [], none, []⟩ body scope clos ((mg "__name__").getD .none) (.ref c') ctv) → h.objs.size ≤ c' → h.objs.size ≤ f → h.objs.size ≤ h'.objs.size → Q .next ⟨h', g, d, tk, os⟩) :
    wpAny (model prog w) A (exec (.FunctionDef name ⟨[], ar, none, [], [], none, []⟩ body [] none [] scope none name pos) env) Q E ⟨h, g, d, t, os⟩ := by
  rw [arm_exec_FunctionDef]
  unfold defStmt
  repeat ((fail_if_success with_reducible first | refine mf_any ?_ | refine bn_any ?_ | refine en_any ?_); wp_step)
  dsimp only
  rw [ha, hq]
  refine wpAny_of_eq (a := []) (by rfl) ?_
  refine mk_fn hcl hge0 hdoc hg hcode C hP ht hnf hgP hb fun c' ctv h' tk hx1 hge hlt hrec htb => ?_
  have hnl : ns < h.objs.size := Heap.lt_size hn
  have hn1 : (h'.push (fnO name qual ⟨[], ar, none, [], [], none, []⟩ body scope clos ((mg "__name__").getD .none) (.ref c') ctv)).get? ns = some (nsO es n) := Heap.get?_push_of_some _ (hx1 _ _ hnP hn)
  repeat ((fail_if_success with_reducible first | refine mf_any ?_ | refine bn_any ?_ | refine en_any ?_); wp_step)
  refine wpAny_bindName (cls_set (fun hs t => es' hs t h'.objs.size) n' hn1 hl hk (hx _) hr (fun hs t => hf _ hs t) fun h2 hs tk2 e2 k2 z2 => wpAny_pure ?_)
  have hfn : h'.objs.size ≠ ns := fun q => by
    have := hx1 _ _ hnP hn
    rw [← q] at this
    exact absurd (Heap.lt_size this) (Nat.lt_irrefl _)
  have hcn : c' ≠ ns := fun q => absurd hnl (Nat.not_lt.mpr (q ▸ hge))
  refine K h'.objs.size c' ctv h2 hs tk tk2 e2 ?_ ?_ ?_ ?_ hge ?_ ?_
  · exact k2 _ _ (Ne.symm hnP) (Heap.get?_push_of_some _ htb)
  · exact fun b o hb1 hb2 e => k2 _ _ hb1 (Heap.get?_push_of_some _ (hx1 _ _ hb2 e))
  · (refine x4_1 hrec fun c2 o2 vs2 t2 q9z => x0_3 q9z fun e3 g2 r2 => ?_
     clear q9z
     try clear hrec)
    cases e3
    exact (i4_3 _ _ _ _ rfl (k2 _ _ hcn (Heap.get?_push_of_some _ g2)) r2)
  · exact k2 _ _ hfn (Heap.get?_push_size _ rfl)
  · exact Nat.le_trans hge (Nat.le_of_lt hlt)
  · rw [z2, Heap.size_push]; exact Nat.le_trans hge (Nat.le_of_lt (Nat.lt_succ_of_lt hlt))
end
end Mine
end PartNew6

section PartNew7
open PySem PySem.W PyProof.Rows PySem.Calls PySem.W.X
set_option Elab.async false
set_option maxRecDepth 100000
set_option maxHeartbeats 0
set_option linter.unusedVariables false
set_option rowWalk.seconds 0
namespace Mine
theorem start_New7 {M : Model} {A : Around} {env : Env} {E : Value → Shared → Prop} {s : Shared} {Q : Flow → Shared → Prop} (h : Q .next s) : wpAny M A (execs [] env) Q E s := by
  w_top off
  walk1
  exact h
section
variable {w : World} {A : Around} {h : Heap} {g : Array GenState} {d : Drawn} {tk : Nat} {os : OsState} {E : Value → Shared → Prop}
noncomputable abbrev prepO : Obj := { cls := .type "builtin_function_or_method", dict := none, data := .fields #[.builtin "type.__prepare__", .type "type"], slots := #[] }
set_option hygiene false in
local macro_rules | `(tactic| x_close) => `(tactic| exact ret _ _ _ (D.at 0 _ _ rfl) (mem_keep D))
theorem prep_ga {tk0 : Tok} {Q : Value → Shared → Prop} (ret : ∀ a h' tk', h'.get? a = some prepO → h.StaysIn h' → Q (.ref a) ⟨h', g, d, tk', os⟩) :
    wpAny (model Challenge.rw_mg0030_01.row.prog w) A (call (.builtin "type.__getattribute__") [.type "type", .str "__prepare__" tk0]) Q E ⟨h, g, d, tk, os⟩ := by
  x_run
end
section
variable {w : World} {A : Around} {h : Heap} {g : Array GenState} {d : Drawn} {tk : Nat} {os : OsState} {E : Value → Shared → Prop}
set_option hygiene false in
local macro_rules | `(tactic| x_close) => `(tactic| exact ret _ _ _ (D.at 0 _ _ rfl) (mem_keep D) (fun b o e => D.ne_old 0 _ _ rfl b o e))
theorem prep_attr {Q : Option Value → Shared → Prop} (ret : ∀ a h' tk', h'.get? a = some prepO → h.StaysIn h' → Q (some (.ref a)) ⟨h', g, d, tk', os⟩) :
    wpAny (model Challenge.rw_mg0030_01.row.prog w) A (getAttr? (.type "type") (Str.ofString "__prepare__")) Q E ⟨h, g, d, tk, os⟩ := by
  have S : Slot "type" "__getattribute__" "type.__getattribute__" := .of (owner := "type") (n := "__getattribute__") (by rw [typeLookup_type, builtinLookup_eq_fast]; kernel_rfl) (by decide +kernel) (by decide +kernel) (by decide +kernel)
    (by first | exact .inl (by decide +kernel) | exact .inr (by decide +kernel)) (by rw [isSubtype_type]; kernel_rfl)
  have hlk := S.lookup
  have hT : typeOf (.type "type") = pure (.type "type") := by kernel_rfl
  unfold getAttr? getAttrBy? getAttrBy
  refine wpAny_bind (wpAny_mkText (wpAny_bind (wpAny_attempt (wpAny_holding (wpAny_bind (wpAny_of_eq hT (wpAny_bind (wpAny_of_eq hlk ?_))))))))
  show wpAny _ _ (getAttrByItsOwn (.type "type") (.str "__prepare__" tk) (.type "type") (.builtin "type.__getattribute__") false false) _ _ _
  unfold getAttrByItsOwn hookBefore callGetattribute boundAndCalled
  refine wpAny_bind (wpAny_of_eq (show (if onTheHeap (.type "type") then typeLookup (.type "type") "__getattr__" else pure none) = pure none from rfl) ?_)
  refine wpAny_bind (wpAny_attempt (wpAny_holding ?_))
  show wpAny _ _ (bindSpecial (.builtin "type.__getattribute__") (.type "type") >>= _) _ _ _
  refine wpAny_bind (wpAny_of_eq (S.bind _) ?_)
  refine prep_ga fun a h' tk' x k => ?_
  exact wpAny_pure (wpAny_pure (ret a h' tk' x k))
end
theorem prep_call2 {w : World} {A : Around} {h : Heap} {g : Array GenState} {d : Drawn} {tk : Nat} {os : OsState} {E : Value → Shared → Prop} {a bt : Addr} {t0 : Tok} {Q : Value → Shared → Prop} (ha : h.get? a = some prepO)
    (ret : Q (.ref h.objs.size) ⟨h.push (nsO #[] 0), g, d, tk, os⟩) :
    wpAny (model Challenge.rw_mg0030_01.row.prog w) A (call (.ref a) [.str "K" t0, .ref bt]) Q E ⟨h, g, d, tk, os⟩ := by
  refine wpAny_call (codeAny_of_tree ?_)
  show wpAny _ _ (callAny (.ref a) _) _ _ _
  unfold callAny
  refine wpAny_bind (wpAny_load ha ?_)
  have cb : checkBoundCall "type.__prepare__" ⟨[.type "type", .str "K" t0, .ref bt], []⟩ = pure () := by kernel_rfl
  have pl : plainId "type.__prepare__" = true := by decide +kernel
  have en : entryFor table "type.__prepare__" = some Builtin.«type.__prepare__» := entryFor_of_tree (by kernel_rfl)
  dsimp only
  refine wpAny_bind (wpAny_of_eq cb (wpAny_pure ⟨plainId_quiet pl _, codeAny_builtin en ?_⟩))
  rw [Around.under_plainId pl _]
  unfold Builtin.«type.__prepare__» newDict
  refine wpAny_bind (wpAny_newObj_type (wpAny_pure ret) (by size_fits))
theorem cls_code {M : Model} {A : Around} {E : Value → Shared → Prop} {h : Heap} {g : Array GenState} {d : Drawn} {t : Nat} {os : OsState} {env : Env} {c P : Addr} {pos : Pos} {k : Nat} {n q : Str} {sc : Scope} {Q : Value → Shared → Prop}
    (hc : env.code = .ref c) (C : CodeHd h c P) (hP : h.get? P = some (tabObj #[]))
    (K : ∀ c' P' h' tk, (∀ b o, b ≠ P → h.get? b = some o → h'.get? b = some o) → h.objs.size ≤ c' → h.objs.size ≤ P' → CodeHd h' c' P' → h'.get? P' = some (tabObj #[]) → h'.get? P = some (tabObj #[rawInt pos.line, rawInt pos.col, .ref c']) → Q (.ref c') ⟨h', g, d, tk, os⟩) :
    wpAny M A (classCode env pos k n q sc) Q E ⟨h, g, d, t, os⟩ := by
  (refine x9_1 C fun o vs file tf flags tg inF text tt q9z => x0_10 q9z fun ho hcl hd h11 h11' h18 h7 h9 h10 hne => ?_
   clear q9z
   try clear C)
  unfold classCode codeAt
  rw [hc, if_neg (show ¬ ((Value.ref c == Value.none) = true) from Bool.false_ne_true)]
  refine wpAny_bind (wpAny_fieldsOf ho hd ?_)
  rw [h11']
  refine wpAny_bind (wpAny_fieldsOf hP rfl ?_)
  rw [show codeAmong pos (#[] : Array Value).toList = none from rfl, h18, h7, h9, h10]
  refine wpAny_bind (wpAny_newCodeX fun c' P' h' tk hk hc' hP' hcode' htab' hrec' => ?_)
  have hop' := hk _ _ hP
  refine wpAny_bind (wpAny_updateFieldsOfTheText hop' rfl ?_)
  have hget := Heap.get?_update_self (h := h') (fun o => Obj.mapFields (fun vs => if (codeAmong pos vs.toList).isSome = true then vs else
    vs ++ #[rawInt pos.line, rawInt pos.col, .ref c']) o) hop' rfl
  refine wpAny_bind (wpAny_fieldsOf hget rfl ?_)
  have hl : codeAmong pos [rawInt pos.line, rawInt pos.col, Value.ref c'] = some (.ref c') := by
    simp [codeAmong, rawInt]
  have hcP : c' ≠ P := Nat.ne_of_gt (Nat.lt_of_lt_of_le (Heap.lt_size hP) hc')
  have hPP : P' ≠ P := Nat.ne_of_gt (Nat.lt_of_lt_of_le (Heap.lt_size hP) hP')
  show wpAny M A (match codeAmong pos [rawInt pos.line, rawInt pos.col, Value.ref c'] with | some c => pure c | none => unsupported "internal:code-record") Q E _
  rw [hl]
  refine wpAny_pure (K c' P' _ _ (fun b o' hb e => ((Heap.SameBut.update ..).extBut b o' hb (hk b o' e))) hc' hP' ?_ ?_ hget)
  · exact CodeHd.of (hcode'.extBut (Heap.SameBut.update ..).extBut hcP hPP) (htab'.extBut (Heap.SameBut.update ..).extBut hcP hPP)
  · exact (htab'.extBut (Heap.SameBut.update ..).extBut hcP hPP).2
end Mine
end PartNew7

section PartNew8
open PySem PySem.W PyProof.Rows PySem.Calls
set_option Elab.async false
set_option maxRecDepth 100000
set_option maxHeartbeats 8000000
set_option linter.unusedVariables false
set_option rowWalk.seconds 0
namespace Mine
noncomputable def kSc : Scope where
  kind := .class
  names := [("__module__", .local), ("__slots__", .local), ("__init__", .local), ("__lt__", .local), ("__gt__", .local), ("__eq__", .local), ("__le__", .local), ("__ge__", .local), ("__hash__", .local), ("mycmp", .free)]
  isGenerator := false
  isCoroutine := false
noncomputable def cEnv (ns cc fr cell : Addr) : Env := { scope := kSc, locals := ns, globals := mainGlobals, cells := [(Str.ofString "mycmp", cell)], qual := Str.ofString "cmp_to_key.<locals>.K" ++ Str.ofString ".", code := .ref cc, frame := some fr, builtins := builtinsNs }
structure CS (h4 : Heap) (ns cP : Addr) (es : Array DictEntry) (n : Nat) (ps : Array Value) (more : List (Addr × Obj)) (h' : Heap) : Prop where
  n : h'.get? ns = some (nsO es n)
  t : h'.get? cP = some (tabObj ps)
  old : ∀ b o, b ≠ ns → b ≠ cP → h4.get? b = some o → h'.get? b = some o
  mo : ∀ p ∈ more, h'.get? p.1 = some p.2 ∧ p.1 ≠ ns ∧ p.1 ≠ cP
structure CF (h4 : Heap) (ns cc cP : Addr) (mg : Str → Option Value) : Prop where
  np : ns ≠ cP
  g : h4.Ns mainGlobals mg
  b : ∃ bm o, mg "__builtins__" = some (.ref bm) ∧ bm ≠ builtinsNs ∧ bm ≠ mainGlobals ∧ bm ≠ cP ∧ bm ≠ ns ∧ h4.get? bm = some o ∧ o.cls = .type "module" ∧ o.dict = some builtinsNs ∧ o.data = .plain
  gn : mainGlobals ≠ ns
  gp : mainGlobals ≠ cP
  c : CodeHd h4 cc cP
  cn : cc ≠ ns
section
variable {prog : Program} {w : World} {A : Around} {E : Value → Shared → Prop} {h4 h : Heap} {g : Array GenState} {d : Drawn} {t : Nat} {os : OsState} {ns cc cP fr cell : Addr} {es : Array DictEntry} {n : Nat} {ps : Array Value} {more : List (Addr × Obj)} {name : Str} {v : Value} {mg : Str → Option Value}
theorem cs_set {Q : Unit → Shared → Prop} (es' : Int → Tok → Array DictEntry) (n' : Nat) (S : CS h4 ns cP es n ps more h) (hnp : ns ≠ cP)
    (hx : storeName (cEnv ns cc fr cell) name v = localSet (cEnv ns cc fr cell) name v) (hr : aRefKeyMayBeTheName name es = false) (hf : ∀ hs t, Obj.putName name hs (.str name t) v (nsO es n) = nsO (es' hs t) n')
    (K : ∀ h' hs b tk, CS h4 ns cP (es' hs b) n' ps more h' → Q () ⟨h', g, d, tk, os⟩) :
    wpAny (model prog w) A (storeName (cEnv ns cc fr cell) name v) Q E ⟨h, g, d, t, os⟩ :=
  cls_set (env := cEnv ns cc fr cell) es' n' S.n rfl rfl hx hr hf fun h' hs tk e k z => K h' hs t tk ⟨e, k _ _ (Ne.symm hnp) S.t, fun b o hb hb2 e => k _ _ hb (S.old b o hb hb2 e), fun p hp => ⟨k _ _ (S.mo p hp).2.1 (S.mo p hp).1, (S.mo p hp).2⟩⟩
theorem cs_def {Q : Flow → Shared → Prop} {ar : List Arg} {body : List Stmt} {scope : Scope} {pos : Pos} {clos : List (Str × Addr)} (qual : Str)
    (es' : Int → Tok → Addr → Array DictEntry) (n' : Nat) (S : CS h4 ns cP es n ps more h) (F : CF h4 ns cc cP mg)
    (hx : ∀ v, storeName (cEnv ns cc fr cell) name v = localSet (cEnv ns cc fr cell) name v) (hr : aRefKeyMayBeTheName name es = false) (hf : ∀ v hs t, Obj.putName name hs (.str name t) (.ref v) (nsO es n) = nsO (es' hs t v) n')
    (hcl : closureFor scope (cEnv ns cc fr cell) = pure clos) (hdoc : docOf body = none) (ht : TriplesOk ps.toList)
    (hnf : codeAmong pos ps.toList = none) (hq : qualnameIn (cEnv ns cc fr cell) name name = qual)
    (ha : annotationsOf (ar ++ [] ++ (none : Option Arg).toList ++ [] ++ (none : Option Arg).toList) (cEnv ns cc fr cell) = [])
    (K : ∀ f c' oc vs tc ctv h' hs t tk, CS h4 ns cP (es' hs t f) n' (ps ++ #[rawInt pos.line, rawInt pos.col, .ref c']) ((f, fnO name qual ⟨[], ar, none, [], [], none, []⟩ body scope clos ((mg "__name__").getD .none) (.ref c') ctv) :: (c', oc) :: more) h' →
      oc.data = .fields vs → vs[1]? = some (.str qual tc) → Q .next ⟨h', g, d, tk, os⟩) :
    wpAny (model prog w) A (exec (.FunctionDef name ⟨[], ar, none, [], [], none, []⟩ body [] none [] scope none name pos) (cEnv ns cc fr cell)) Q E ⟨h, g, d, t, os⟩ := by
  (obtain q91 := F.b
   with_reducible refine x2_1 q91 fun bm ob q9z => x0_9 q9z fun b1 b2 b3 b4 b5 b6 b7 b8 b9 => ?_
   clear q9z
   clear q91)
  have hgh : h.Ns mainGlobals mg := F.g.at' fun o e => S.old _ o F.gn F.gp e
  have Ch : CodeHd h cc cP := by
    (obtain q92 := F.c
     refine x9_1 q92 fun o vs file tf flags tg inF text tt q9z => x0_2 q9z fun e r => ?_
     clear q9z
     clear q92)
    refine ⟨o, vs, file, tf, flags, tg, inF, text, tt, S.old _ _ F.cn r.2.2.2.2.2.2.2.2 e, r⟩
  refine cls_def (env := cEnv ns cc fr cell) es' n' S.n rfl rfl hx hr hf hcl rfl hdoc hgh rfl Ch S.t ht hnf F.gp (i2_8 bm ob b1 b2 b3 b4 (S.old _ _ b5 b4 b6) b7 b8 b9) F.np hq ha fun f c' ctv h' hs t tk e1 e2 k hrec hfo hge hgf hz => ?_
  (refine x4_4 hrec fun c2 oc vs tc e3 hoc hd hv => ?_
   try clear hrec)
  cases e3
  have hnl : ns < h.objs.size := Heap.lt_size S.n
  have hpl : cP < h.objs.size := Heap.lt_size S.t
  refine K f c' oc vs tc ctv h' hs t tk ⟨e1, e2, fun b o hb hb2 e => k _ _ hb hb2 (S.old b o hb hb2 e), fun p hp => ?_⟩ hd hv
  refine mc1 hp ?_ fun hp => ?_
  · exact ⟨hfo, Nat.ne_of_gt (Nat.lt_of_lt_of_le hnl hgf), Nat.ne_of_gt (Nat.lt_of_lt_of_le hpl hgf)⟩
  · refine mc1 hp ?_ fun hp => ?_
    · exact ⟨hoc, Nat.ne_of_gt (Nat.lt_of_lt_of_le hnl hge), Nat.ne_of_gt (Nat.lt_of_lt_of_le hpl hge)⟩
    · exact ⟨k _ _ (S.mo p hp).2.1 (S.mo p hp).2.2 (S.mo p hp).1, (S.mo p hp).2⟩
theorem cs_push {o : Obj} (S : CS h4 ns cP es n ps more h) (hf : o.isFreed = false) : CS h4 ns cP es n ps ((h.objs.size, o) :: more) (h.push o) :=
  ⟨Heap.get?_push_of_some _ S.n, Heap.get?_push_of_some _ S.t, fun b o hb hb2 e => Heap.get?_push_of_some _ (S.old b o hb hb2 e), fun p hp => by
    refine mc1 hp ?_ fun hp => ?_
    · exact ⟨Heap.get?_push_size _ hf, Nat.ne_of_gt (Heap.lt_size S.n), Nat.ne_of_gt (Heap.lt_size S.t)⟩
    · exact ⟨Heap.get?_push_of_some _ (S.mo p hp).1, (S.mo p hp).2⟩⟩
end
noncomputable def nsB (hs : Nat → Int) (ts : Nat → Tok) (sl fi fl fg fe fle fge : Addr) : Array DictEntry := #[⟨hs 1, .str "__module__" (ts 1), .str "cpy313.functools" (ts 13)⟩, ⟨hs 2, .str "__qualname__" (ts 2), .str "cmp_to_key.<locals>.K" (ts 14)⟩, ⟨hs 3, .str "__firstlineno__" (ts 3), .int 48 (ts 15)⟩, ⟨hs 4, .str "__slots__" (ts 4), .ref sl⟩, ⟨hs 5, .str "__init__" (ts 5), .ref fi⟩, ⟨hs 6, .str "__lt__" (ts 6), .ref fl⟩, ⟨hs 7, .str "__gt__" (ts 7), .ref fg⟩, ⟨hs 8, .str "__eq__" (ts 8), .ref fe⟩, ⟨hs 9, .str "__le__" (ts 9), .ref fle⟩, ⟨hs 10, .str "__ge__" (ts 10), .ref fge⟩, ⟨hs 11, .str "__hash__" (ts 11), .none⟩]
end Mine
end PartNew8

section PartNew9
open PySem PySem.W PyProof.Rows PySem.Calls
set_option Elab.async false
set_option maxRecDepth 100000
set_option maxHeartbeats 8000000
set_option linter.unusedVariables false
set_option rowWalk.seconds 0
namespace Mine
theorem nt_any {M : Model} {A : Around} {E : Value → Shared → Prop} {s : Shared} {Q : Value → Shared → Prop} {l : List Value} (h : False) : wpAny M A (newTuple l) Q E s := h.elim
theorem forl_any {M : Model} {A : Around} {E : Value → Shared → Prop} {s : Shared} {α β : Type} {xs : List α} {b : β} {f : α → β → Sem (ForInStep β)} {Q : β → Shared → Prop} (h : False) : wpAny M A (forIn xs b f) Q E s := h.elim
theorem ga_any {M : Model} {A : Around} {E : Value → Shared → Prop} {s : Shared} {Q : Option Value → Shared → Prop} {v : Value} {n : Str} (h : False) : wpAny M A (getAttr? v n) Q E s := h.elim
theorem cc_any {M : Model} {A : Around} {E : Value → Shared → Prop} {s : Shared} {Q : Value → Shared → Prop} {env : Env} {pos : Pos} {k : Nat} {n q : Str} {sc : Scope} (h : False) : wpAny M A (classCode env pos k n q sc) Q E s := h.elim
theorem nm_any {M : Model} {A : Around} {E : Value → Shared → Prop} {s : Shared} {Q : Unit → Shared → Prop} {n : String} {a : Addr} (h : False) : wpAny M A (notTheModulesDict n a) Q E s := h.elim
theorem so_any {M : Model} {A : Around} {E : Value → Shared → Prop} {s : Shared} {Q : Option Value → Shared → Prop} {v : Value} {n : Str} (h : False) : wpAny M A (specialOf v n) Q E s := h.elim
theorem ef_any {M : Model} {A : Around} {E : Value → Shared → Prop} {s : Shared} {Q : Unit → Shared → Prop} {n : Nat} (h : False) : wpAny M A (enterFrame n) Q E s := h.elim
theorem nb_any {M : Model} {A : Around} {E : Value → Shared → Prop} {s : Shared} {Q : Addr → Shared → Prop} {c : Value} {g l b : Addr} (h : False) : wpAny M A (newBodyFrame c g l b) Q E s := h.elim
theorem bf_any {M : Model} {A : Around} {E : Value → Shared → Prop} {s : Shared} {Q : Addr → Shared → Prop} {g l : Addr} (h : False) : wpAny M A (builtinsFor g l) Q E s := h.elim
theorem st_any {M : Model} {A : Around} {E : Value → Shared → Prop} {s : Shared} {Q : Unit → Shared → Prop} {env : Env} {n : Str} {v : Value} (h : False) : wpAny M A (storeName env n v) Q E s := h.elim
theorem ln_any {M : Model} {A : Around} {E : Value → Shared → Prop} {s : Shared} {Q : Value → Shared → Prop} {env : Env} {n : Str} (h : False) : wpAny M A (loadName env n) Q E s := h.elim
theorem run_any {M : Model} {A : Around} {E : Value → Shared → Prop} {s : Shared} {Q : Flow → Shared → Prop} {c : Code} (h : False) : wpAny M A (run c) Q E s := h.elim
theorem cf_any {M : Model} {A : Around} {E : Value → Shared → Prop} {s : Shared} {Q : List (Str × Addr) → Shared → Prop} {sc : Scope} {env : Env} (h : False) : wpAny M A (closureFor sc env) Q E s := h.elim
theorem or_any {M : Model} {A : Around} {E : Value → Shared → Prop} {s : Shared} {α : Type} {m : Sem α} {k : Value → Sem Unit} {Q : α → Shared → Prop} (h : False) : wpAny M A (m.onRaise k) Q E s := h.elim
local macro_rules | `(tactic| x_close) => `(tactic| repeat ((fail_if_success with_reducible first | refine for_any ?_ | refine forl_any ?_ | refine ga_any ?_ | refine call_any ?_ | refine cc_any ?_ | refine nm_any ?_ | refine so_any ?_ | refine ef_any ?_ | refine nb_any ?_ | refine bf_any ?_ | refine st_any ?_ | refine ln_any ?_ | refine run_any ?_ | refine cf_any ?_ | refine or_any ?_ | refine catch_any ?_); wp_step))
theorem for1 {M : Model} {A : Around} {E : Value → Shared → Prop} {s : Shared} {α β : Type} {x : α} {b : β} {f : α → β → Sem (ForInStep β)} {Q : β → Shared → Prop} (h : wpAny M A (f x b) (fun r s' => match r with | .done b => Q b s' | .yield b => Q b s') E s) : wpAny M A (forIn [x] b f) Q E s := by
  rw [List.forIn_cons]
  refine wpAny_bind (wpAny_mono h (fun r s' hr => ?_) fun _ _ z => z)
  cases r with
  | done b => exact wpAny_pure hr
  | yield b => exact wpAny_pure hr
noncomputable def es3 (v : Value) (a1 a2 a3 : Int) (b1 b2 b3 c2 c3 : Tok) : Array DictEntry := #[⟨a1, .str "__module__" b1, v⟩, ⟨a2, .str "__qualname__" b2, .str "cmp_to_key.<locals>.K" c2⟩, ⟨a3, .str "__firstlineno__" b3, .int 48 c3⟩]
noncomputable def defO (st : Stmt) (qual : Str) (clos : List (Str × Addr)) (pm cdv ctv : Value) : Obj := match st with
  | .FunctionDef n ps b _ _ _ sc _ _ _ => fnO n qual ps b sc clos pm cdv ctv
  | _ => { cls := .none, data := .plain }
noncomputable def MethAt (lies : Addr → Obj → Prop) (st : Stmt) (qual : Str) (clos : List (Str × Addr)) (f : Addr) : Prop := ∃ pm q oc vs tc ctv, lies f (defO st qual clos pm (.ref q) ctv) ∧ lies q oc ∧ oc.data = .fields vs ∧ vs[1]? = some (.str qual tc)
theorem MethAt.mono {l l' : Addr → Obj → Prop} {st : Stmt} {qual : Str} {clos : List (Str × Addr)} {f : Addr} (x : MethAt l st qual clos f) (k : ∀ a o, l a o → l' a o) : MethAt l' st qual clos f :=
  x6_1 x fun pm q oc vs tc ctv z => ⟨pm, q, oc, vs, tc, ctv, k _ _ z.1, k _ _ z.2.1, z.2.2⟩
structure Meths (lies : Addr → Obj → Prop) (bd : List Stmt) (cell fi fl fg fe : Addr) : Prop where
  i : MethAt lies (bd.getD 2 (.Pass ⟨0, 0, 0, 0⟩)) "cmp_to_key.<locals>.K.__init__" [] fi
  l : MethAt lies (bd.getD 3 (.Pass ⟨0, 0, 0, 0⟩)) "cmp_to_key.<locals>.K.__lt__" [("mycmp", cell)] fl
  g : MethAt lies (bd.getD 4 (.Pass ⟨0, 0, 0, 0⟩)) "cmp_to_key.<locals>.K.__gt__" [("mycmp", cell)] fg
  e : MethAt lies (bd.getD 5 (.Pass ⟨0, 0, 0, 0⟩)) "cmp_to_key.<locals>.K.__eq__" [("mycmp", cell)] fe
theorem Meths.mono {l l' : Addr → Obj → Prop} {bd : List Stmt} {cell fi fl fg fe : Addr} (x : Meths l bd cell fi fl fg fe) (k : ∀ a o, l a o → l' a o) : Meths l' bd cell fi fl fg fe := ⟨x.i.mono k, x.l.mono k, x.g.mono k, x.e.mono k⟩
theorem c_build0 {R : List Stmt → Addr → Addr → Addr → Addr → Addr → Addr → List (Addr × Obj) → Prop} {w : World} {A : Around} {h : Heap} {g : Array GenState} {d : Drawn} {t : Nat} {os : OsState} {env : Env} {body : List Stmt} {pos : Pos} {mg : Str → Option Value} {cell : Addr} {nmv : Value} {Q : Value → Shared → Prop} {E : Value → Shared → Prop}
  (hcl : closureFor kSc env = pure [(Str.ofString "mycmp", cell)]) (hge : env.globals = mainGlobals) (hco : env.code = .ref 41) (hbu : env.builtins = builtinsNs)
  (hg : h.Ns mainGlobals mg) (hb : h.BuiltinsAt mg 37) (C : CodeHd h 41 37) (hP : h.get? 37 = some (tabObj #[])) (hd : A.depth + 10 < recursionLimit) (hnl : h.NoLimit) (hnm : mg (Str.ofString "__name__") = some nmv)
  (han : hasAnns body = false) (hdo : docOf body = none)
  (Hb : ∀ (ns cc cP fr : Addr) (h4 h5 : Heap) (tk : Nat) (a1 a2 a3 : Int) (b1 b2 b3 c2 c3 : Tok) (Q' : Flow → Shared → Prop) (E' : Value → Shared → Prop), CF h4 ns cc cP mg → (∀ b o, b ≠ 37 → h.get? b = some o → h4.get? b = some o) → CS h4 ns cP (es3 nmv a1 a2 a3 b1 b2 b3 c2 c3) 3 #[] [] h5 →
    (∀ h6 tk6 hs ts sl fi fl fg fe fle fge ps more t16, CS h4 ns cP (nsB hs ts sl fi fl fg fe fle fge) 11 ps more h6 → (sl, ⟨.type "list", none, .seq #[.str "obj" t16] 0, #[]⟩) ∈ more → (∀ a ∈ [fi, fl, fg, fe, fle, fge], ∃ o, (a, o) ∈ more ∧ o.cls = .type "function") → R body fi fl fg fe fle fge more → Q' .next ⟨h6, g, d, tk6, os⟩) →
    wpAny (model Challenge.rw_mg0030_01.row.prog w) (A.deeper (cEnv ns cc fr cell)) (execs body (cEnv ns cc fr cell)) Q' E' ⟨h5, g, d, tk, os⟩)
  (hop : ∀ h', (∀ b o, b ≠ 37 → h.get? b = some o → h'.get? b = some o) → ∀ C, Looks (model Challenge.rw_mg0030_01.row.prog w) h' (opaqueClassAbove (.ref C)) none)
  (ret : ∀ h' N C md bt hs ts sl fi fl fg fe fle fge st hi hj ti tj tm t0 tk more cc, R body fi fl fg fe fle fge more → (∀ p ∈ more, h'.get? p.1 = some p.2) → (∀ b o, b ≠ 37 → h.get? b = some o → h'.get? b = some o) → h'.get? 37 = some (tabObj #[rawInt pos.line, rawInt pos.col, .ref cc]) →
    h.get? N = none → h.get? C = none → h.get? md = none → N ≠ C → h'.get? N = some (nsEnd hs ts sl fi fl fg fe fle fge st md hi hj ti tj) → h'.get? C = some (oCls C N bt t0 (ts 14)) → h'.get? md = some (mdObj C tm) → Q (.ref C) ⟨h', g, d, tk, os⟩)
 : wpAny (model Challenge.rw_mg0030_01.row.prog w) A (buildClass (Str.ofString "K") (Str.ofString "cmp_to_key.<locals>.K") [.type "object"] [] body kSc [Str.ofString "obj"] 48 env pos none) Q E ⟨h, g, d, t, os⟩ := by
  have e3 : isType (.type "object") = pure true := by kernel_rfl
  have e3b : isType (.type "type") = pure true := by kernel_rfl
  have e4 : typeOf (.type "object") = pure (.type "type") := by kernel_rfl
  have e5 : isSubtype (.type "type") (.type "type") = pure true := by kernel_rfl
  unfold buildClass
  repeat ((fail_if_success with_reducible first | refine for_any ?_ | refine forl_any ?_ | refine ga_any ?_); first | with_reducible (first | refine wpAny_pure ?_ | refine wpAny_bind ?_ | refine wpAny_of_eq (by assumption) ?_) | ((fail_if_success with_reducible first | refine wpAny_letGo ?_ | refine wpAny_mkInt' ?_ | refine wpAny_mkStr' ?_ ?_ | refine wpAny_attempt ?_ | refine wpAny_throw ?_ | refine wpAny_typeOf ?_ ?_ | refine wpAny_specialOf ?_ ?_ ?_ | refine wpAny_isInstance ?_ ?_ ?_); wp_delta) | wp_step)
  refine for1 ?_
  repeat ((fail_if_success with_reducible first | refine for_any ?_ | refine forl_any ?_ | refine ga_any ?_); first | with_reducible (first | refine wpAny_pure ?_ | refine wpAny_bind ?_ | refine wpAny_of_eq (by assumption) ?_) | ((fail_if_success with_reducible first | refine wpAny_letGo ?_ | refine wpAny_mkInt' ?_ | refine wpAny_mkStr' ?_ ?_ | refine wpAny_attempt ?_ | refine wpAny_throw ?_ | refine wpAny_typeOf ?_ ?_ | refine wpAny_specialOf ?_ ?_ ?_ | refine wpAny_isInstance ?_ ?_ ?_); wp_delta) | wp_step)
  refine for1 (x := Value.type "object") ?_
  repeat ((fail_if_success with_reducible first | refine for_any ?_ | refine forl_any ?_ | refine ga_any ?_); first | with_reducible (first | refine wpAny_pure ?_ | refine wpAny_bind ?_ | refine wpAny_of_eq (by assumption) ?_) | ((fail_if_success with_reducible first | refine wpAny_letGo ?_ | refine wpAny_mkInt' ?_ | refine wpAny_mkStr' ?_ ?_ | refine wpAny_attempt ?_ | refine wpAny_throw ?_ | refine wpAny_typeOf ?_ ?_ | refine wpAny_specialOf ?_ ?_ ?_ | refine wpAny_isInstance ?_ ?_ ?_); wp_delta) | wp_step)
  refine prep_attr fun pa h1 tk1 hpa k1 => ?_
  x_close
  refine prep_call2 hpa ?_
  x_close
  have k0 : h.StaysIn h1 := fun b o e => k1 _ _ (Heap.get?_push_of_some _ e)
  have hbt : h1.get? h.objs.size = some ⟨.type "tuple", none, .seq #[.type "object"] 0, #[]⟩ := k1 _ _ (Heap.get?_push_size _ rfl)
  have hns : (h1.push (nsO #[] 0)).get? h1.objs.size = some (nsO #[] 0) := Heap.get?_push_size _ rfl
  have k2 : h1.StaysIn (h1.push (nsO #[] 0)) := fun b o e => Heap.get?_push_of_some _ e
  have nns : ∀ b o, h1.get? b = some o → b ≠ h1.objs.size := fun b o e => Nat.ne_of_lt (Heap.lt_size e)
  have hsy : (h1.objs.size == sysModules) = false := by
    (refine x3_2 hg fun o _ _ ho _ => ?_
     try clear hg)
    have := Heap.lt_size (k0 _ _ ho)
    have h2 : sysModules < mainGlobals := by decide
    exact beq_false_of_ne (Nat.ne_of_gt (Nat.lt_trans h2 this))
  revert hns k2 nns hsy
  generalize h1.push (nsO #[] 0) = h2
  generalize h1.objs.size = ns
  intro hns k2 nns hsy
  refine wpAny_ite_false (by rw [hsy]; rfl) ?_
  x_close
  have hgi : typeLookup (.type "dict") (Str.ofString "__getitem__") = pure (some (.builtin "dict.__getitem__")) := by kernel_rfl
  refine wpAny_specialOf (T := "dict") ⟨_, hns, rfl⟩ hgi ?_
  x_close
  have h02 : h.StaysIn h2 := fun b o e => k2 _ _ (k0 _ _ e)
  have C2 := C.keeps h02
  refine cls_code hco C2 (h02 _ _ hP) fun cc cP h3 tk3 k3 hcc hcP C3 hcT hPT => ?_
  x_close
  rw [hge, hbu]
  (refine x2_8 hb fun bm ob hbm hne0 hneG hneP hbo hbcls hbdict hbdata => ?_
   try clear hb)
  have hgP : mainGlobals ≠ 37 := fun q => by
    (refine x3_3 hg fun o es ep e hd _ => ?_
     try clear hg)
    rw [q, hP] at e; cases e; cases hd
  have h03 : ∀ b o, b ≠ 37 → h.get? b = some o → h3.get? b = some o := fun b o hb e => k3 b o hb (h02 b o e)
  have hg3 : h3.Ns mainGlobals mg := hg.at' fun o e => h03 _ o hgP e
  refine wpAny_builtinsFor hg3 hbm hne0 (h03 _ _ hneP hbo) hbcls hbdict hbdata ?_
  unfold newBodyFrame
  refine wpAny_bind (wpAny_bind (wpAny_nsGet hg3 ?_))
  x_close
  refine wpAny_of_eq hcl ?_
  x_close
  have h34 : h3.StaysIn (h3.push { cls := .type "frame", slots := #[some (.ref cc), some (.ref mainGlobals), some (.ref ns), none, some ((mg (Str.ofString "__name__")).getD .none), none, some (.ref builtinsNs)] }) := fun b o e => Heap.get?_push_of_some _ e
  have fr4 := Heap.get?_push_size h3 (o := { cls := .type "frame", slots := #[some (.ref cc), some (.ref mainGlobals), some (.ref ns), none, some ((mg (Str.ofString "__name__")).getD .none), none, some (.ref builtinsNs)] }) rfl
  have z4 : h3.objs.size < (h3.push { cls := .type "frame", slots := #[some (.ref cc), some (.ref mainGlobals), some (.ref ns), none, some ((mg (Str.ofString "__name__")).getD .none), none, some (.ref builtinsNs)] }).objs.size := by rw [Heap.size_push]; exact Nat.lt_succ_self _
  revert h34 fr4 z4
  generalize h3.push { cls := .type "frame", slots := #[some (.ref cc), some (.ref mainGlobals), some (.ref ns), none, some ((mg (Str.ofString "__name__")).getD .none), none, some (.ref builtinsNs)] } = h4
  intro h34 fr4 z4
  have nl4 : h4.NoLimit := by
    obtain ⟨mc, hns9, hn9⟩ := hnl
    refine ⟨mc, hns9.at' fun o e => h34 _ _ (h03 _ o (fun q => ?_) e), hn9⟩
    (refine x3_3 hns9 fun o es ep e hd _ => ?_
     try clear hns9)
    rw [q, hP] at e; cases e; cases hd
  refine wpAny_enterFrame nl4 (Nat.lt_of_le_of_lt (Nat.le_add_right _ 10) hd) ?_
  generalize h3.objs.size = fr at *
  have hnn : ns < h2.objs.size := Heap.lt_size hns
  have hn37 : ns ≠ 37 := fun q => nns 37 _ (k0 _ _ hP) q.symm
  have hnP : ns ≠ cP := Nat.ne_of_lt (Nat.lt_of_lt_of_le hnn hcP)
  have hold : ∀ b o, h.get? b = some o → b ≠ ns ∧ b ≠ cP := fun b o e => ⟨nns _ _ (k0 _ _ e), Nat.ne_of_lt (Nat.lt_of_lt_of_le (Heap.lt_size (h02 _ _ e)) hcP)⟩
  have hgm : ∃ o, h.get? mainGlobals = some o := let ⟨o, _, _, e, _⟩ := hg; ⟨o, e⟩
  have h04 : ∀ b o, b ≠ 37 → h.get? b = some o → h4.get? b = some o := fun b o hb e => h34 _ _ (h03 b o hb e)
  have CF4 : CF h4 ns cc cP mg := ⟨hnP, hg3.at' fun o e => h34 _ o e, ⟨bm, ob, hbm, hne0, hneG, (hold _ _ hbo).2, (hold _ _ hbo).1, h34 _ _ (h03 _ _ hneP hbo), hbcls, hbdict, hbdata⟩, (let ⟨o, e⟩ := hgm; (hold _ _ e).1), (let ⟨o, e⟩ := hgm; (hold _ _ e).2), C3.keeps h34, Ne.symm (Nat.ne_of_lt (Nat.lt_of_lt_of_le hnn hcc))⟩
  have S4 : CS h4 ns cP #[] 0 #[] [] h4 := ⟨h34 _ _ (k3 _ _ hn37 hns), h34 _ _ hcT, fun b o _ _ e => e, fun _ h => nomatch h⟩
  refine wpAny_bind (wpAny_onRaise ?_)
  rw [show ({ scope := kSc, locals := ns, globals := mainGlobals, cells := (Option.map (fun x => (Str.ofString "__class__", x)) (none : Option Addr)).toList ++ (Option.map (fun x => (Str.ofString "__classdict__", x)) (none : Option Addr)).toList ++ [(Str.ofString "mycmp", cell)], qual := Str.ofString "cmp_to_key.<locals>.K" ++ Str.ofString ".", code := Value.ref cc, frame := some fr, builtins := builtinsNs } : Env) = cEnv ns cc fr cell from rfl]
  have ldn : ∀ (Q' : Value → Shared → Prop) (E' : Value → Shared → Prop) tk, Q' nmv ⟨h4, g, d, tk, os⟩ → wpAny (model Challenge.rw_mg0030_01.row.prog w) A (loadName (cEnv ns cc fr cell) (Str.ofString "__name__")) Q' E' ⟨h4, g, d, tk, os⟩ := fun Q' E' tk hq => by
    show wpAny _ _ (do if let some v ← localGet (cEnv ns cc fr cell) (Str.ofString "__name__") then return v
                       loadGlobal (cEnv ns cc fr cell) (Str.ofString "__name__")) _ _ _
    refine wpAny_bind ?_
    unfold localGet
    refine wpAny_bind (wpAny_load S4.n (wpAny_ite_true (by rfl) ?_))
    refine nsGet_x (r := none) S4.n (by kernel_rfl) ?_
    exact loadGlobal_global (env := cEnv ns cc fr cell) CF4.g hnm hq
  refine wpAny_bind (ldn _ _ _ ?_)
  refine wpAny_bind (cs_set (fun a b => #[⟨a, .str "__module__" b, nmv⟩]) 1 S4 hnP (by rfl) (by kernel_rfl) (fun _ _ => by kernel_rfl) fun h5 a1 b1 tk5 S5 => ?_)
  refine wpAny_bind (wpAny_mkText ?_)
  refine wpAny_bind (cs_set (fun a b => #[⟨a1, .str "__module__" b1, nmv⟩, ⟨a, .str "__qualname__" b, .str "cmp_to_key.<locals>.K" tk5⟩]) 2 S5 hnP (by rfl) (by kernel_rfl) (fun _ _ => by kernel_rfl) fun h6 a2 b2 tk6 S6 => ?_)
  refine wpAny_bind (wpAny_mkInt' ?_)
  refine wpAny_bind (cs_set (fun a b => es3 nmv a1 a2 a b1 b2 b tk5 tk6) 3 S6 hnP (by rfl) (by kernel_rfl) (fun _ _ => by kernel_rfl) fun h7 a3 b3 tk7 S7 => wpAny_pure ?_)
  dsimp only
  refine wpAny_bind (wpAny_run (codeAny_body han hdo (Hb ns cc cP fr h4 h7 tk7 a1 a2 a3 b1 b2 b3 tk5 tk6 _ _ CF4 h04 S7 ?_)))
  intro h8 tk8 hs ts sl fi fl fg fe fle fge ps more t16 S8 hsl hfn hR
  dsimp only
  refine wpAny_bind (wpAny_onRaise (wpAny_bind (wpAny_mkStrs fun fs => wpAny_bind (wpAny_newTextTuple ?_))))
  have S9 := cs_push (o := { cls := .type "tuple", data := .seq fs.toArray }) S8 rfl
  refine wpAny_bind (cs_set (fun a b => nsE (fun i => if i = 12 then a else hs i) (fun i => if i = 12 then b else ts i) sl fi fl fg fe fle fge h8.objs.size) 12 S9 hnP (by rfl) (by kernel_rfl) (fun _ _ => by kernel_rfl) fun h9 a12 b12 tk9 S10 => wpAny_pure ?_)
  refine wpAny_ite_false (by rfl) ?_
  have h49 : ∀ b o, b ≠ 37 → h.get? b = some o → h9.get? b = some o := fun b o hb e => S10.old _ _ (hold _ _ e).1 (hold _ _ e).2 (h04 b o hb e)
  have bt9 : h9.get? h.objs.size = some ⟨.type "tuple", none, .seq #[.type "object"] 0, #[]⟩ :=
    S10.old _ _ (nns _ _ hbt) (Nat.ne_of_lt (Nat.lt_of_lt_of_le (Heap.lt_size (k2 _ _ hbt)) hcP)) (h34 _ _ (k3 _ _ (Nat.ne_of_gt (Heap.lt_size hP)) (k2 _ _ hbt)))
  have t9 : h9.get? 37 = some (tabObj #[rawInt pos.line, rawInt pos.col, .ref cc]) := S10.old _ _ (hold _ _ hP).1 (hold _ _ hP).2 (h34 _ _ hPT)
  have st9 := S10.mo _ (List.mem_cons_self)
  have none9 : ∀ a, h9.get? a = none → h.get? a = none := fun a ha => by
    cases e : h.get? a with
    | none => rfl
    | some o =>
      by_cases q : a = 37
      · subst q; rw [t9] at ha; cases ha
      · rw [h49 a o q e] at ha; cases ha
  refine wpAny_bind (c_type (hs := fun i => if i = 12 then a12 else hs i) (ts := fun i => if i = 12 then b12 else ts i) bt9 S10.n (S10.mo _ (List.mem_cons_of_mem _ hsl)).1 (fun a ha => let ⟨o, hm, hc⟩ := hfn a ha; ⟨o, (S10.mo _ (List.mem_cons_of_mem _ hm)).1, hc⟩) ⟨_, st9.1, rfl⟩ (hop h9 h49) hsy fun h10 N C md hi hj ti tj tm tk10 a3 f => wpAny_pure ?_)
  refine ret h10 N C md h.objs.size _ _ sl fi fl fg fe fle fge h8.objs.size hi hj ti tj tm t tk10 more cc hR (fun p hp => f.old _ _ (S10.mo p (List.mem_cons_of_mem _ hp)).1) (fun b o hb e => f.old _ _ (h49 b o hb e)) (f.old _ _ t9) (none9 _ a3.zn) (none9 _ a3.zc) (none9 _ a3.zm) a3.nc f.n f.c f.m
theorem c_build {R : List Stmt → Addr → Addr → Addr → Addr → Addr → Addr → List (Addr × Obj) → Prop} {w : World} {A : Around} {h : Heap} {g : Array GenState} {d : Drawn} {t : Nat} {os : OsState} {env : Env} {body : List Stmt} {pos : Pos} {mg : Str → Option Value} {cell : Addr} {qv : Str} {kv : Nat} {nmv : Value} {Q : Value → Shared → Prop} {E : Value → Shared → Prop}
  (hq : qv = Str.ofString "cmp_to_key.<locals>.K") (hkv : kv = 48) (hcl : closureFor kSc env = pure [(Str.ofString "mycmp", cell)]) (hge : env.globals = mainGlobals) (hco : env.code = .ref 41) (hbu : env.builtins = builtinsNs)
  (hg : h.Ns mainGlobals mg) (hb : h.BuiltinsAt mg 37) (C : CodeHd h 41 37) (hP : h.get? 37 = some (tabObj #[])) (hd : A.depth + 10 < recursionLimit) (hnl : h.NoLimit) (hnm : mg (Str.ofString "__name__") = some nmv)
  (han : hasAnns body = false) (hdo : docOf body = none)
  (Hb : ∀ (ns cc cP fr : Addr) (h4 h5 : Heap) (tk : Nat) (a1 a2 a3 : Int) (b1 b2 b3 c2 c3 : Tok) (Q' : Flow → Shared → Prop) (E' : Value → Shared → Prop), CF h4 ns cc cP mg → (∀ b o, b ≠ 37 → h.get? b = some o → h4.get? b = some o) → CS h4 ns cP (es3 nmv a1 a2 a3 b1 b2 b3 c2 c3) 3 #[] [] h5 →
    (∀ h6 tk6 hs ts sl fi fl fg fe fle fge ps more t16, CS h4 ns cP (nsB hs ts sl fi fl fg fe fle fge) 11 ps more h6 → (sl, ⟨.type "list", none, .seq #[.str "obj" t16] 0, #[]⟩) ∈ more → (∀ a ∈ [fi, fl, fg, fe, fle, fge], ∃ o, (a, o) ∈ more ∧ o.cls = .type "function") → R body fi fl fg fe fle fge more → Q' .next ⟨h6, g, d, tk6, os⟩) →
    wpAny (model Challenge.rw_mg0030_01.row.prog w) (A.deeper (cEnv ns cc fr cell)) (execs body (cEnv ns cc fr cell)) Q' E' ⟨h5, g, d, tk, os⟩)
  (hop : ∀ h', (∀ b o, b ≠ 37 → h.get? b = some o → h'.get? b = some o) → ∀ C, Looks (model Challenge.rw_mg0030_01.row.prog w) h' (opaqueClassAbove (.ref C)) none)
  (ret : ∀ h' N C md bt hs ts sl fi fl fg fe fle fge st hi hj ti tj tm t0 tk more cc, R body fi fl fg fe fle fge more → (∀ p ∈ more, h'.get? p.1 = some p.2) → (∀ b o, b ≠ 37 → h.get? b = some o → h'.get? b = some o) → h'.get? 37 = some (tabObj #[rawInt pos.line, rawInt pos.col, .ref cc]) →
    h.get? N = none → h.get? C = none → h.get? md = none → N ≠ C → h'.get? N = some (nsEnd hs ts sl fi fl fg fe fle fge st md hi hj ti tj) → h'.get? C = some (oCls C N bt t0 (ts 14)) → h'.get? md = some (mdObj C tm) → Q (.ref C) ⟨h', g, d, tk, os⟩)
 : wpAny (model Challenge.rw_mg0030_01.row.prog w) A (buildClass (Str.ofString "K") qv [.type "object"] [] body kSc [Str.ofString "obj"] kv env pos none) Q E ⟨h, g, d, t, os⟩ := by
  subst hq hkv
  exact c_build0 hcl hge hco hbu hg hb C hP hd hnl hnm han hdo Hb hop ret
end Mine
end PartNew9

section PartNew10
open PySem PySem.W PyProof.Rows PySem.Calls
set_option Elab.async false
set_option maxRecDepth 100000
set_option maxHeartbeats 8000000
set_option linter.unusedVariables false
set_option rowWalk.seconds 0
namespace Mine
open TI (Frs SameUp)
noncomputable def theDef (n : Str) : Stmt := (Challenge.pw_mg0030_01.main.body.find? fun | .FunctionDef m .. => m == n | _ => false).getD (.Pass ⟨0, 0, 0, 0⟩)
noncomputable def kBody : List Stmt := match theDef "cmp_to_key" with | .FunctionDef _ _ (.ClassDef _ _ _ b _ _ _ _ _ _ _ :: _) .. => b | _ => []
structure KeyFacts (v : Heap) (C f N md bt cell sl fi fl fg fe fle fge st : Addr) (hs : Nat → Int) (ts : Nat → Tok) (hi hj : Int) (ti tj tm t0 : Tok) : Prop where
  n : v.get? N = some (nsEnd hs ts sl fi fl fg fe fle fge st md hi hj ti tj)
  c : v.get? C = some (oCls C N bt t0 (ts 14))
  m : v.get? md = some (mdObj C tm)
  cl : ∃ oc, v.get? cell = some oc ∧ oc.data = .cell (some (.ref f))
  meths : Meths (fun a o => v.get? a = some o) kBody cell fi fl fg fe
theorem not_hid {A : Around} {l : List Env} {frs : List (Addr × Obj)} {h : Heap} {a : Addr} {o ot : Obj} (hl : A.frames = some l) (Fs : Frs l frs) (hf : ∀ p ∈ frs, h.get? p.1 = some p.2) (ho : h.get? a = some o) (h37 : h.get? 37 = some ot) (hn : ∀ es n, o.data ≠ .dict es n) (hne : o ≠ ot) : a ∉ [37] ++ fsA A := fun q => by
  rcases List.mem_append.mp q with q | q
  · rcases List.mem_singleton.mp q with rfl
    rw [ho] at h37; cases h37; exact hne rfl
  · rw [show fsA A = frs.map (·.1) by unfold fsA; rw [hl]; exact Fs.addrs] at q
    (obtain q81 := List.mem_map.mp q
     with_reducible refine x1_2 q81 fun p hp e => ?_
     clear q81)
    (obtain q82 := Fs.dict p hp
     with_reducible refine x2_1 q82 fun es ep hd => ?_
     clear q82)
    have := hf p hp
    rw [show p.1 = a from e, ho] at this
    cases this
    exact hn _ _ hd
theorem not_hid' {A : Around} {l : List Env} {frs : List (Addr × Obj)} {h0 : Heap} {a : Addr} {ot : Obj} (hl : A.frames = some l) (Fs : Frs l frs) (hf : ∀ p ∈ frs, h0.get? p.1 = some p.2) (h37 : h0.get? 37 = some ot) (ha : h0.get? a = none) : a ∉ [37] ++ fsA A := fun q => by
  rcases List.mem_append.mp q with q | q
  · rcases List.mem_singleton.mp q with rfl
    rw [ha] at h37; cases h37
  · rw [show fsA A = frs.map (·.1) by unfold fsA; rw [hl]; exact Fs.addrs] at q
    (obtain q83 := List.mem_map.mp q
     with_reducible refine x1_2 q83 fun p hp e => ?_
     clear q83)
    have := hf p hp
    rw [show p.1 = a from e, ha] at this
    cases this
theorem MethAt.seen {A : Around} {l : List Env} {frs : List (Addr × Obj)} {h2 h3 : Heap} {L : Addr} {more : List (Addr × Obj)} {st : Stmt} {qual : Str} {clos : List (Str × Addr)} {f cc : Addr} {x y : Int}
    (hl : A.frames = some l) (Fs : Frs l frs) (hf : ∀ p ∈ frs, h3.get? p.1 = some p.2) (hs : Heap.SameBut L h2 h3) (hL : ∃ oL es n, h2.get? L = some oL ∧ oL.data = .dict es n) (e37 : h3.get? 37 = some (tabObj #[rawInt x, rawInt y, .ref cc]))
    (hmo : ∀ p ∈ more, h2.get? p.1 = some p.2) (m : MethAt (fun a o => (a, o) ∈ more) st qual clos f) : MethAt (fun a o => (view A [37] h3).get? a = some o) st qual clos f := by
  (refine x6_4 m fun pm q oc vs tc ctv hfo hq hd hv => ?_
   try clear m)
  (with_reducible refine x3_2 hL fun oL es n hLo hLd => ?_
   try clear hL)
  have up : ∀ a o, (a, o) ∈ more → (∀ es n, o.data ≠ .dict es n) → o ≠ tabObj #[rawInt x, rawInt y, .ref cc] → (view A [37] h3).get? a = some o := fun a o hm hn hne => by
    have e2 := hmo _ hm
    have ha : a ≠ L := fun q => by subst q; rw [e2] at hLo; cases hLo; exact hn _ _ hLd
    have e3 : h3.get? a = some o := hs.extBut a o ha e2
    exact view_of (not_hid hl Fs hf e3 e37 hn hne) e3
  have hdat : ∀ es n, (defO st qual clos pm (.ref q) ctv).data ≠ .dict es n := fun es n e => by
    unfold defO at e; split at e <;> cases e
  refine (i6_4 pm q oc vs tc ctv (up _ _ hfo hdat (fun e => ?_)) (up _ _ hq (fun es n e => by rw [hd] at e; cases e) (fun e => ?_)) hd hv)
  · have := congrArg Obj.data e
    unfold defO at this; split at this <;> cases this
  · subst e
    have hd' : Data.fields #[rawInt x, rawInt y, .ref cc] = Data.fields vs := hd
    injection hd' with hd'
    subst hd'
    simp [rawInt] at hv
end Mine
end PartNew10

section PartNew11
open PySem PySem.W PyProof.Rows PySem.Calls
set_option Elab.async false
set_option maxRecDepth 100000
set_option maxHeartbeats 8000000
set_option linter.unusedVariables false
set_option rowWalk.seconds 0
namespace Mine
theorem start_New11 {M : Model} {A : Around} {env : Env} {E : Value → Shared → Prop} {s : Shared} {Q : Flow → Shared → Prop} (h : Q .next s) : wpAny M A (execs [] env) Q E s := by
  w_top off
  walk1
  exact h
open TI (Frs SameUp)
theorem bg_any {M : Model} {A : Around} {E : Value → Shared → Prop}  {s : Shared} {Q : Unit → Shared → Prop} {env : Env} (h : False) : wpAny M A (buildClassGuard env) Q E s := h.elim
theorem ea_any {M : Model} {A : Around} {E : Value → Shared → Prop}  {s : Shared} {Q : Args → Shared → Prop} {f : Value} {b : Bool} {l : List (Bool × Sem Value)} {k} (h : False) : wpAny M A (evalArgs f b l k) Q E s := h.elim
theorem bc_any {M : Model} {A : Around} {E : Value → Shared → Prop}  {s : Shared} {Q : Value → Shared → Prop} {n q : Str} {gv : List Value} {kw} {body : List Stmt} {sc : Scope} {st : List Str} {fl : Nat} {env : Env} {pos : Pos} {tp : Option Value} (h : False) : wpAny M A (buildClass n q gv kw body sc st fl env pos tp) Q E s := h.elim
theorem ev_any {M : Model} {A : Around} {E : Value → Shared → Prop}  {s : Shared} {Q : Value → Shared → Prop} {n : Str} {pos : Pos} {env : Env} (h : False) : wpAny M A (eval (.Name n pos) env) Q E s := h.elim
theorem ns_some {h : Heap} {L : Addr} {m : Str → Option Value} (x : h.Ns L m) : ∃ o, h.get? L = some o := by
  obtain ⟨o, _, _, e, _⟩ := x
  exact ⟨o, e⟩
theorem ns_dict {h : Heap} {L : Addr} {m : Str → Option Value} (x : h.Ns L m) : ∃ oL es n, h.get? L = some oL ∧ oL.data = .dict es n := by
  obtain ⟨o, es, ep, e, hd, _⟩ := x
  exact ⟨o, es, _, e, hd⟩
inductive KeyEx (r : Value) (h v : Heap) (f : Addr) : Prop
  | mk (C N md bt cell sl fi fl fg fe fle fge st : Addr) (hs : Nat → Int) (ts : Nat → Tok) (hi hj : Int) (ti tj tm t0 : Tok) (e : r = .ref C) (gr : GrownAt 37 h) (k : KeyFacts v C f N md bt cell sl fi fl fg fe fle fge st hs ts hi hj ti tj tm t0) : KeyEx r h v f
theorem c_key {w : World} {A : Around} {s : Shared} {f : Addr} {n : Nat} {c : Rec → Rec → Int} (H : Here w A [37] s.heap) (hT : s.heap.get? 37 = some (tabObj #[])) (hd : A.depth + 100 < recursionLimit) (hu : A.units + 1000 < cLine) (K : CmpOk w (view A [37] s.heap) (.ref f) n c) :
    QuietB w A (call (.ref 42) [.ref f]) s [37] (fun r h => KeyEx r h (view A [37] h) f) := by
  intro Q E ret
  have X := H.frag
  have XS : (Mine.hd.heap_1 w.params).In s.heap := X.keeps view_le
  revert XS X; k_fill; intro X XS
  refine wpAny_call ?_
  k_dflt (refine' enter_c (hid := [37]) (news := [(37, tabObj #[])]) H ?hN (XS 42 _ (by k_is)) ?hd (codeRec_of XS ?hc) ?hr ?hb ?hl ?hnd ?_ ?hco ?hg ?hk; (case hN => intro p hp; rcases List.mem_singleton.mp hp with rfl; exact ⟨hT, List.Mem.head _⟩); (case hd => exact rfl); (case hc => k_is); (case hr => omega); (case hb => exact BindsTo.of_eq rfl); (case hl => exact rfl); (case hnd => decide); (case hco => exact rfl); (case hg => exact rfl); (case hk => exact rfl))
  clear XS X
  intro l frs p loose mean mg mb L' h' tk cells I' X' T' F' N' lt' Y'
  have hl := I'.hl
  have Fs := I'.fs
  have SU := SameUp.refl frs
  have hlt : ∀ b ∈ [37], b < L' := fun b hb => by rcases List.mem_singleton.mp hb with rfl; exact lt' _ (List.Mem.head _)
  have hne9 : ∀ p ∈ frs, p.1 ≠ 37 := frs_ne I' hT (fun _ _ q => by cases q)
  k_lt lt'
  k_cells Y'
  rename_i o9 d9
  replace d9 : o9.data = .cell (some (.ref f)) := d9
  obtain ⟨m0, F0⟩ : ∃ m0, Fr (view A [37] s.heap) L' h' m0 := ⟨_, F'⟩
  clear F'
  (try simp only [List.cons_append, List.nil_append] at N')
  (try dsimp only); (try k_fold)
  refine wpAny_execs_cons ?_
  rw [arm_exec_ClassDef]
  repeat ((fail_if_success with_reducible first | refine bg_any ?_ | refine ea_any ?_ | refine bc_any ?_); wp_step)
  have Fk : (view A [37] s.heap).StaysIn h' := F0.keep
  have hgl := T'.g.keeps Fk
  have hbl := T'.b.keeps Fk
  have bi1 : mb (Str.ofString "__build_class__") = some (.builtin "__build_class__") := (T'.builtins _ (by decide)).trans (by kernel_rfl)
  have bi2 : mb (Str.ofString "object") = some (.type "object") := (T'.builtins _ (by decide)).trans (by kernel_rfl)
  have gl2 : mg (Str.ofString "object") = none := mg_none_of X' T'.g (by k_is)
  unfold buildClassGuard
  refine wpAny_bind (wpAny_nsGet hbl ?_)
  rw [bi1]
  repeat ((fail_if_success with_reducible first | refine bg_any ?_ | refine ev_any ?_ | refine bc_any ?_); wp_step)
  refine Name_function_global rfl rfl (loadGlobal_builtin hgl gl2 hbl bi2 ?_)
  repeat ((fail_if_success with_reducible first | refine bg_any ?_ | refine ev_any ?_ | refine bc_any ?_); first | with_reducible (first | refine wpAny_pure ?_ | refine wpAny_bind ?_ | refine wpAny_of_eq (by assumption) ?_) | ((fail_if_success with_reducible first | refine wpAny_letGo ?_ | refine wpAny_mkInt' ?_ | refine wpAny_mkStr' ?_ ?_ | refine wpAny_attempt ?_ | refine wpAny_throw ?_ | refine wpAny_typeOf ?_ ?_ | refine wpAny_specialOf ?_ ?_ ?_ | refine wpAny_isInstance ?_ ?_ ?_); wp_delta) | wp_step)
  have bmn : h'.BuiltinsAt mg 37 := by
    (obtain q91 := T'.bmain
     with_reducible refine x2_6 q91 fun bm ob b1 b2 b3 b4 b5 b6 => ?_
     clear q91)
    have e37 := N'.get (show (37, tabObj #[]) ∈ _ from List.Mem.tail _ (List.Mem.head _))
    refine (i2_8 bm ob b1 b2 (fun q => ?_) (fun q => ?_) (Fk _ _ b3) b4 b5 b6)
    · (obtain q92 := T'.g
       refine x3_3 q92 fun o es ep e hd _ => ?_
       clear q92)
      rw [q, e] at b3; cases b3; rw [hd] at b6; cases b6
    · have e := Fk _ _ b3
      rw [q, e37] at e; cases e; cases b4
  have Cd : CodeHd h' 41 37 := CodeHd.keeps (i9_10 _ _ _ _ _ _ _ _ _ (X' 41 _ (by k_is)) rfl rfl rfl rfl rfl rfl rfl rfl (by decide)) Fk
  obtain ⟨nmv, hnm9⟩ : ∃ v, mg (Str.ofString "__name__") = some v := ⟨_, mg_of X' T'.g (by k_is)⟩
  refine c_build (cell := L' + 1) (nmv := nmv) (R := fun bd fi fl fg fe _ _ more => Meths (fun a o => (a, o) ∈ more) bd (L' + 1) fi fl fg fe) (mg := mg) ?q ?fl ?cl ?ge ?co ?bu hgl bmn Cd (N'.get (List.Mem.tail _ (List.Mem.head _))) ?hd (T'.nolimit.keeps Fk) ?nm ?han ?hdo ?Hb ?hop ?ret
  case q => kernel_rfl
  case fl => rfl
  case cl => rfl
  case ge => rfl
  case co => rfl
  case bu => rfl
  case hd => dsimp only [Around.deeper]; omega
  case nm => exact hnm9
  case han => rfl
  case hdo => rfl
  case Hb =>
    intro ns cc cP fr h4 h5 tk5 a1 a2 a3 b1 b2 b3 c2 c3 Q' E' CF4 h04 S5 K9
    refine wpAny_execs_cons (wpAny_Assign_Name ?_)
    refine wpAny_Constant_str ?_
    refine cs_set (fun a b => #[⟨a1, .str "__module__" b1, .str "cpy313.functools" tk5⟩, ⟨a2, .str "__qualname__" b2, .str "cmp_to_key.<locals>.K" c2⟩, ⟨a3, .str "__firstlineno__" b3, .int 48 c3⟩]) 3 S5 CF4.np (by rfl) (by kernel_rfl) (fun _ _ => by kernel_rfl) fun h6 a1' b1' tk6 S6 => ?_
    refine wpAny_execs_cons (wpAny_Assign_Name ?_)
    repeat ((fail_if_success with_reducible first | refine st_any ?_); wp_step)
    have S7 := cs_push (o := { cls := .type "list", dict := none, data := .seq #[.str "obj" tk6] }) S6 rfl
    refine cs_set (fun a b => #[⟨a1, .str "__module__" b1, .str "cpy313.functools" tk5⟩, ⟨a2, .str "__qualname__" b2, .str "cmp_to_key.<locals>.K" c2⟩, ⟨a3, .str "__firstlineno__" b3, .int 48 c3⟩, ⟨a, .str "__slots__" b, .ref h6.objs.size⟩]) 4 S7 CF4.np (by rfl) (by kernel_rfl) (fun _ _ => by kernel_rfl) fun h8 a4 b4 tk8 S8 => ?_
    refine wpAny_execs_cons (cs_def (clos := []) (Str.ofString "cmp_to_key.<locals>.K.__init__") (fun a b v => #[⟨a1, .str "__module__" b1, .str "cpy313.functools" tk5⟩, ⟨a2, .str "__qualname__" b2, .str "cmp_to_key.<locals>.K" c2⟩, ⟨a3, .str "__firstlineno__" b3, .int 48 c3⟩, ⟨a4, .str "__slots__" b4, .ref h6.objs.size⟩, ⟨a, .str "__init__" b, .ref v⟩]) 5 S8 CF4 (fun _ => by rfl) (by kernel_rfl) (fun _ _ _ => by kernel_rfl) (by rfl) rfl (by simp [TriplesOk, rawInt]) (by kernel_rfl) (by kernel_rfl) rfl fun fi q5 oc5 vs5 tc5 ctv5 h9 a5 b5 tk9 S9 dd5 dv5 => ?_)
    refine wpAny_execs_cons (cs_def (clos := [(Str.ofString "mycmp", L' + 1)]) (Str.ofString "cmp_to_key.<locals>.K.__lt__") (fun a b v => #[⟨a1, .str "__module__" b1, .str "cpy313.functools" tk5⟩, ⟨a2, .str "__qualname__" b2, .str "cmp_to_key.<locals>.K" c2⟩, ⟨a3, .str "__firstlineno__" b3, .int 48 c3⟩, ⟨a4, .str "__slots__" b4, .ref h6.objs.size⟩, ⟨a5, .str "__init__" b5, .ref fi⟩, ⟨a, .str "__lt__" b, .ref v⟩]) 6 S9 CF4 (fun _ => by rfl) (by kernel_rfl) (fun _ _ _ => by kernel_rfl) (by rfl) rfl (by simp [TriplesOk, rawInt]) (by kernel_rfl) (by kernel_rfl) rfl fun fl q6 oc6 vs6 tc6 ctv6 h10 a6 b6 tk10 S10 dd6 dv6 => ?_)
    refine wpAny_execs_cons (cs_def (clos := [(Str.ofString "mycmp", L' + 1)]) (Str.ofString "cmp_to_key.<locals>.K.__gt__") (fun a b v => #[⟨a1, .str "__module__" b1, .str "cpy313.functools" tk5⟩, ⟨a2, .str "__qualname__" b2, .str "cmp_to_key.<locals>.K" c2⟩, ⟨a3, .str "__firstlineno__" b3, .int 48 c3⟩, ⟨a4, .str "__slots__" b4, .ref h6.objs.size⟩, ⟨a5, .str "__init__" b5, .ref fi⟩, ⟨a6, .str "__lt__" b6, .ref fl⟩, ⟨a, .str "__gt__" b, .ref v⟩]) 7 S10 CF4 (fun _ => by rfl) (by kernel_rfl) (fun _ _ _ => by kernel_rfl) (by rfl) rfl (by simp [TriplesOk, rawInt]) (by kernel_rfl) (by kernel_rfl) rfl fun fg q7 oc7 vs7 tc7 ctv7 h11 a7 b7 tk11 S11 dd7 dv7 => ?_)
    refine wpAny_execs_cons (cs_def (clos := [(Str.ofString "mycmp", L' + 1)]) (Str.ofString "cmp_to_key.<locals>.K.__eq__") (fun a b v => #[⟨a1, .str "__module__" b1, .str "cpy313.functools" tk5⟩, ⟨a2, .str "__qualname__" b2, .str "cmp_to_key.<locals>.K" c2⟩, ⟨a3, .str "__firstlineno__" b3, .int 48 c3⟩, ⟨a4, .str "__slots__" b4, .ref h6.objs.size⟩, ⟨a5, .str "__init__" b5, .ref fi⟩, ⟨a6, .str "__lt__" b6, .ref fl⟩, ⟨a7, .str "__gt__" b7, .ref fg⟩, ⟨a, .str "__eq__" b, .ref v⟩]) 8 S11 CF4 (fun _ => by rfl) (by kernel_rfl) (fun _ _ _ => by kernel_rfl) (by rfl) rfl (by simp [TriplesOk, rawInt]) (by kernel_rfl) (by kernel_rfl) rfl fun fe q8 oc8 vs8 tc8 ctv8 h12 a8 b8 tk12 S12 dd8 dv8 => ?_)
    refine wpAny_execs_cons (cs_def (clos := [(Str.ofString "mycmp", L' + 1)]) (Str.ofString "cmp_to_key.<locals>.K.__le__") (fun a b v => #[⟨a1, .str "__module__" b1, .str "cpy313.functools" tk5⟩, ⟨a2, .str "__qualname__" b2, .str "cmp_to_key.<locals>.K" c2⟩, ⟨a3, .str "__firstlineno__" b3, .int 48 c3⟩, ⟨a4, .str "__slots__" b4, .ref h6.objs.size⟩, ⟨a5, .str "__init__" b5, .ref fi⟩, ⟨a6, .str "__lt__" b6, .ref fl⟩, ⟨a7, .str "__gt__" b7, .ref fg⟩, ⟨a8, .str "__eq__" b8, .ref fe⟩, ⟨a, .str "__le__" b, .ref v⟩]) 9 S12 CF4 (fun _ => by rfl) (by kernel_rfl) (fun _ _ _ => by kernel_rfl) (by rfl) rfl (by simp [TriplesOk, rawInt]) (by kernel_rfl) (by kernel_rfl) rfl fun fle q9 oc9 vs9 tc9 ctv9 h13 a9 b9 tk13 S13 dd9 dv9 => ?_)
    refine wpAny_execs_cons (cs_def (clos := [(Str.ofString "mycmp", L' + 1)]) (Str.ofString "cmp_to_key.<locals>.K.__ge__") (fun a b v => #[⟨a1, .str "__module__" b1, .str "cpy313.functools" tk5⟩, ⟨a2, .str "__qualname__" b2, .str "cmp_to_key.<locals>.K" c2⟩, ⟨a3, .str "__firstlineno__" b3, .int 48 c3⟩, ⟨a4, .str "__slots__" b4, .ref h6.objs.size⟩, ⟨a5, .str "__init__" b5, .ref fi⟩, ⟨a6, .str "__lt__" b6, .ref fl⟩, ⟨a7, .str "__gt__" b7, .ref fg⟩, ⟨a8, .str "__eq__" b8, .ref fe⟩, ⟨a9, .str "__le__" b9, .ref fle⟩, ⟨a, .str "__ge__" b, .ref v⟩]) 10 S13 CF4 (fun _ => by rfl) (by kernel_rfl) (fun _ _ _ => by kernel_rfl) (by rfl) rfl (by simp [TriplesOk, rawInt]) (by kernel_rfl) (by kernel_rfl) rfl fun fge q10 oc10 vs10 tc10 ctv10 h14 a10 b10 tk14 S14 dd10 dv10 => ?_)
    refine wpAny_execs_cons (wpAny_Assign_Name ?_)
    repeat ((fail_if_success with_reducible first | refine st_any ?_); wp_step)
    refine cs_set (fun a b => #[⟨a1, .str "__module__" b1, .str "cpy313.functools" tk5⟩, ⟨a2, .str "__qualname__" b2, .str "cmp_to_key.<locals>.K" c2⟩, ⟨a3, .str "__firstlineno__" b3, .int 48 c3⟩, ⟨a4, .str "__slots__" b4, .ref h6.objs.size⟩, ⟨a5, .str "__init__" b5, .ref fi⟩, ⟨a6, .str "__lt__" b6, .ref fl⟩, ⟨a7, .str "__gt__" b7, .ref fg⟩, ⟨a8, .str "__eq__" b8, .ref fe⟩, ⟨a9, .str "__le__" b9, .ref fle⟩, ⟨a10, .str "__ge__" b10, .ref fge⟩, ⟨a, .str "__hash__" b, .none⟩]) 11 S14 CF4.np (by rfl) (by kernel_rfl) (fun _ _ => by kernel_rfl) fun h15 a11 b11 tk15 S15 => ?_
    refine wpAny_execs_nil ?_
    refine K9 h15 tk15 (fun i => ([0, a1, a2, a3, a4, a5, a6, a7, a8, a9, a10, a11] : List Int).getD i 0) (fun i => ([0, b1, b2, b3, b4, b5, b6, b7, b8, b9, b10, b11, 0, tk5, c2, c3] : List Nat).getD i 0) h6.objs.size fi fl fg fe fle fge _ _ tk6 S15 ?_ ?_ ?_
    · (repeat (first | exact List.Mem.head _ | apply List.Mem.tail)); done
    · repeat' (first | exact List.forall_mem_nil _ | refine List.forall_mem_cons.mpr ⟨?_, ?_⟩)
      all_goals
        apply Exists.intro
        apply And.intro
        · (repeat (first | exact List.Mem.head _ | apply List.Mem.tail)); done
        · rfl
    · exact ⟨(i6_4 ((mg (Str.ofString "__name__")).getD .none) q5 oc5 vs5 tc5 ctv5 (by repeat (first | exact List.Mem.head _ | apply List.Mem.tail)) (by repeat (first | exact List.Mem.head _ | apply List.Mem.tail)) dd5 dv5), (i6_4 ((mg (Str.ofString "__name__")).getD .none) q6 oc6 vs6 tc6 ctv6 (by repeat (first | exact List.Mem.head _ | apply List.Mem.tail)) (by repeat (first | exact List.Mem.head _ | apply List.Mem.tail)) dd6 dv6), (i6_4 ((mg (Str.ofString "__name__")).getD .none) q7 oc7 vs7 tc7 ctv7 (by repeat (first | exact List.Mem.head _ | apply List.Mem.tail)) (by repeat (first | exact List.Mem.head _ | apply List.Mem.tail)) dd7 dv7), (i6_4 ((mg (Str.ofString "__name__")).getD .none) q8 oc8 vs8 tc8 ctv8 (by repeat (first | exact List.Mem.head _ | apply List.Mem.tail)) (by repeat (first | exact List.Mem.head _ | apply List.Mem.tail)) dd8 dv8)⟩
  case hop =>
    intro h2 k2 C
    have X2 := X'.keeps (h' := h2) (fun b o e => k2 b o (fun q => by subst q; exact (view_get e).1 (List.mem_append_left _ (List.Mem.head _))) (Fk b o e))
    exact looks_opaque X2 (by k_is)
  case ret =>
    intro h2 N C md bt hs ts sl fi fl fg fe fle fge st hi hj ti tj tm t0 tk2 more cc hR hmo k2 e37 nN nC nm hNC eN eC em
    have n37 : ∀ b, b ≠ L' → True := fun _ _ => trivial
    have e37' : h'.get? 37 = some (tabObj #[]) := N'.get (List.Mem.tail _ (List.Mem.head _))
    have hL37 : L' ≠ 37 := fun q => (N' _ (show (37, tabObj #[]) ∈ _ from List.Mem.tail _ (List.Mem.head _))).2.1 q.symm
    have F10 : Fr (view A [37] s.heap) L' h2 _ := ⟨F0.ns.at' fun o e => k2 _ o hL37 e, fun b o e => k2 b o (fun q => by subst q; exact (view_get e).1 (List.mem_append_left _ (List.Mem.head _))) (Fk b o e), F0.above⟩
    have N10 : News (view A [37] s.heap) L' h2 frs := fun p hp => by
      have q := N' p (List.mem_cons_of_mem _ (List.mem_cons_of_mem _ hp))
      exact ⟨k2 _ _ (hne9 p hp) q.1, q.2⟩
    refine wpAny_bind (wpAny_pure (wpAny_bind (wpAny_standAt (wpAny_bind (wpAny_bindName ?_)))))
    refine wpAny_storeName_local rfl F10.ns (fun h3 hn3 hs3 => wpAny_pure ?_) rfl
    have F11 := F10.set hn3 hs3
    have N11 := N10.set hs3
    dsimp only
    k_steps
    show Q (.ref C) _
    have hf' : ∀ p ∈ frs, h'.get? p.1 = some p.2 := fun p hp => (N' p (List.mem_cons_of_mem _ (List.mem_cons_of_mem _ hp))).1
    have hfE : ∀ p ∈ frs, h3.get? p.1 = some p.2 := fun p hp => (N11 p hp).1
    have hLd : ∃ oL es n, h2.get? L' = some oL ∧ oL.data = .dict es n := ns_dict F10.ns
    have e37E := hs3.extBut _ _ (Ne.symm hL37) e37
    have hLs : ∃ o, h'.get? L' = some o := ns_some F0.ns
    have new : ∀ a o, h'.get? a = none → h2.get? a = some o → (view A [37] h3).get? a = some o := fun a o hn e => by
      have ha : a ≠ L' := fun q => by subst q; obtain ⟨o, e⟩ := hLs; rw [hn] at e; cases e
      exact view_of (not_hid' I'.hl I'.fs hf' e37' hn) (hs3.extBut a o ha e)
    have cellE : ∃ oc, (view A [37] h3).get? (L' + 1) = some oc ∧ oc.data = .cell (some (.ref f)) := by
      exact ⟨o9, made_view I' hlt (hs3.extBut _ _ (Nat.succ_ne_self L') (k2 _ _ (Nat.ne_of_gt (Nat.lt_succ_of_lt lt')) (N'.get (List.Mem.head _)))) (Nat.lt_succ_self _), d9⟩
    refine ret _ _ _ (ext_of I'.hl I'.fs I'.fr F11 N11 SU Split.nil I'.above) ⟨C, N, md, bt, L' + 1, sl, fi, fl, fg, fe, fle, fge, st, hs, ts, hi, hj, ti, tj, tm, t0, rfl, ⟨_, e37E⟩, ⟨new _ _ nN eN, new _ _ nC eC, new _ _ nm em, cellE, ?_⟩⟩
    exact ⟨hR.i.seen I'.hl I'.fs hfE hs3 hLd e37E hmo, hR.l.seen I'.hl I'.fs hfE hs3 hLd e37E hmo, hR.g.seen I'.hl I'.fs hfE hs3 hLd e37E hmo, hR.e.seen I'.hl I'.fs hfE hs3 hLd e37E hmo⟩
end Mine
end PartNew11

section PartNew12
open PySem PySem.W PyProof.Rows PySem.Calls PySem.W.X
set_option Elab.async false
set_option maxRecDepth 100000
set_option maxHeartbeats 0
set_option linter.unusedVariables false
set_option rowWalk.seconds 0
namespace Mine
theorem start_New12 {M : Model} {A : Around} {env : Env} {E : Value → Shared → Prop} {s : Shared} {Q : Flow → Shared → Prop} (h : Q .next s) : wpAny M A (execs [] env) Q E s := by
  w_top off
  walk1
  exact h
open TI (Frs SameUp)
noncomputable abbrev keyO0 (C : Addr) (dd : Option Addr) (sl : Array (Option Value)) : Obj := { cls := .ref C, dict := dd, data := .plain, slots := sl }
theorem KeyFacts.ext {v v' : Heap} {C f N md bt cell sl fi fl fg fe fle fge st : Addr} {hs : Nat → Int} {ts : Nat → Tok} {hi hj : Int} {ti tj tm t0 : Tok} (F : KeyFacts v C f N md bt cell sl fi fl fg fe fle fge st hs ts hi hj ti tj tm t0) (k : v.StaysIn v') : KeyFacts v' C f N md bt cell sl fi fl fg fe fle fge st hs ts hi hj ti tj tm t0 :=
  ⟨k _ _ F.n, k _ _ F.c, k _ _ F.m, (let ⟨o, a, b⟩ := F.cl; ⟨o, k _ _ a, b⟩), F.meths.mono fun a o e => k a o e⟩
section
variable {w : World} {A : Around} {h : Heap} {g : Array GenState} {d : Drawn} {tk : Nat} {os : OsState} {C f N md bt cell sl fi fl fg fe fle fge st r : Addr} {hs : Nat → Int} {ts : Nat → Tok} {hi hj : Int} {ti tj tm t0 : Tok} {E : Value → Shared → Prop}
set_option hygiene false in
local macro_rules | `(tactic| x_close) => `(tactic| exact ret _ _ _ _ (D.at 0 _ _ rfl) (mem_keep D) (D.nw _ (List.Mem.head _)).2)
theorem k_new {Q : Value → Shared → Prop} (F : KeyFacts h C f N md bt cell sl fi fl fg fe fle fge st hs ts hi hj ti tj tm t0)
    (ret : ∀ k h' tk' dd, h'.get? k = some (keyO0 C dd #[]) → h.StaysIn h' → h.get? k = none → Q (.ref k) ⟨h', g, d, tk', os⟩) :
    wpAny (model Challenge.rw_mg0030_01.row.prog w) A (call (.builtin "object.__new__") [.ref C, .ref r]) Q E ⟨h, g, d, tk, os⟩ := by
  obtain ⟨en, ec, em, -, -⟩ := F
  unfold oCls clsK at ec
  unfold nsEnd nsK at en
  unfold mdObj at em
  x_run
end
theorem mb_any {M : Model} {A : Around} {s : Shared} {Q : Option String → Shared → Prop} {E : Value → Shared → Prop} {a : Value} (h : False) : wpAny M A (Bind.madeBy a) Q E s := h.elim
theorem mro_any {M : Model} {A : Around} {s : Shared} {Q : List Value → Shared → Prop} {E : Value → Shared → Prop} {a : Value} (h : False) : wpAny M A (mroOf a) Q E s := h.elim
theorem sp_any {M : Model} {A : Around} {s : Shared} {Q : Option Value → Shared → Prop} {E : Value → Shared → Prop} {a : Value} {n : Str} (h : False) : wpAny M A (specialOf a n) Q E s := h.elim
local macro_rules | `(tactic| x_close) => `(tactic| repeat ((fail_if_success with_reducible first | refine isI_any ?_ | refine cs_any ?_ | refine call_any ?_ | refine mb_any ?_ | refine mro_any ?_ | refine sp_any ?_); wp_step))
section
variable {w : World} {A : Around} {h : Heap} {g : Array GenState} {d : Drawn} {tk : Nat} {os : OsState} {C f N md bt cell sl fi fl fg fe fle fge st r : Addr} {hs : Nat → Int} {ts : Nat → Tok} {hi hj : Int} {ti tj tm t0 : Tok} {E : Value → Shared → Prop}
theorem k_make {Q : Value → Shared → Prop} (F : KeyFacts h C f N md bt cell sl fi fl fg fe fle fge st hs ts hi hj ti tj tm t0)
    (init : ∀ (A' : Around) (h1 : Heap) (tk : Nat) (k : Addr) (dd : Option Addr) (Q' E' : Value → Shared → Prop), A'.depth ≤ A.depth + 1 → h1.get? k = some (keyO0 C dd #[]) → h.StaysIn h1 → h.get? k = none →
      (∀ h2 tk2, h2.get? k = some (keyO0 C dd #[some (.ref r)]) → (∀ b o, b ≠ k → h1.get? b = some o → h2.get? b = some o) → Q' .none ⟨h2, g, d, tk2, os⟩) → wpAny (model Challenge.rw_mg0030_01.row.prog w) A' (call (.ref fi) [.ref k, .ref r]) Q' E' ⟨h1, g, d, tk, os⟩)
    (ret : ∀ k h' tk' dd, h'.get? k = some (keyO0 C dd #[some (.ref r)]) → h.StaysIn h' → h.get? k = none → Q (.ref k) ⟨h', g, d, tk', os⟩) :
    wpAny (model Challenge.rw_mg0030_01.row.prog w) A (call (.ref C) [.ref r]) Q E ⟨h, g, d, tk, os⟩ := by
  have ec := F.c
  unfold oCls at ec
  refine wpAny_call (codeAny_of_tree ?_)
  show wpAny _ _ (callAny (.ref C) _) _ _ _
  unfold callAny
  refine wpAny_bind (wpAny_load ec ?_)
  dsimp only
  x_close
  have l1 : typeLookup (.type "type") (Str.ofString "__call__") = pure (some (.builtin "type.__call__")) := by kernel_rfl
  have l2 : bindSpecial (.builtin "type.__call__") (.ref C) = pure (.builtin "type.__call__", [.ref C]) := by kernel_rfl
  refine wpAny_specialOf (T := "type") ⟨_, ec, rfl⟩ l1 ?_
  refine wpAny_bind (wpAny_of_eq l2 ?_)
  dsimp only
  refine wpAny_bind (wpAny_pure ?_)
  refine wpAny_ite_true (by rfl) ?_
  refine wpAny_pure ⟨rfl, ?_⟩
  refine codeAny_of_tree ?_
  show wpAny _ _ (do checkBuiltinCall "type.__call__" ⟨[.ref C, .ref r], []⟩; again (.builtin "type.__call__" ⟨[.ref C, .ref r], []⟩)) _ _ _
  refine wpAny_bind ?_
  have b1 : builtinKind "type.__call__" = some .slot := by kernel_rfl
  have b2 : splitId "type.__call__" = some ("type", "__call__") := by kernel_rfl
  have b3 : isSubtype (.type "type") (.type "type") = pure true := by kernel_rfl
  unfold checkBuiltinCall
  rw [b1, b2]
  x_close
  refine wpAny_isInstance (T := "type") ⟨_, ec, rfl⟩ b3 ?_
  x_close
  refine ⟨Code.quiet_builtin _ (by decide +kernel), codeAny_builtin PySem.F.entry_type_call ?_⟩
  unfold Builtin.«type.__call__»
  x_close
  unfold mroOf classData
  refine wpAny_bind (wpAny_bind (wpAny_load ec (wpAny_pure (wpAny_pure ?_))))
  x_close
  unfold Bind.madeBy
  x_close
  unfold mroOf classData
  refine wpAny_bind (wpAny_bind (wpAny_load ec (wpAny_pure (wpAny_pure ?_))))
  x_close
  refine k_new F fun k h1 tk1 dd ek k1 nk => ?_
  have ec1 := k1 _ _ ec
  unfold isInstance
  x_close
  unfold isSubtype mroOf classData
  refine wpAny_bind (wpAny_bind (wpAny_bind (wpAny_load ec1 (wpAny_pure (wpAny_pure ?_)))))
  have hct : ([Value.ref C, .type "object"] : List Value).contains (.ref C) = true := by simp
  x_close
  rw [show (clsK C N [Str.ofString "obj"]).mro = [Value.ref C, .type "object"] from rfl, hct]
  x_close
  have F1 := F.ext k1
  unfold callSpecial? specialOf
  x_close
  refine lookup_C (N := N) (r := some (.ref fi)) (r0 := some (.builtin "object.__init__")) F1.n F1.c rfl rfl (by kernel_rfl) (by kernel_rfl) ?_
  x_close
  (obtain q91 := F1.meths.i
   refine x6_4 q91 fun pm q oc vs tc ctv m1 c92 c93 c94 => ?_
   clear q91
   clear c92
   clear c93
   clear c94)
  refine wpAny_bindSpecial_def m1 (by conv => lhs; arg 1; whnf) ?_
  x_close
  refine init _ h1 tk1 k dd _ _ (Nat.le_refl _) ek k1 nk fun h2 tk2 e2 k2 => ?_
  x_close
  exact ret k h2 tk2 dd e2 (fun b o e => k2 b o (fun q => by subst q; rw [nk] at e; cases e) (k1 b o e)) nk
end
end Mine
end PartNew12

section PartNew13
open PySem PySem.W PyProof.Rows PySem.Calls PySem.W.X
set_option Elab.async false
set_option maxRecDepth 100000
set_option maxHeartbeats 0
set_option linter.unusedVariables false
set_option rowWalk.seconds 0
namespace Mine
theorem start_New13 {M : Model} {A : Around} {env : Env} {E : Value → Shared → Prop} {s : Shared} {Q : Flow → Shared → Prop} (h : Q .next s) : wpAny M A (execs [] env) Q E s := by
  w_top off
  walk1
  exact h
open TI (Frs SameUp)
section
variable {w : World} {A : Around} {h : Heap} {g : Array GenState} {d : Drawn} {tk : Nat} {os : OsState} {C f N md bt cell sl fi fl fg fe fle fge st k r : Addr} {hs : Nat → Int} {ts : Nat → Tok} {hi hj : Int} {ti tj tm t0 : Tok} {dd : Option Addr} {E : Value → Shared → Prop}
set_option hygiene false in
local macro_rules | `(tactic| x_close) => `(tactic| exact ret)
theorem k_read {tk0 : Tok} {Q : Value → Shared → Prop} (X : (Mine.hd.heap_1 w.params).In h) (F : KeyFacts h C f N md bt cell sl fi fl fg fe fle fge st hs ts hi hj ti tj tm t0) (hk : h.get? k = some (keyO0 C dd #[some (.ref r)])) (ret : Q (.ref r) ⟨h, g, d, tk, os⟩) :
    wpAny (model Challenge.rw_mg0030_01.row.prog w) A (runValue (.builtin "proto.getattr_hooked" ⟨[.ref k, .str "obj" tk0], []⟩)) Q E ⟨h, g, d, tk, os⟩ := by
  obtain ⟨en, ec, em, -, -⟩ := F
  unfold keyO0 at hk
  unfold oCls clsK at ec
  unfold nsEnd nsK at en
  unfold mdObj at em
  revert X; k_fill; intro X
  x_run
end
local macro_rules | `(tactic| x_close) => `(tactic| repeat ((fail_if_success with_reducible first | refine isI_any ?_ | refine cs_any ?_ | refine call_any ?_ | refine mb_any ?_ | refine mro_any ?_ | refine sp_any ?_ | refine lk_any ?_ | refine setSlot_any ?_); wp_step))
section
variable {w : World} {A : Around} {h : Heap} {g : Array GenState} {d : Drawn} {tk : Nat} {os : OsState} {C f N md bt cell sl fi fl fg fe fle fge st k r : Addr} {hs : Nat → Int} {ts : Nat → Tok} {hi hj : Int} {ti tj tm t0 : Tok} {dd : Option Addr} {E : Value → Shared → Prop}
theorem k_attr {ex : Bool} {Q : Value → Shared → Prop} (X : (Mine.hd.heap_1 w.params).In h) (F : KeyFacts h C f N md bt cell sl fi fl fg fe fle fge st hs ts hi hj ti tj tm t0) (hk : h.get? k = some (keyO0 C dd #[some (.ref r)])) (ret : Q (.ref r) ⟨h, g, d, tk + 1, os⟩) :
    wpAny (model Challenge.rw_mg0030_01.row.prog w) A (getAttr (.ref k) (Str.ofString "obj") ex) Q E ⟨h, g, d, tk, os⟩ := by
  unfold getAttr getAttrBy
  refine wpAny_bind (wpAny_mkText (wpAny_holding ?_))
  x_close
  refine lookup_C (N := N) (r := none) (r0 := some (.builtin "object.__getattribute__")) F.n F.c rfl rfl (by kernel_rfl) (by kernel_rfl) ?_
  refine wpAny_ite_true (by rfl) ?_
  unfold getAttrEveryday
  refine wpAny_bind (wpAny_onRaise (k_read X F hk ?_))
  exact wpAny_pure ret
theorem k_isinst {B : Value} {sl' : Array (Option Value)} {Q : Bool → Shared → Prop} (F : KeyFacts h C f N md bt cell sl fi fl fg fe fle fge st hs ts hi hj ti tj tm t0) (hk : h.get? k = some (keyO0 C dd sl')) (hB : ([Value.ref C, .type "object"] : List Value).contains B = true) (ret : Q true ⟨h, g, d, tk, os⟩) :
    wpAny (model Challenge.rw_mg0030_01.row.prog w) A (isInstance (.ref k) B) Q E ⟨h, g, d, tk, os⟩ := by
  have ec := F.c
  unfold oCls at ec
  unfold isInstance
  x_close
  unfold isSubtype mroOf classData
  refine wpAny_bind (wpAny_bind (wpAny_bind (wpAny_load ec (wpAny_pure (wpAny_pure ?_)))))
  x_close
  rw [show (clsK C N [Str.ofString "obj"]).mro = [Value.ref C, .type "object"] from rfl, hB]
  exact ret
theorem k_set {Q : Unit → Shared → Prop} (F : KeyFacts h C f N md bt cell sl fi fl fg fe fle fge st hs ts hi hj ti tj tm t0) (hk : h.get? k = some (keyO0 C dd #[]))
    (ret : ∀ h' tk', h'.get? k = some (keyO0 C dd #[some (.ref r)]) → (∀ b o, b ≠ k → h.get? b = some o → h'.get? b = some o) → Q () ⟨h', g, d, tk', os⟩) :
    wpAny (model Challenge.rw_mg0030_01.row.prog w) A (setAttr (.ref k) (Str.ofString "obj") (.ref r)) Q E ⟨h, g, d, tk, os⟩ := by
  unfold setAttr
  refine wpAny_bind (wpAny_mkText ?_)
  unfold callSpecial? specialOf
  x_close
  refine lookup_C (N := N) (r := none) (r0 := some (.builtin "object.__setattr__")) F.n F.c rfl rfl (by kernel_rfl) (by kernel_rfl) ?_
  have l2 : bindSpecial (.builtin "object.__setattr__") (.ref k) = pure (.builtin "object.__setattr__", [.ref k]) := by kernel_rfl
  x_close
  refine wpAny_call (codeAny_of_tree ?_)
  show wpAny _ _ (do checkBuiltinCall "object.__setattr__" ⟨[.ref k, .str "obj" tk, .ref r], []⟩; again (.builtin "object.__setattr__" ⟨[.ref k, .str "obj" tk, .ref r], []⟩)) _ _ _
  refine wpAny_bind ?_
  have b1 : builtinKind "object.__setattr__" = some .slot := by kernel_rfl
  have b2 : splitId "object.__setattr__" = some ("object", "__setattr__") := by kernel_rfl
  have pl : plainId "object.__setattr__" = true := by decide +kernel
  have en : entryFor table "object.__setattr__" = some Builtin.«object.__setattr__» := entryFor_of_tree (by kernel_rfl)
  unfold checkBuiltinCall
  rw [b1, b2]
  x_close
  refine k_isinst F hk (by rw [List.contains_cons]; simp) ?_
  x_close
  show _ ∧ _
  refine ⟨plainId_quiet pl _, codeAny_builtin en ?_⟩
  rw [Around.under_plainId pl _]
  unfold Builtin.«object.__setattr__»
  x_close
  have ec := F.c
  unfold oCls at ec
  unfold mroOf classData
  refine wpAny_bind (wpAny_bind (wpAny_load ec (wpAny_pure (wpAny_pure ?_))))
  rw [show (clsK C N [Str.ofString "obj"]).mro = [Value.ref C, .type "object"] from rfl]
  refine wpAny_bind ?_
  rw [List.forIn_cons]
  refine wpAny_bind (wpAny_pure ?_)
  dsimp only
  rw [List.forIn_cons]
  refine wpAny_bind ?_
  have co : classOwn (.type "object") (Str.ofString "__setattr__") = pure (some (.builtin "object.__setattr__")) := by kernel_rfl
  x_close
  refine lookup_C (N := N) (r := some (.ref md)) (r0 := none) F.n F.c rfl rfl (by kernel_rfl) (by kernel_rfl) ?_
  have S : Slot "member_descriptor" "__set__" "member_descriptor.__set__" := .of (owner := "member_descriptor") (n := "__set__") (by rw [typeLookup_type, builtinLookup_eq_fast]; kernel_rfl) (by decide +kernel) (by decide +kernel) (by decide +kernel)
    (by first | exact .inl (by decide +kernel) | exact .inr (by decide +kernel)) (by rw [isSubtype_type]; kernel_rfl)
  have hT : ∀ g d t os, (⟨h, g, d, t, os⟩ : Shared).TypeIs (.ref md) "member_descriptor" := fun _ _ _ _ => ⟨_, F.m, rfl⟩
  x_close
  refine wpAny_specialOf (hT _ _ _ _) S.lookup ?_
  x_close
  have en2 : entryFor table "member_descriptor.__set__" = some Builtin.«member_descriptor.__set__» := entryFor_of_tree (by kernel_rfl)
  refine wpAny_callSpecial?_slot (hT _ _ _ _) S ?_
  refine wpAny_call (codeAny_call_builtin S.plain en2 (S.check _ _ _ _ _ _ _ _ (hT _ _ _ _) (by unfold argsOk; kernel_rfl) ?_))
  have em := F.m
  unfold mdObj at em
  unfold Builtin.«member_descriptor.__set__»
  x_close
  refine k_isinst F hk (by rw [List.contains_cons]; simp) ?_
  x_close
  have pl3 : plainId "proto.slot#set" = true := by decide +kernel
  have en3 : entryFor table "proto.slot#set" = some Builtin.«proto.slot#set» := entryFor_of_tree (by kernel_rfl)
  show _ ∧ _
  refine ⟨plainId_quiet pl3 _, codeAny_builtin en3 ?_⟩
  rw [Around.under_plainId pl3 _]
  unfold Builtin.«proto.slot#set»
  x_close
  rw [show ((clsK C N [Str.ofString "obj"]).slotNames.length - 1 - Int.toNat 0) = 0 from rfl]
  unfold setSlotAt
  show wpAny _ _ (if (0 : Nat) ≥ sizeLine then _ else updatePart k _ _) _ _ _
  rw [if_neg (by rw [sizeLine_eq]; decide)]
  refine wpAny_updatePart hk ?_
  refine wpAny_pure (wpAny_pure (wpAny_pure (wpAny_pure ?_)))
  refine ret _ _ ?_ (fun b o hb e => (Heap.get?_update_other h _ (Ne.symm hb)).trans e)
  exact Heap.get?_update_self _ hk rfl
end
end Mine
end PartNew13

section PartF0
open PySem PySem.W PyProof.Rows PySem.Calls
set_option Elab.async false
set_option maxRecDepth 100000
set_option maxHeartbeats 4000000
set_option linter.unusedVariables false
set_option rowWalk.seconds 0
namespace Mine
noncomputable def rulesOf (n : Int) : List (Int × Int) := ([((n.fdiv 3).fmod 2, [1, -1, 2, -3].getD ((n.fdiv 6).fmod 4).toNat 0), (1 - (n.fdiv 3).fmod 2, [1, -1, 2, -3].getD ((n.fdiv 24).fmod 4).toNat 0)]).take (n.fmod 3).toNat
noncomputable def PairRow (v : Heap) (a : Addr) (rs : List (Int × Int)) : Prop := ∃ ts : List Addr, v.IsList a (ts.map Value.ref).toArray ∧ ts.length = rs.length ∧ ∀ (i : Nat) (t : Addr) (r : Int × Int), ts[i]? = some t → rs[i]? = some r → ∃ u1 u2, IsTup v t #[.int r.1 u1, .int r.2 u2]
theorem PairRow.ext {h h' : Heap} {a : Addr} {rs : List (Int × Int)} (x : PairRow h a rs) (e : h.StaysIn h') : PairRow h' a rs :=
  let ⟨ts, ⟨o, ho, r⟩, l, p⟩ := x; (i1_3 ts ⟨o, e _ _ ho, r⟩ l (fun i t r h1 h2 => let ⟨u1, u2, q⟩ := p i t r h1 h2; ⟨u1, u2, by unfold IsTup at q ⊢; first | exact e _ _ q | ((with_reducible refine x1_2 q fun o ho r => ?_
                                                                                                                                                                                try clear q); exact ⟨o, e _ _ ho, r⟩)⟩))
end Mine
end PartF0

section PartF1
open PySem PySem.W PyProof.Rows PySem.Calls
set_option Elab.async false
set_option maxRecDepth 100000
set_option maxHeartbeats 4000000
set_option linter.unusedVariables false
set_option rowWalk.seconds 0
namespace Mine
theorem lt5 {b i j c : Nat} (hc : c = i + j) (h : b < i) : b ≠ c := by omega
theorem lt4 {s i j c : Nat} (hi : s = i) (hc : c = i + j) : s ≤ c := by omega
theorem lt3 {i j k c n l : Nat} (hc : c = i + j) (hk : k = i + l) (z : k < n) (hj : j ≤ l) : c < n := by omega
theorem loop_pureX {prog : Program} {w : World} {A : Around} {R : Result → Shared → Prop} {s : Shared} {elt target iter : Expr} {scope : Scope} {pos : Pos} {I D ax : Addr} {W : List Addr} {items : Array Value}
    {cenv : Env} (hh : A.handled = none) (hne : ax ≠ I) (hDI : D ≠ I) (haD : ax ≠ D) (hIW : I ∉ W) (hDW : D ∉ W) (haW : ax ∉ W) (hsz : items.size ≤ sizeLine) (G : Heap → Prop) (Y : Nat → Value → Heap → Prop)
    (hG : ∀ h h', G h → (∀ b o, b ≠ I → b ≠ D → h.get? b = some o → h'.get? b = some o) → G h')
    (hY : ∀ i y h h', Y i y h → (∀ b o, b ∉ W → b ≠ I → b ≠ D → h.get? b = some o → h'.get? b = some o) → Y i y h')
    (h0 : G s.heap) (hI : s.heap.IsListIter I ax 0) (hl : s.heap.IsList ax items) (hD : s.heap.PlainList D #[])
    (turn : ∀ i v h tk (E : Value → Shared → Prop), items[i]? = some v → G h → h.IsListIter I ax (i + 1) → (∃ o, h.get? D = some o) →
      wpAny (model prog w) A (letOwnedTupleGo target (.ref I) v) (fun _ s₁ => wpAny (model prog w) A (assign target cenv v) (fun _ s₂ => wpAny (model prog w) A (eval elt cenv) (fun y s₄ =>
        ∃ h4 tk4, s₄ = { s with heap := h4, toks := tk4 } ∧ (∀ b o, b ∉ W → h.get? b = some o → h4.get? b = some o) ∧ G h4 ∧ Y i y h4) E s₂) E s₁) E { s with heap := h, toks := tk })
    (done : ∀ (ys : List Value) h tk, G h → h.PlainList D ys.toArray → ys.length = items.size → (∀ i y, ys[i]? = some y → Y i y h) → R (.ok .next) { s with heap := h, toks := tk }) :
    codeAny (model prog w) A (.compLoop (.ListComp elt [⟨target, iter, [], 0⟩] scope pos) 0 (.ref I) (.ref D) cenv) R s := by
  refine kcp_loop (fun k s' => ∃ i h tk, ∃ ys : List Value, s' = { s with heap := h, toks := tk } ∧ i ≤ items.size ∧ k = items.size + 1 - i ∧ ys.length = i ∧ G h ∧ h.IsListIter I ax i ∧ h.IsList ax items ∧ h.PlainList D ys.toArray ∧ ∀ i y, ys[i]? = some y → Y i y h) ?_ (items.size + 1)
    (i4_9 0 s.heap s.toks [] rfl (Nat.zero_le _) rfl rfl h0 hI hl hD (fun i y e => by simp at e))
  (rintro k s' h9q; (with_reducible refine x4_1 h9q fun i h tk ys q9z => x0_9 q9z fun r91 hi r92 hyl g hit hli hpl hy => ?_
                     clear q9z
                     try clear h9q
                     obtain rfl := r91
                     obtain rfl := r92))
  by_cases hlt : i < items.size
  · have hv : items[i]? = some items[i] := by simp [hlt]
    refine wpAny_pyNext_list_item hit hli hv fun h1 hit1 hs1 => ?_
    have k1 : ∀ b o, b ≠ I → h.get? b = some o → h1.get? b = some o := fun b o hb e => hs1.extBut b o hb e
    have g1 := hG h h1 g fun b o hb _ e => k1 b o hb e
    refine wpAny_mono (turn i _ h1 tk _ hv g1 hit1 (let ⟨_, e⟩ := hpl; ⟨_, k1 D _ hDI e⟩)) (fun _ s2 t2 => wpAny_mono t2 (fun _ s3 t3 => wpAny_mono t3 (fun y s4 t4 => ?_) fun _ _ e => e) fun _ _ e => e) fun _ _ e => e
    (with_reducible refine x2_4 t4 fun h4 tk4 r93 k4 g4 y4 => ?_
     try clear t4
     obtain rfl := r93)
    have pl4 : h4.PlainList D ys.toArray := (hpl.at fun o e => k1 D o hDI e).at fun o e => k4 D o hDW e
    refine wpAny_list_append_plain (hsz := by rw [List.size_toArray]; omega) pl4 fun h5 hl5 hs5 => ?_
    have k5 : ∀ b o, b ≠ D → h4.get? b = some o → h5.get? b = some o := fun b o hb e => hs5.extBut b o hb e
    refine (i1_2 (items.size + 1 - (i + 1)) (by omega) (i4_9 (i + 1) h5 tk4 (ys ++ [y]) rfl hlt rfl (by simp [hyl]) (hG h4 h5 g4 fun b o _ hb e => k5 b o hb e) (hit1.at fun o e => k5 I o hDI.symm (k4 I o hIW e)) ((hli.at fun o e => k1 ax o hne e).at fun o e => k5 ax o haD (k4 ax o haW e)) (by simpa using hl5) (fun j y' e => ?_)))
    by_cases hj : j < ys.length
    · rw [List.getElem?_append_left hj] at e
      exact hY j y' h h5 (hy j y' e) fun b o b1 b2 b3 e => k5 b o b3 (k4 b o b1 (k1 b o b2 e))
    · rw [List.getElem?_append_right (by omega)] at e
      obtain ⟨hj0, e⟩ : j - ys.length = 0 ∧ y' = y := by
        cases hq : j - ys.length with
        | zero => rw [hq] at e; exact ⟨rfl, by simpa using e.symm⟩
        | succ q => rw [hq] at e; simp at e
      subst e
      rw [show j = i by omega]
      exact hY i y' h4 h5 y4 fun b o b1 b2 b3 e => k5 b o b3 e
  · have hie : i = items.size := by omega
    subst hie
    refine wpAny_pyNext_list_end hh hit hli (by simp) fun h1 hx1 => ?_
    exact done ys h1 tk (hG h h1 g fun b o hb _ e => hx1 b o hb e) (hpl.at fun o e => hx1 D o hDI e) hyl fun j y e => hY j y h h1 (hy j y e) fun b o _ b2 _ e => hx1 b o b2 e
theorem loop_pure {prog : Program} {w : World} {A : Around} {R : Result → Shared → Prop} {s : Shared} {elt target iter : Expr} {scope : Scope} {pos : Pos} {I D ax : Addr} {W : List Addr} {items : Array Value}
    {cenv : Env} (hh : A.handled = none) (hne : ax ≠ I) (hDI : D ≠ I) (haD : ax ≠ D) (hIW : I ∉ W) (hDW : D ∉ W) (haW : ax ∉ W) (hsz : items.size ≤ sizeLine) (G : Heap → Prop) (Y : Nat → Value → Heap → Prop)
    (hG : ∀ h h', G h → (∀ b o, b ≠ I → b ≠ D → h.get? b = some o → h'.get? b = some o) → G h')
    (hY : ∀ i y h h', Y i y h → (∀ b o, b ∉ W → b ≠ I → b ≠ D → h.get? b = some o → h'.get? b = some o) → Y i y h')
    (h0 : G s.heap) (hI : s.heap.IsListIter I ax 0) (hl : s.heap.IsList ax items) (hD : s.heap.PlainList D #[])
    (turn : ∀ i v h tk (E : Value → Shared → Prop), items[i]? = some v → G h → h.IsListIter I ax (i + 1) →
      wpAny (model prog w) A (letOwnedTupleGo target (.ref I) v) (fun _ s₁ => wpAny (model prog w) A (assign target cenv v) (fun _ s₂ => wpAny (model prog w) A (eval elt cenv) (fun y s₄ =>
        ∃ h4 tk4, s₄ = { s with heap := h4, toks := tk4 } ∧ (∀ b o, b ∉ W → h.get? b = some o → h4.get? b = some o) ∧ G h4 ∧ Y i y h4) E s₂) E s₁) E { s with heap := h, toks := tk })
    (done : ∀ (ys : List Value) h tk, G h → h.PlainList D ys.toArray → ys.length = items.size → (∀ i y, ys[i]? = some y → Y i y h) → R (.ok .next) { s with heap := h, toks := tk }) :
    codeAny (model prog w) A (.compLoop (.ListComp elt [⟨target, iter, [], 0⟩] scope pos) 0 (.ref I) (.ref D) cenv) R s :=
  loop_pureX hh hne hDI haD hIW hDW haW hsz G Y hG hY h0 hI hl hD (fun i v h tk E a b c _ => turn i v h tk E a b c) done
theorem lc_pureX {prog : Program} {w : World} {A : Around} {E : Value → Shared → Prop} {s : Shared} {env : Env} {elt target iter : Expr} {scope : Scope} {cl : List (Str × Addr)} {pos : Pos} {ax : Addr} {items : Array Value} {Q : Value → Shared → Prop}
    (hclos : closureFor scope env = pure cl) (hcell : ∀ y ∈ scope.names, y.2 ≠ .cell) (hkind : scope.kind = .function)
    (hnames : ∀ y ∈ scope.names, y.2 = .local → scope.names.lookup y.1 = some .local) (hh : A.handled = none)
    (hi : wpAny (model prog w) A (eval iter env) (fun v s' => v = .ref ax ∧ s' = s) E s) (hl : s.heap.IsList ax items) (hsz : items.size ≤ sizeLine) (X : List Addr) (hX : ∀ b ∈ X, b < s.heap.objs.size) (haX : ax ∉ X) (G2 : Addr → Addr → Addr → Heap → Prop)
    (hG2 : ∀ C D I h h', G2 C D I h → (∀ b o, b ≠ C → b ≠ I → b ≠ D → h.get? b = some o → h'.get? b = some o) → G2 C D I h')
    (g20 : ∀ C D I h, s.heap.objs.size ≤ C → s.heap.objs.size ≤ D → s.heap.objs.size ≤ I → C < h.objs.size → D < h.objs.size → I < h.objs.size → s.heap.StaysIn h → G2 C D I h) (Y : Nat → Value → Addr → Addr → Addr → Heap → Prop)
    (hY : ∀ C D I i y h h', Y i y C D I h → (∀ b o, b ∉ X → b ≠ C → b ≠ I → b ≠ D → h.get? b = some o → h'.get? b = some o) → Y i y C D I h')
    (turn : ∀ C D I i v h tk (E : Value → Shared → Prop), s.heap.objs.size ≤ C → s.heap.objs.size ≤ D → s.heap.objs.size ≤ I → C < h.objs.size → D < h.objs.size → I < h.objs.size → items[i]? = some v → G2 C D I h → (∃ m, h.Ns C m) → h.IsListIter I ax (i + 1) → (∃ o, h.get? D = some o) →
      wpAny (model prog w) A (letOwnedTupleGo target (.ref I) v) (fun _ s₁ => wpAny (model prog w) A (assign target (compEnvC scope cl C env) v) (fun _ s₂ => wpAny (model prog w) A (eval elt (compEnvC scope cl C env)) (fun y s₄ =>
        ∃ h4 tk4, s₄ = { s with heap := h4, toks := tk4 } ∧ (∀ b o, b ≠ C → b ∉ X → h.get? b = some o → h4.get? b = some o) ∧ (∃ m, h4.Ns C m) ∧ G2 C D I h4 ∧ Y i y C D I h4) E s₂) E s₁) E { s with heap := h, toks := tk })
    (done : ∀ C D I (ys : List Value) h tk, s.heap.objs.size ≤ D → s.heap.objs.size ≤ C → s.heap.objs.size ≤ I → G2 C D I h → h.PlainList D ys.toArray → ys.length = items.size → (∀ i y, ys[i]? = some y → Y i y C D I h) → Q (.ref D) { s with heap := h, toks := tk })
    (hs : ∀ x, foldedSetIterable iter env x = pure x := by intro _; rfl) :
    wpAny (model prog w) A (eval (.ListComp elt [⟨target, iter, [], 0⟩] scope pos) env) Q E s := by
  rw [eval_ListComp]
  refine wpAny_comprehension_free (use := none) rfl hs hclos hkind hnames (wpAny_mono hi (fun xv s₁ h₁ => ?_) fun _ _ e => e)
  obtain ⟨rfl, rfl⟩ := h₁
  refine wpAny_pyIter_list hl ?_
  generalize hH1 : s₁.heap.push { cls := .type "list_iterator", data := .fields #[.ref ax, .int 0 0] } = H1
  have up1 : s₁.heap.StaysIn H1 := fun b o e => hH1 ▸ Heap.get?_push_of_some _ e
  have hI0 : H1.IsListIter s₁.heap.objs.size ax 0 := hH1 ▸ (i1_3 _ (Heap.get?_push_size _ rfl) rfl rfl)
  have hz1 : H1.objs.size = s₁.heap.objs.size + 1 := by rw [← hH1, Heap.size_push]
  refine wpAny_newObj_type (wpAny_newFunctionEnv hcell (by intro y hy; simp at hy) (fun h₁ hns₁ hsb₁ => ?_) hkind)
  dsimp only at hns₁ hsb₁ ⊢
  generalize hH2 : H1.push { cls := .type "list", dict := none, data := .seq ([] : List Value).toArray } = H2 at hns₁ hsb₁ ⊢
  have hC : H2.objs.size = s₁.heap.objs.size + 2 := by rw [← hH2, Heap.size_push, hz1]
  have keep : ∀ b o, b < s₁.heap.objs.size + 2 → H2.get? b = some o → h₁.get? b = some o := fun b o hb e => hsb₁.extBut b o (by rw [hC]; exact Nat.ne_of_lt hb) (Heap.get?_push_of_some _ e)
  have up2 : H1.StaysIn H2 := fun b o e => hH2 ▸ Heap.get?_push_of_some _ e
  have up : s₁.heap.StaysIn h₁ := fun b o e => keep b o (Nat.lt_of_lt_of_le (Heap.lt_size e) (Nat.le_add_right _ _)) (up2 b o (up1 b o e))
  have hlt : ax < s₁.heap.objs.size := by (refine x1_2 hl fun _ e _ => ?_
                                           try clear hl); exact Heap.lt_size e
  have hacc : h₁.PlainList H1.objs.size #[] := ⟨_, keep _ _ (by rw [hz1]; exact Nat.lt_succ_self _) (hH2 ▸ Heap.get?_push_size _ rfl)⟩
  have n1 : H1.objs.size ≠ s₁.heap.objs.size := by rw [hz1]; exact Nat.succ_ne_self _
  have n2 : s₁.heap.objs.size ≠ H2.objs.size := by rw [hC]; omega
  have n3 : H1.objs.size ≠ H2.objs.size := by rw [hC, hz1]; omega
  have hsz2 : ∀ h : Heap, (∃ m, h.Ns H2.objs.size m) → H2.objs.size < h.objs.size := fun h ⟨m, hm⟩ => hm.lt
  have y1 : s₁.heap.objs.size ≤ H2.objs.size := by rw [hC]; omega
  have y2 : s₁.heap.objs.size ≤ H1.objs.size := by rw [hz1]; omega
  have y3 : H2.objs.size < h₁.objs.size := hsz2 _ ⟨_, hns₁⟩
  have y4 : H1.objs.size < h₁.objs.size := Nat.lt_of_le_of_lt (by rw [hC, hz1]; omega) y3
  have y5 : s₁.heap.objs.size < h₁.objs.size := Nat.lt_of_le_of_lt y1 y3
  have loop : ∀ tk, codeAny (model prog w) A (.compLoop (.ListComp elt [⟨target, iter, [], 0⟩] scope pos) 0 (.ref s₁.heap.objs.size) (.ref H1.objs.size) (compEnvC scope cl H2.objs.size env))
      (compPost (model prog w) A E none Q (.ref H1.objs.size) H2.objs.size) { s₁ with heap := h₁, toks := tk } := fun tk => by
    refine loop_pureX (W := H2.objs.size :: X) hh (Nat.ne_of_lt hlt) n1 (by rw [hz1]; exact Nat.ne_of_lt (Nat.lt_succ_of_lt hlt)) (by simp only [List.mem_cons, not_or]; exact ⟨n2, fun q => Nat.lt_irrefl _ (hX _ q)⟩) (by simp only [List.mem_cons, not_or]; exact ⟨n3, fun q => by have this : H1.objs.size < s₁.heap.objs.size := hX _ q; rw [hz1] at this; exact absurd this (Nat.not_lt.mpr (Nat.le_succ _))⟩) (by simp only [List.mem_cons, not_or]; exact ⟨by rw [hC]; exact Nat.ne_of_lt (Nat.lt_succ_of_lt (Nat.lt_succ_of_lt hlt)), haX⟩) hsz
      (fun h => G2 H2.objs.size H1.objs.size s₁.heap.objs.size h ∧ ∃ m, h.Ns H2.objs.size m) (fun i y h => Y i y H2.objs.size H1.objs.size s₁.heap.objs.size h)
      (fun h h' g k => ⟨hG2 _ _ _ h h' g.1 fun b o _ b2 b3 e => k b o b2 b3 e, let ⟨m, hm⟩ := g.2; ⟨m, hm.at' fun o e => k _ o n2.symm n3.symm e⟩⟩)
      (fun i y h h' q k => hY _ _ _ i y h h' q fun b o b0 b1 b2 b3 e => k b o (fun q => (List.mem_cons.mp q).elim b1 b0) b2 b3 e)
      ⟨g20 _ _ _ _ y1 y2 (Nat.le_refl _) y3 y4 y5 up, _, hns₁⟩ (hI0.at fun o e => keep _ _ (by omega) (up2 _ _ e)) (hl.at fun o e => up _ _ e) hacc ?_ ?_
    · intro i v h tk' E' hv g hit hDo
      have z := hsz2 h g.2
      have z1 : H1.objs.size < h.objs.size := Nat.lt_of_le_of_lt (by rw [hC, hz1]; omega) z
      have z2 : s₁.heap.objs.size < h.objs.size := Nat.lt_of_le_of_lt (by rw [hC]; omega) z
      refine wpAny_mono (turn H2.objs.size H1.objs.size s₁.heap.objs.size i v h tk' E' (by rw [hC]; omega) (by rw [hz1]; omega) (Nat.le_refl _) z z1 z2 hv g.1 g.2 hit hDo) (fun _ s2 t2 => wpAny_mono t2 (fun _ s3 t3 => wpAny_mono t3 (fun y s4 t4 => ?_) fun _ _ e => e) fun _ _ e => e) fun _ _ e => e
      (with_reducible refine x2_5 t4 fun h4 tk4 r94 k4 g4 g5 y4 => ?_
       try clear t4
       obtain rfl := r94)
      exact (i2_4 h4 tk4 rfl (fun b o hb e => k4 b o (fun q => hb (q ▸ List.Mem.head _)) (fun q => hb (List.Mem.tail _ q)) e) ⟨g5, g4⟩ y4)
    · intro ys h tk' g pl hyl hy
      obtain ⟨m, hm⟩ := g.2
      refine ⟨m, hm, fun h' hs' => ?_⟩
      refine done H2.objs.size H1.objs.size s₁.heap.objs.size ys h' tk' (by rw [hz1]; omega) (by rw [hC]; omega) (Nat.le_refl _) (hG2 _ _ _ h h' g.1 fun b o b1 _ _ e => hs'.extBut b o b1 e) (pl.at fun o e => hs'.extBut _ o n3 e) hyl fun i y e => ?_
      exact hY _ _ _ i y h h' (hy i y e) fun b o _ b1 _ _ e => hs'.extBut b o b1 e
  exact codeAny_compStart_list (loop _) (Walks.list hh s₁.heap.objs.size ax (Nat.ne_of_lt hlt) items |>.self 0 _ _ _ ⟨hI0.at fun o e => keep _ _ (by omega) (up2 _ _ e), hl.at fun o e => up _ _ e⟩ (loop _))
theorem lc_pure0 {prog : Program} {w : World} {A : Around} {E : Value → Shared → Prop} {s : Shared} {env : Env} {elt target iter : Expr} {scope : Scope} {cl : List (Str × Addr)} {pos : Pos} {ax : Addr} {items : Array Value} {Q : Value → Shared → Prop}
    (hclos : closureFor scope env = pure cl) (hcell : ∀ y ∈ scope.names, y.2 ≠ .cell) (hkind : scope.kind = .function)
    (hnames : ∀ y ∈ scope.names, y.2 = .local → scope.names.lookup y.1 = some .local) (hh : A.handled = none)
    (hi : wpAny (model prog w) A (eval iter env) (fun v s' => v = .ref ax ∧ s' = s) E s) (hl : s.heap.IsList ax items) (hsz : items.size ≤ sizeLine) (Y : Nat → Value → Addr → Addr → Addr → Heap → Prop)
    (hY : ∀ C D I i y h h', Y i y C D I h → (∀ b o, b ≠ C → b ≠ I → b ≠ D → h.get? b = some o → h'.get? b = some o) → Y i y C D I h')
    (turn : ∀ C D I i v h tk (E : Value → Shared → Prop), s.heap.objs.size ≤ C → s.heap.objs.size ≤ D → s.heap.objs.size ≤ I → C < h.objs.size → D < h.objs.size → I < h.objs.size → items[i]? = some v → s.heap.StaysIn h → (∃ m, h.Ns C m) → h.IsListIter I ax (i + 1) →
      wpAny (model prog w) A (letOwnedTupleGo target (.ref I) v) (fun _ s₁ => wpAny (model prog w) A (assign target (compEnvC scope cl C env) v) (fun _ s₂ => wpAny (model prog w) A (eval elt (compEnvC scope cl C env)) (fun y s₄ =>
        ∃ h4 tk4, s₄ = { s with heap := h4, toks := tk4 } ∧ (∀ b o, b ≠ C → h.get? b = some o → h4.get? b = some o) ∧ (∃ m, h4.Ns C m) ∧ Y i y C D I h4) E s₂) E s₁) E { s with heap := h, toks := tk })
    (done : ∀ C D I (ys : List Value) h tk, s.heap.objs.size ≤ D → s.heap.StaysIn h → h.PlainList D ys.toArray → ys.length = items.size → (∀ i y, ys[i]? = some y → Y i y C D I h) → Q (.ref D) { s with heap := h, toks := tk })
    (hs : ∀ x, foldedSetIterable iter env x = pure x := by intro _; rfl) :
    wpAny (model prog w) A (eval (.ListComp elt [⟨target, iter, [], 0⟩] scope pos) env) Q E s := by
  refine lc_pureX hclos hcell hkind hnames hh hi hl hsz [] (fun b h => nomatch h) (fun h => nomatch h) (fun C D I h => s.heap.objs.size ≤ C ∧ s.heap.objs.size ≤ D ∧ s.heap.objs.size ≤ I ∧ s.heap.StaysIn h) ?_ ?_ Y ?_ ?_ ?_ hs
  · intro C D I h h' g k
    exact ⟨g.1, g.2.1, g.2.2.1, fun b o e => k b o (Nat.ne_of_lt (Nat.lt_of_lt_of_le (Heap.lt_size e) g.1)) (Nat.ne_of_lt (Nat.lt_of_lt_of_le (Heap.lt_size e) g.2.2.1)) (Nat.ne_of_lt (Nat.lt_of_lt_of_le (Heap.lt_size e) g.2.1)) (g.2.2.2 b o e)⟩
  · intro C D I h a b c _ _ _ st; exact ⟨a, b, c, st⟩
  · intro C D I i y h h' q k; exact hY _ _ _ _ _ _ _ q fun b o b1 b2 b3 e => k b o (fun z => nomatch z) b1 b2 b3 e
  · intro C D I i v h tk E a b c d e f hv g m it _
    refine wpAny_mono (turn C D I i v h tk E a b c d e f hv g.2.2.2 m it) (fun _ s₁ h₁ => wpAny_mono h₁ (fun _ s₂ h₂ => wpAny_mono h₂ (fun y s₄ t => ?_) fun _ _ e => e) fun _ _ e => e) fun _ _ e => e
    obtain ⟨h4, tk4, r, k4, g4, y4⟩ := t
    exact ⟨h4, tk4, r, fun b o hb _ e => k4 b o hb e, g4, ⟨g.1, g.2.1, g.2.2.1, fun b o e => k4 b o (Nat.ne_of_lt (Nat.lt_of_lt_of_le (Heap.lt_size e) g.1)) (g.2.2.2 b o e)⟩, y4⟩
  · intro C D I ys h tk a _ _ g; exact done C D I ys h tk a g.2.2.2
theorem lc_pure1 {prog : Program} {w : World} {A : Around} {E : Value → Shared → Prop} {s : Shared} {env : Env} {elt target iter : Expr} {scope : Scope} {cl : List (Str × Addr)} {x : Str} {pos : Pos} {ax : Addr} {items : Array Value} {Q : Value → Shared → Prop}
    (hclos : closureFor scope env = pure cl) (hone : ∀ k acc, cellsFrom k scope.names acc = (x, k) :: acc) (hpush : ∀ h, pushCells h scope.names = h.push { cls := .type "cell", data := .cell none }) (hkind : scope.kind = .function)
    (hnames : ∀ y ∈ scope.names, y.2 = .local → scope.names.lookup y.1 = some .local) (hh : A.handled = none)
    (hi : wpAny (model prog w) A (eval iter env) (fun v s' => v = .ref ax ∧ s' = s) E s) (hl : s.heap.IsList ax items) (hsz : items.size ≤ sizeLine) (Y : Nat → Value → Addr → Addr → Addr → Addr → Heap → Prop)
    (hY : ∀ C D I K i y h h', Y i y C D I K h → (∀ b o, b ≠ C → b ≠ K → b ≠ I → b ≠ D → h.get? b = some o → h'.get? b = some o) → Y i y C D I K h')
    (turn : ∀ C D I K i v h tk (E : Value → Shared → Prop), s.heap.objs.size ≤ C → s.heap.objs.size ≤ D → s.heap.objs.size ≤ I → s.heap.objs.size ≤ K → C < h.objs.size → D < h.objs.size → I < h.objs.size → K < h.objs.size → items[i]? = some v → s.heap.StaysIn h → (∃ m, h.Ns C m) → (∃ v, h.IsCell K v) → h.IsListIter I ax (i + 1) → K ≠ C →
      wpAny (model prog w) A (letOwnedTupleGo target (.ref I) v) (fun _ s₁ => wpAny (model prog w) A (assign target (compEnvC scope ((x, K) :: cl) C env) v) (fun _ s₂ => wpAny (model prog w) A (eval elt (compEnvC scope ((x, K) :: cl) C env)) (fun y s₄ =>
        ∃ h4 tk4, s₄ = { s with heap := h4, toks := tk4 } ∧ (∀ b o, b ≠ C → b ≠ K → h.get? b = some o → h4.get? b = some o) ∧ (∃ m, h4.Ns C m) ∧ (∃ v, h4.IsCell K v) ∧ Y i y C D I K h4) E s₂) E s₁) E { s with heap := h, toks := tk })
    (done : ∀ C D I K (ys : List Value) h tk, s.heap.objs.size ≤ D → s.heap.StaysIn h → h.PlainList D ys.toArray → ys.length = items.size → (∀ i y, ys[i]? = some y → Y i y C D I K h) → Q (.ref D) { s with heap := h, toks := tk })
    (hs : ∀ x, foldedSetIterable iter env x = pure x := by intro _; rfl) :
    wpAny (model prog w) A (eval (.ListComp elt [⟨target, iter, [], 0⟩] scope pos) env) Q E s := by
  rw [eval_ListComp]
  refine wpAny_comprehension_free (use := none) rfl hs hclos hkind hnames (wpAny_mono hi (fun xv s₁ h₁ => ?_) fun _ _ e => e)
  obtain ⟨rfl, rfl⟩ := h₁
  refine wpAny_pyIter_list hl ?_
  generalize hH1 : s₁.heap.push { cls := .type "list_iterator", data := .fields #[.ref ax, .int 0 0] } = H1
  have up1 : s₁.heap.StaysIn H1 := fun b o e => hH1 ▸ Heap.get?_push_of_some _ e
  have hI0 : H1.IsListIter s₁.heap.objs.size ax 0 := hH1 ▸ (i1_3 _ (Heap.get?_push_size _ rfl) rfl rfl)
  have hz1 : H1.objs.size = s₁.heap.objs.size + 1 := by rw [← hH1, Heap.size_push]
  refine wpAny_newObj_type ?_
  simp only [newFunctionEnv, Option.isSome_some, if_true]
  refine wpAny_bind (wpAny_alloc (wpAny_bind (wpAny_layCells _ (fun name kind cells => by cases hkc : kind == NameKind.cell <;> simp [hkc]) _ _ _ _ ?_)))
  rw [List.forIn_nil]
  refine wpAny_bind (wpAny_pure (wpAny_pure ?_))
  simp only [hone, hpush]
  generalize hH2 : H1.push { cls := .type "list", dict := none, data := .seq ([] : List Value).toArray } = H2
  generalize hH3 : H2.push { cls := .type "dict", data := .dict #[] } = H3
  generalize hh1 : H3.push { cls := .type "cell", data := .cell none } = h₁
  have hC : H2.objs.size = s₁.heap.objs.size + 2 := by rw [← hH2, Heap.size_push, hz1]
  have hK : H3.objs.size = s₁.heap.objs.size + 3 := by rw [← hH3, Heap.size_push, hC]
  have up2 : H1.StaysIn H2 := fun b o e => hH2 ▸ Heap.get?_push_of_some _ e
  have up3 : H2.StaysIn h₁ := fun b o e => hh1 ▸ Heap.get?_push_of_some _ (hH3 ▸ Heap.get?_push_of_some _ e)
  have up : s₁.heap.StaysIn h₁ := fun b o e => up3 b o (up2 b o (up1 b o e))
  have hlt : ax < s₁.heap.objs.size := by (refine x1_2 hl fun _ e _ => ?_
                                           try clear hl); exact Heap.lt_size e
  have hacc : h₁.PlainList H1.objs.size #[] := ⟨_, up3 _ _ (hH2 ▸ Heap.get?_push_size _ rfl)⟩
  have hns₁ : h₁.Ns H2.objs.size (fun _ => none) := (Heap.Ns.new H2 (.type "dict")).keeps fun b o e => hh1 ▸ Heap.get?_push_of_some _ (hH3 ▸ e)
  have hcl : h₁.IsCell H3.objs.size none := ⟨_, hh1 ▸ Heap.get?_push_size _ rfl, rfl⟩
  generalize hd : H1.objs.size = D at *
  generalize hc : H2.objs.size = C at *
  generalize hk : H3.objs.size = K at *
  generalize hi : s₁.heap.objs.size = I at *
  have n1 : D ≠ I := Nat.ne_of_gt (by omega)
  have n2 : I ≠ C := Nat.ne_of_lt (by omega)
  have n3 : D ≠ C := Nat.ne_of_lt (by omega)
  have n4 : I ≠ K := Nat.ne_of_lt (by omega)
  have n5 : D ≠ K := Nat.ne_of_lt (by omega)
  have n6 : C ≠ K := Nat.ne_of_lt (by omega)
  have old : ∀ b o, s₁.heap.get? b = some o → b ≠ I ∧ b ≠ D ∧ b ≠ C ∧ b ≠ K := fun b o e => by
    have := Heap.lt_size e
    rw [hi] at this
    exact ⟨Nat.ne_of_lt this, lt5 hz1 this, lt5 hC this, lt5 hK this⟩
  have hsz2 : ∀ h : Heap, (∃ v, h.IsCell K v) → K < h.objs.size := fun h ⟨m, _, hm, _⟩ => Heap.lt_size hm
  (obtain q81 := id hl
   refine x1_2 q81 fun ol hol rl => ?_
   clear q81)
  have oax := old _ _ hol
  have loop : ∀ tk, codeAny (model prog w) A (.compLoop (.ListComp elt [⟨target, iter, [], 0⟩] scope pos) 0 (.ref I) (.ref D) (compEnvC scope ((x, K) :: cl) C env))
      (compPost (model prog w) A E none Q (.ref D) C) { s₁ with heap := h₁, toks := tk } := fun tk => by
    refine loop_pure (W := [C, K]) hh oax.1 n1 oax.2.1 (by simp [n2, n4]) (by simp [n3, n5]) (by simp [oax.2.2.1, oax.2.2.2]) hsz
      (fun h => s₁.heap.StaysIn h ∧ (∃ m, h.Ns C m) ∧ ∃ v, h.IsCell K v) (fun i y h => Y i y C D I K h)
      (fun h h' g k => ⟨fun b o e => k b o (old b o e).1 (old b o e).2.1 (g.1 b o e), (let ⟨m, hm⟩ := g.2.1; ⟨m, hm.at' fun o e => k _ o n2.symm n3.symm e⟩), let ⟨v, o, ho, hv⟩ := g.2.2; (i2_2 v o (k _ o n4.symm n5.symm ho) hv)⟩)
      (fun i y h h' q k => hY _ _ _ _ i y h h' q fun b o b1 b2 b3 b4 e => k b o (by simp [b1, b2]) b3 b4 e)
      ⟨up, ⟨_, hns₁⟩, _, hcl⟩ (hI0.at fun o e => up3 _ _ (up2 _ _ e)) (hl.at fun o e => up _ _ e) hacc ?_ ?_
    · intro i v h tk' E' hv g hit
      have z : @LT.lt Nat _ K h.objs.size := hsz2 h g.2.2
      have zC := lt3 hC hK z (by decide)
      have zD := lt3 hz1 hK z (by decide)
      have zI := lt3 (show I = I + 0 from rfl) hK z (by decide)
      refine wpAny_mono (turn C D I K i v h tk' E' (lt4 rfl hC) (lt4 rfl hz1) (Nat.le_refl _) (lt4 rfl hK) zC zD zI z hv g.1 g.2.1 g.2.2 hit n6.symm) (fun _ s2 t2 => wpAny_mono t2 (fun _ s3 t3 => wpAny_mono t3 (fun y s4 t4 => ?_) fun _ _ e => e) fun _ _ e => e) fun _ _ e => e
      (with_reducible refine x2_5 t4 fun h4 tk4 r95 k4 g4 c4 y4 => ?_
       try clear t4
       obtain rfl := r95)
      exact (i2_4 h4 tk4 rfl (fun b o hb e => k4 b o (fun q => hb (by simp [q])) (fun q => hb (by simp [q])) e) ⟨fun b o e => k4 b o (old b o e).2.2.1 (old b o e).2.2.2 (g.1 b o e), g4, c4⟩ y4)
    · intro ys h tk' g pl hyl hy
      obtain ⟨m, hm⟩ := g.2.1
      refine ⟨m, hm, fun h' hs' => ?_⟩
      refine done C D I K ys h' tk' (lt4 rfl hz1) (fun b o e => hs'.extBut b o (old b o e).2.2.1 (g.1 b o e)) (pl.at fun o e => hs'.extBut _ o n3 e) hyl fun i y e => ?_
      exact hY _ _ _ _ i y h h' (hy i y e) fun b o b1 _ _ _ e => hs'.extBut b o b1 e
  exact codeAny_compStart_list (loop _) (Walks.list hh I ax oax.1 items |>.self 0 _ _ _ ⟨hI0.at fun o e => up3 _ _ (up2 _ _ e), hl.at fun o e => up _ _ e⟩ (loop _))
end Mine
end PartF1

section PartF2
open PySem PySem.W PyProof.Rows PySem.Calls
set_option Elab.async false
set_option maxRecDepth 100000
set_option maxHeartbeats 4000000
set_option linter.unusedVariables false
set_option rowWalk.seconds 0
namespace Mine
open TI (Frs SameUp)
structure RecRow (v : Heap) (l : Addr) (rs : List Addr) (as : List Rec) : Prop where
  list : v.IsList l (rs.map Value.ref).toArray
  len : rs.length = as.length
  at_ : ∀ (i : Nat) (r : Addr) (a : Rec), rs[i]? = some r → as[i]? = some a → RecAt v r a
theorem IsList.ext {h h' : Heap} {l : Addr} {xs : Array Value} (x : h.IsList l xs) (e : h.StaysIn h') : h'.IsList l xs := let ⟨o, ho, r⟩ := x; ⟨o, e _ _ ho, r⟩
theorem RecRow.ext {h h' : Heap} {l : Addr} {rs : List Addr} {as : List Rec} (x : RecRow h l rs as) (e : h.StaysIn h') : RecRow h' l rs as := ⟨IsList.ext x.list e, x.len, fun i r a h1 h2 => (x.at_ i r a h1 h2).ext e⟩
noncomputable def rankOf (rs : List (Int × Int)) (a : Rec) : List Int := rs.map fun r => if 0 < r.2 then colOf r.1 a else - colOf r.1 a
noncomputable def IntRow (v : Heap) (b : Addr) (ns : List Int) : Prop := ∃ vs, v.IsList b vs.toArray ∧ IntsAre vs ns
theorem IntRow.ext {h h' : Heap} {b : Addr} {ns : List Int} (x : IntRow h b ns) (e : h.StaysIn h') : IntRow h' b ns := let ⟨vs, a, b⟩ := x; ⟨vs, IsList.ext a e, b⟩
structure RankRow (v : Heap) (a : Addr) (bs : List Addr) (rows : List (List Int)) : Prop where
  list : v.IsList a (bs.map Value.ref).toArray
  len : bs.length = rows.length
  at_ : ∀ (i : Nat) (b : Addr) (r : List Int), bs[i]? = some b → rows[i]? = some r → IntRow v b r
theorem RankRow.ext {h h' : Heap} {l : Addr} {bs : List Addr} {rows : List (List Int)} (x : RankRow h l bs rows) (e : h.StaysIn h') : RankRow h' l bs rows := ⟨IsList.ext x.list e, x.len, fun i r a h1 h2 => (x.at_ i r a h1 h2).ext e⟩
theorem IntsAre.of_getElem : ∀ {vs : List Value} {ns : List Int}, vs.length = ns.length → (∀ (i : Nat) v n, vs[i]? = some v → ns[i]? = some n → ∃ t, v = .int n t) → IntsAre vs ns
  | [], [], _, _ => .nil
  | v :: vs, n :: ns, hl, h => by
    obtain ⟨t, rfl⟩ := h 0 v n rfl rfl
    exact .cons n t (IntsAre.of_getElem (by simpa using hl) fun i v n h1 h2 => h (i + 1) v n (by simpa using h1) (by simpa using h2))
  | [], n :: ns, hl, _ => by simp at hl
  | v :: vs, [], hl, _ => by simp at hl
theorem ns_ex {h h' : Heap} {C : Addr} (x : ∃ m, h.Ns C m) (e : ∀ o, h.get? C = some o → h'.get? C = some o) : ∃ m, h'.Ns C m := let ⟨m, hm⟩ := x; ⟨m, hm.at' e⟩
theorem sub_rec {prog : Program} {w : World} {A : Around} {E : Value → Shared → Prop} {s : Shared} {value slice : PySem.Expr} {r : Addr} {a : Rec} {x : Int} {t : Tok} {Q : Value → Shared → Prop} (R : RecAt s.heap r a) (hx : x = 0 ∨ x = 1) (h : ∀ t, Q (.int (colOf x a) t) s)
    (hs : subscripted slice false (.ref r) (.int x t) = operate [.ref r, .int x t] (getItem (.ref r) (.int x t)) := by with_unfolding_all rfl) :
    wpAny (model prog w) A (subscriptTail value slice (.ref r) (.int x t)) Q E s := by
  (refine x3_1 R fun t0 t1 t2 hl => ?_
   try clear R)
  rcases hx with rfl | rfl
  · exact item_in hl (by decide) (by decide) rfl (h _) hs
  · exact item_in hl (by decide) (by decide) rfl (h _) hs
theorem far {b n c : Addr} (h : b < n) (k : n ≤ c) : c ≠ b := Nat.ne_of_gt (Nat.lt_of_lt_of_le h k)
theorem tgt_name {prog : Program} {w : World} {A : Around} {E : Value → Shared → Prop} {s : Shared} {x : Str} {p : Pos} {it v : Value} {Q : Unit → Shared → Prop} (h : Q () s) : wpAny (model prog w) A (letOwnedTupleGo (.Name x p) it v) Q E s :=
  wpAny_of_eq (show letOwnedTupleGo (.Name x p) it v = pure () from rfl) h
theorem c_ranks {w : World} {A : Around} {s : Shared} {row rules : Addr} {rs : List Addr} {as : List Rec} {ru : List (Int × Int)} (H : Here w A [] s.heap) (hh : A.handled = none) (hd : A.depth + 30 < recursionLimit)
    (R : RecRow (view A [] s.heap) row rs as) (hsz : as.length ≤ 1000) (P : PairRow (view A [] s.heap) rules ru) (hr2 : ru.length ≤ 2) (hru : ∀ r ∈ ru, r.1 = 0 ∨ r.1 = 1) :
    Quiet w A (call (.ref 91) [.ref row, .ref rules]) s (fun r v => ∃ a bs, r = .ref a ∧ RankRow v a bs (as.map (rankOf ru)) ∧ s.heap.objs.size ≤ a ∧ (∀ b ∈ bs, s.heap.objs.size ≤ b) ∧ ∃ n, v.get? a = some (W.listOf (bs.map Value.ref).toArray n)) := by
  intro Q E ret
  have X := H.frag
  have XS := X.keeps view_le
  revert XS X; k_fill; intro X XS
  refine wpAny_call ?_
  k_dflt (refine' enter_c (hid := []) (news := []) H ?hN (XS 91 _ (by k_is)) ?hd (codeRec_of XS ?hc) ?hr ?hb ?hl ?hnd ?_ ?hco ?hg ?hk; (case hN => exact fun _ h => nomatch h); (case hd => exact rfl); (case hc => k_is); (case hr => omega); (case hb => exact BindsTo.of_eq rfl); (case hl => exact rfl); (case hnd => decide); (case hco => exact rfl); (case hg => exact rfl); (case hk => exact rfl))
  clear XS X
  intro l frs p loose mean mg mb L' h' tk cells I' X' T' F' N' lt' Y'
  (obtain q81 := CellsAre.one Y'
   with_reducible refine x1_2 q81 fun oc r82 hoc => ?_
   clear q81
   obtain rfl := r82)
  have hcell0 : h'.IsCell (L' + 1) (some (.ref rules)) := ⟨oc, (N' _ (List.Mem.head _)).1, hoc⟩
  have hro := F'.keep
  have R' : RecRow h' row rs as := R.ext F'.keep
  have P' : PairRow h' rules ru := P.ext F'.keep
  refine wpAny_execs_cons (wpAny_Return_some ?_)
  refine lc_pure1 (x := "record") (ax := row) (by rfl) (fun _ _ => rfl) (fun _ => rfl) rfl (by decide) hh (nameX_L F' (by rfl) ⟨rfl, rfl⟩) R'.list (by simp [R.len]; rw [sizeLine_eq]; omega)
    (fun i y C D I K h => ∃ b a, y = .ref b ∧ b ≠ C ∧ b ≠ D ∧ b ≠ I ∧ b ≠ K ∧ h'.objs.size ≤ b ∧ as[i]? = some a ∧ IntRow h b (rankOf ru a)) ?hY ?turn ?done
  case hY =>
    (rintro C D I K i y h1 h2 h9q; (with_reducible refine x2_8 h9q fun b a r91 n1 n2 n3 n4 n5 n6 q92 => ?_
                                    try clear h9q
                                    obtain rfl := r91
                                    refine x1_2 q92 fun vs q93 q => ?_
                                    clear q92
                                    (refine x1_2 q93 fun o ho r => ?_
                                     try clear q93)); rintro k)
    exact (i2_8 b a rfl n1 n2 n3 n4 n5 n6 (i1_2 vs ⟨o, k b o n1 n4 n3 n2 ho, r⟩ q))
  case done =>
    intro C D I K ys h2 tk2 hD hst pl hl hy
    have F2 := F'.keeps hst
    have N2 := N'.grown hst
    have hb : ∀ i y, ys[i]? = some y → ∃ b, y = Value.ref b := fun i y e => by (obtain q94 := hy i y e
                                                                                with_reducible refine x2_2 q94 fun b a r95 c96 => ?_
                                                                                clear q94
                                                                                obtain rfl := r95
                                                                                clear c96); exact ⟨b, rfl⟩
    obtain ⟨bs, rfl⟩ : ∃ bs : List Addr, ys = bs.map Value.ref := by
      clear pl hl hy
      induction ys with
      | nil => exact ⟨[], rfl⟩
      | cons y ys ih =>
        obtain ⟨b, rfl⟩ := hb 0 y rfl
        obtain ⟨bs, rfl⟩ := ih fun i y e => hb (i + 1) y (by simpa using e)
        exact ⟨b :: bs, rfl⟩
    have hlb : bs.length = as.length := by simpa [R.len] using hl
    have hb2 : ∀ (i : Nat) b, bs[i]? = some b → h'.objs.size ≤ b ∧ ∃ a, as[i]? = some a ∧ IntRow h2 b (rankOf ru a) := fun i b e => by
      (obtain q97 := hy i (.ref b) (by simp [e])
       with_reducible refine x2_8 q97 fun b' a e1 _ _ _ _ n5 n6 q => ?_
       clear q97)
      cases e1
      exact ⟨n5, a, n6, q⟩
    have fr : ∀ b, h'.objs.size ≤ b → s.heap.objs.size ≤ b := fun b hb => Nat.le_trans I'.above (Nat.le_trans (Nat.le_of_lt F'.ns.lt) hb)
    have sv : ∀ b o, h'.objs.size ≤ b → h2.get? b = some o → (view A [] h2).get? b = some o := fun b o hb e => made_view I' (fun _ h => nomatch h) e (Nat.lt_of_lt_of_le F'.ns.lt hb)
    refine ret _ _ _ (ext_of I'.hl I'.fs I'.fr F2 N2 (SameUp.refl _) (Split.cons Split.nil) I'.above) (i2_5 D bs rfl ⟨?_, by simp [hlb], ?_⟩ (fr _ hD) (fun b hb => ?_) (pl.imp fun n e => sv _ _ hD e))
    · obtain ⟨n, e⟩ := pl
      exact (i1_3 _ (sv _ _ hD e) rfl ⟨n, rfl⟩)
    · intro i b r h1 h2'
      (obtain q98 := hb2 i b h1
       with_reducible refine x0_2 q98 fun hz q99 => ?_
       clear q98
       with_reducible refine x1_2 q99 fun a ha q910 => ?_
       clear q99
       refine x1_2 q910 fun vs q911 hv => ?_
       clear q910
       (refine x1_2 q911 fun o ho q => ?_
        try clear q911))
      rw [List.getElem?_map, ha] at h2'
      cases h2'
      exact ⟨vs, ⟨o, sv _ _ hz ho, q⟩, hv⟩
    · obtain ⟨i, e⟩ := List.mem_iff_getElem?.mp hb
      exact fr _ (hb2 i b e).1

  case turn =>
    intro C D I K i v h2 tk2 E' lC lD lI lK zC zD zI zK hv hst hns hcl hit hKC
    have hx : ∃ r a, v = .ref r ∧ as[i]? = some a ∧ RecAt h2 r a := by
      simp only [List.getElem?_toArray, List.getElem?_map, Option.map_eq_some_iff] at hv
      (with_reducible refine x1_2 hv fun r hr r83 => ?_
       try clear hv
       obtain rfl := r83)
      have hi : i < as.length := by rw [← R.len]; exact (List.getElem?_eq_some_iff.mp hr).1
      exact (i2_3 r (as[i]) rfl (List.getElem?_eq_getElem hi) ((R'.at_ i r _ hr (List.getElem?_eq_getElem hi)).ext hst))
    (with_reducible refine x2_3 hx fun r a r912 ha Ra => ?_
     try clear hx
     obtain rfl := r912)
    refine tgt_name ?_
    obtain ⟨v0, hcl⟩ := hcl
    refine wpAny_assign_Name (wpAny_storeName_cell (c := K) (by rfl) (by rfl) (by rfl) hcl fun h3 hc3 hs3 => ?_)
    have k3 : ∀ b o, b ≠ K → h2.get? b = some o → h3.get? b = some o := fun b o hb e => hs3.extBut b o hb e
    have st3 : h'.StaysIn h3 := fun b o e => k3 b o (fun q => by subst q; exact Nat.lt_irrefl _ (Nat.lt_of_lt_of_le (Heap.lt_size e) lK)) (hst b o e)
    have Ra3 : RecAt h3 r a := by
      (refine x4_1 Ra fun t0 t1 t2 o q9z => x0_2 q9z fun ho q => ?_
       clear q9z
       try clear Ra)
      refine ⟨t0, t1, t2, o, k3 _ _ (fun q' => ?_) ho, q⟩
      subst q'
      (refine x1_2 hcl fun oK hoK hdK => ?_
       try clear hcl)
      rw [ho] at hoK
      cases hoK
      (with_reducible refine x0_2 q fun _ q84 => ?_
       try clear q
       with_reducible refine x1_1 q84 fun n hd => ?_
       clear q84)
      rw [hd] at hdK; cases hdK
    have ns3 := ns_ex hns fun o e => k3 C o hKC.symm e
    (obtain q913 := P'.ext st3
     refine x1_3 q913 fun ts hts htl htp => ?_
     clear q913)
    have hz3 : h3.objs.size = h2.objs.size := hs3.1
    rw [← hz3] at zC zD zI zK
    refine lc_pure0 (ax := rules) (by rfl) (by decide) rfl (by decide) hh ?hi hts (by simp [htl]; rw [sizeLine_eq]; omega)
      (fun j y C D I h => ∃ q t, ru[j]? = some q ∧ y = .int (if 0 < q.2 then colOf q.1 a else - colOf q.1 a) t) (fun C D I j y h1 h2 x _ => x) ?turn2 ?done2
    case hi =>
      refine wpAny_Name (wpAny_loadName_cell (c := L' + 1) (v := .ref rules) (by rfl) (by rfl) (by rfl) ?_ ⟨rfl, rfl⟩)
      (refine x1_2 hcell0 fun o ho q => ?_
       try clear hcell0)
      exact ⟨o, st3 _ _ ho, q⟩
    case done2 =>
      intro C2 D2 I2 ys h4 tk4 hD2 st4 pl4 hl4 hy4
      refine (i2_5 h4 tk4 rfl (fun b o b1 b2 e => st4 b o (k3 b o b2 e)) (ns_ex ns3 fun o e => st4 _ _ e) ⟨_, let ⟨o, ho, q⟩ := hc3; ⟨o, st4 _ _ ho, q⟩⟩ (i2_8 D2 a rfl ?_ ?_ ?_ ?_ ?_ ha ?_))
      · exact far zC hD2
      · exact far zD hD2
      · exact far zI hD2
      · exact far zK hD2
      · exact Nat.le_trans (Nat.le_of_lt (Nat.lt_of_le_of_lt lC zC)) hD2
      · refine ⟨ys, pl4.isList, IntsAre.of_getElem (by unfold rankOf; rw [List.length_map, ← htl]; simpa using hl4) fun j v n h1 h2 => ?_⟩
        (obtain q914 := hy4 j v h1
         with_reducible refine x2_2 q914 fun q t h3 r915 => ?_
         clear q914
         obtain rfl := r915)
        unfold rankOf at h2
        rw [List.getElem?_map, h3] at h2
        cases h2
        exact ⟨t, rfl⟩
    case turn2 =>
      intro C2 D2 I2 j v h5 tk5 E5 m1 m2 m3 z1 z2 z3 hv5 st5 ns5 hit5
      have hx : ∃ T q u1 u2, v = .ref T ∧ ru[j]? = some q ∧ IsTup h5 T #[.int q.1 u1, .int q.2 u2] := by
        simp only [List.getElem?_toArray, List.getElem?_map, Option.map_eq_some_iff] at hv5
        (with_reducible refine x1_2 hv5 fun T hT r85 => ?_
         try clear hv5
         obtain rfl := r85)
        have hi : j < ru.length := by rw [← htl]; exact (List.getElem?_eq_some_iff.mp hT).1
        (obtain q86 := htp j T _ hT (List.getElem?_eq_getElem hi)
         with_reducible refine x2_1 q86 fun u1 u2 hq => ?_
         clear q86)
        exact (i4_3 T _ u1 u2 rfl (List.getElem?_eq_getElem hi) (hq.keeps st5))
      (with_reducible refine x4_1 hx fun T q u1 u2 q9z => x0_3 q9z fun r916 hq hT => ?_
       clear q9z
       try clear hx
       obtain rfl := r916)
      refine wpAny_letOwnedTupleGo_listiter hit5 ?_
      obtain ⟨m5, ns5⟩ := ns5
      refine kcp_assign hh hT (by rfl) (by rfl) (by rfl) ns5 fun h6 tk6 ns6 k6 => ?_
      have st6 : h3.StaysIn h6 := fun b o e => k6 b o (fun q => by have := Heap.lt_size e; rw [q] at this; exact Nat.lt_irrefl _ (Nat.lt_of_lt_of_le this m1)) (st5 b o e)
      have hcK : h6.IsCell K (some (.ref r)) := let ⟨o, ho, q⟩ := hc3; ⟨o, st6 _ _ ho, q⟩
      have Ra6 : RecAt h6 r a := Ra3.ext st6
      have hx := hru q (List.mem_of_getElem? hq)
      have fin : ∀ (n : Int) (t : Tok) (tk : Nat), n = (if 0 < q.2 then colOf q.1 a else - colOf q.1 a) → ∃ h4 tk4, ({ s with heap := h6, toks := tk } : Shared) = { s with heap := h4, toks := tk4 } ∧ (∀ b o, b ≠ C2 → h5.get? b = some o → h4.get? b = some o) ∧ (∃ m, h4.Ns C2 m) ∧ ∃ q t', ru[j]? = some q ∧ Value.int n t = .int (if 0 < q.2 then colOf q.1 a else - colOf q.1 a) t' := fun n t tk e => (i2_4 h6 tk rfl k6 ⟨_, ns6⟩ (i2_2 q t hq (by rw [e])))
      refine wpAny_IfExp (wpAny_isTrue_Compare1 (wpAny_Name (wpAny_loadName_local (v := .int q.2 u2) (by rfl) (by rfl) ns6 (by rfl) (wpAny_Constant_int (gt_int (wpAny_truthy_bool ?_)))) (by decide)))
      by_cases h0 : 0 < q.2
      · simp only [h0, gt_iff_lt, decide_true, if_true]
        refine Subscript_ (wpAny_Name (wpAny_loadName_cell (c := K) (by rfl) (by rfl) (by rfl) hcK (wpAny_Name (wpAny_loadName_local (v := .int q.1 u1) (by rfl) (by rfl) ns6 (by rfl) (sub_rec Ra6 hx fun t => ?_)) (by decide))) (by decide))
        exact fin _ _ _ (if_pos h0).symm
      · simp only [h0, gt_iff_lt, decide_false, Bool.false_eq_true, if_false]
        refine wpAny_UnaryOp (Subscript_ (wpAny_Name (wpAny_loadName_cell (c := K) (by rfl) (by rfl) (by rfl) hcK (wpAny_Name (wpAny_loadName_local (v := .int q.1 u1) (by rfl) (by rfl) ns6 (by rfl) (sub_rec Ra6 hx fun t => neg_int ?_)) (by decide))) (by decide)))
        exact fin _ _ _ (if_neg h0).symm
end Mine
end PartF2

section PartG2
open PySem PySem.W PyProof.Rows PySem.Calls
set_option Elab.async false
set_option maxRecDepth 100000
set_option maxHeartbeats 4000000
set_option linter.unusedVariables false
set_option rowWalk.seconds 0
namespace Mine
open SeqAt
section
variable {prog : Program} {w : World} {A : Around} {E : Value → Shared → Prop} {s : Shared}
theorem ints_gt {l b : Addr} {vs us : List Value} {ns ms : List Int} (hl : s.heap.IsList l vs.toArray) (hb : s.heap.IsList b us.toArray) (h1 : IntsAre vs ns) (h2 : IntsAre us ms) (hz : ns.length = ms.length) (hu : A.units < cLine) :
    OpAt .Gt A s (.ref l) (.ref b) (lexLt ms ns) := by
  have hv := h1.length
  have hv' := h2.length
  have hsz : vs.toArray.size = us.toArray.size := by simp; omega
  have g1 : ∀ (j : Nat) (q : j < vs.toArray.size), ∃ n t, vs.toArray[j] = .int n t ∧ ns[j]? = some n := fun j q => by
    have q' : j < vs.length := by simpa using q
    have q2 : j < ns.length := by omega
    obtain ⟨t, e⟩ := IntsAre.get h1 j vs[j] ns[j] (List.getElem?_eq_getElem q') (List.getElem?_eq_getElem q2)
    exact (i2_2 (ns[j]) t (by simpa using e) (List.getElem?_eq_getElem q2))
  have g2 : ∀ (j : Nat) (q : j < us.toArray.size), ∃ n t, us.toArray[j] = .int n t ∧ ms[j]? = some n := fun j q => by
    have q' : j < us.length := by simpa using q
    have q2 : j < ms.length := by omega
    obtain ⟨t, e⟩ := IntsAre.get h2 j us[j] ms[j] (List.getElem?_eq_getElem q') (List.getElem?_eq_getElem q2)
    exact (i2_2 (ms[j]) t (by simpa using e) (List.getElem?_eq_getElem q2))
  have K := OpAt.lists (A := A) (s := s) (e := fun j => decide (ms[j]? = ns[j]?)) (r := fun j => decide (ms.getD j 0 < ns.getD j 0)) true hl hb hsz hu
    (fun j q1 q2 => by
      (obtain q91 := g1 j q1
       with_reducible refine x2_2 q91 fun a t e1 f1 => ?_
       clear q91)
      (obtain q92 := g2 j q2
       with_reducible refine x2_2 q92 fun b u e2 f2 => ?_
       clear q92)
      rw [e1, e2, f1, f2]
      have := EqAt.int_int (A := A.in1) (s := s) a t b u
      have e : (a == b) = decide (some b = some a) := by
        by_cases h : a = b
        · subst h; simp
        · have h' : ¬ b = a := fun q => h q.symm
          simp [h, h']
      rw [← e]; exact this)
    (fun j q1 q2 _ => by
      (obtain q93 := g1 j q1
       with_reducible refine x2_2 q93 fun a t e1 f1 => ?_
       clear q93)
      (obtain q94 := g2 j q2
       with_reducible refine x2_2 q94 fun b u e2 f2 => ?_
       clear q94)
      rw [e1, e2, List.getD_eq_getElem?_getD, List.getD_eq_getElem?_getD, f1, f2]
      exact OpAt.int_gt)
  rw [lexB_ints ms ns vs.toArray.size 0 (by simp; omega) hz.symm _ _ fun j a b q1 q2 => by
    rw [Nat.zero_add, List.getD_eq_getElem?_getD, List.getD_eq_getElem?_getD, q1, q2]
    exact ⟨by simp, rfl⟩] at K
  exact K
theorem lexLt_irr : ∀ ns : List Int, lexLt ns ns = false
  | [] => rfl
  | n :: ns => by show (if n = n then lexLt ns ns else _) = false; rw [if_pos rfl]; exact lexLt_irr ns
open Classical in
theorem RankRow.eqs {l b : Addr} {bs : List Addr} {rows : List (List Int)} {r : List Int} (R : RankRow s.heap l bs rows) (hb : IntRow s.heap b r) (hu : A.units + 64 < cLine) :
    ∃ e : Value → Bool, (∀ y ∈ (bs.map Value.ref).toArray, EqAt A s y (.ref b) (e y)) ∧ ((bs.map Value.ref).toArray.any e = decide (r ∈ rows)) ∧ (bs.map Value.ref).countP e = rows.count r := by
  refine ⟨fun y => decide (∃ b' r', y = .ref b' ∧ IntRow s.heap b' r' ∧ r' = r), ?_, ?_⟩
  · intro y hy
    have hy : y ∈ bs.map Value.ref := by simpa using hy
    (obtain q81 := List.mem_map.mp hy
     with_reducible refine x1_2 q81 fun b' hb' r82 => ?_
     clear q81
     obtain rfl := r82)
    obtain ⟨i, hi⟩ := List.mem_iff_getElem?.mp hb'
    have hlt : i < rows.length := by rw [← R.len]; exact (List.getElem?_eq_some_iff.mp hi).1
    have hr := R.at_ i b' _ hi (List.getElem?_eq_getElem hlt)
    (refine x1_2 hr fun vs i1 i2 => ?_
     try clear hr)
    (obtain q83 := id hb
     refine x1_2 q83 fun us j1 j2 => ?_
     clear q83)
    have K := ints_eq (A := A) i1 j1 i2 j2 hu
    have e : decide (rows[i] = r) = decide (∃ b'' r', Value.ref b' = .ref b'' ∧ IntRow s.heap b'' r' ∧ r' = r) := by
      apply decide_eq_decide.mpr
      constructor
      · exact fun h => (i2_3 b' _ rfl ⟨vs, i1, i2⟩ h)
      · (rintro h9q; (with_reducible refine x2_3 h9q fun b'' r' q q95 r96 => ?_
                      try clear h9q
                      (refine x1_2 q95 fun vs' k1 k2 => ?_
                       try clear q95)
                      obtain rfl := r96))
        cases q
        have e := IsList.inj i1 k1
        have e : vs = vs' := by simpa using e
        subst e
        exact IntsAre.inj i2 k2
    exact Eq.subst (motive := fun z => EqAt A s (.ref b') (.ref b) z) e K
  · have key : ∀ (bs : List Addr) (rows : List (List Int)), bs.length = rows.length → (∀ (i : Nat) b r, bs[i]? = some b → rows[i]? = some r → IntRow s.heap b r) →
        (bs.map Value.ref).any (fun y => decide (∃ b' r', y = .ref b' ∧ IntRow s.heap b' r' ∧ r' = r)) = decide (r ∈ rows) ∧ (bs.map Value.ref).countP (fun y => decide (∃ b' r', y = .ref b' ∧ IntRow s.heap b' r' ∧ r' = r)) = rows.count r := by
      intro bs
      induction bs with
      | nil => intro rows hl _; cases rows with | nil => simp | cons _ _ => simp at hl
      | cons c bs ih =>
        intro rows hl h
        cases rows with
        | nil => simp at hl
        | cons q rows =>
          obtain ⟨k1, k2⟩ := ih rows (by simpa using hl) fun i b r e1 e2 => h (i + 1) b r (by simpa using e1) (by simpa using e2)
          have hc := h 0 c q rfl rfl
          have e : (∃ b' r', Value.ref c = .ref b' ∧ IntRow s.heap b' r' ∧ r' = r) ↔ q = r := by
            constructor
            · (rintro h9q; (with_reducible refine x2_3 h9q fun b' r' e q97 r98 => ?_
                            try clear h9q
                            (refine x1_2 q97 fun vs' k1 k2 => ?_
                             try clear q97)
                            obtain rfl := r98))
              cases e
              (refine x1_2 hc fun vs i1 i2 => ?_
               try clear hc)
              have e := IsList.inj i1 k1
              have e : vs = vs' := by simpa using e
              subst e
              exact IntsAre.inj i2 k2
            · rintro rfl; exact (i2_3 c q rfl hc rfl)
          constructor
          · rw [List.map_cons, List.any_cons, k1]
            by_cases h1 : q = r
            · rw [decide_eq_true (e.mpr h1)]
              simp [h1]
            · rw [decide_eq_false fun q' => h1 (e.mp q')]
              simp [Ne.symm h1]
          · rw [List.map_cons, List.countP_cons, k2, List.count_cons]
            by_cases h1 : q = r
            · rw [decide_eq_true (e.mpr h1)]
              simp [h1]
            · rw [decide_eq_false fun q' => h1 (e.mp q')]
              simp [h1]
    have k := key bs rows R.len R.at_
    exact ⟨by simpa using k.1, k.2⟩
open Classical in
theorem row_notIn {l b : Addr} {bs : List Addr} {rows : List (List Int)} {r : List Int} {Q : Value → Shared → Prop} (R : RankRow s.heap l bs rows) (hb : IntRow s.heap b r) (hu : A.units + 70 < cLine) (h : Q (.bool (!decide (r ∈ rows))) s) :
    wpAny (model prog w) A (compareOp .NotIn (.ref b) (.ref l)) Q E s := by
  (obtain q99 := RankRow.eqs (A := A.in1) R hb (by show A.units + 1 + 64 < _; omega)
   with_reducible refine x1_3 q99 fun e h1 h2 c910 => ?_
   clear q99
   clear c910)
  refine notIn_listAt e R.list h1 ?_
  rw [h2]; exact h
open Classical in
theorem row_count {l b : Addr} {bs : List Addr} {rows : List (List Int)} {r : List Int} {Q : Value → Shared → Prop} (R : RankRow s.heap l bs rows) (hb : IntRow s.heap b r) (hu : A.units + 70 < cLine) (h : Q (.int (rows.count r : Nat) s.toks) { s with toks := s.toks + 1 }) :
    wpAny (model prog w) A (call (.builtin "list.count") [.ref l, .ref b]) Q E s := by
  (obtain q911 := RankRow.eqs (A := A.in1) R hb (by show A.units + 1 + 64 < _; omega)
   with_reducible refine x1_3 q911 fun e h1 c912 h2 => ?_
   clear q911
   clear c912)
  (obtain q913 := R.list
   refine x1_3 q913 fun q914 ho hc q915 => ?_
   clear q913
   obtain ⟨cls, dd, data, sl⟩ := q914
   with_reducible refine x1_1 q915 fun n hd => ?_
   clear q915)
  simp only at hc hd
  subst hc hd
  refine call_meets PySem.F.slot_list_count ⟨_, ho, rfl⟩ PySem.F.entry_list_count (PySem.F.args_list_count_2 _ _) (list_countAt l (bs.map Value.ref).toArray n dd sl (.ref b) e) ⟨ho, fun y hy => h1 y hy, ?_⟩
  rw [show (bs.map Value.ref).toArray.toList = bs.map Value.ref by simp, h2]
  exact h
theorem row_gt {b1 b2 : Addr} {n1 n2 : List Int} {Q : Value → Shared → Prop} (h1 : IntRow s.heap b1 n1) (h2 : IntRow s.heap b2 n2) (hz : n1.length = n2.length) (hu : A.units < cLine) (h : Q (.bool (lexLt n2 n1)) s) :
    wpAny (model prog w) A (compareOp .Gt (.ref b1) (.ref b2)) Q E s := by
  (refine x1_2 h1 fun vs i1 i2 => ?_
   try clear h1)
  (refine x1_2 h2 fun us j1 j2 => ?_
   try clear h2)
  exact ints_gt i1 j1 i2 j2 hz hu prog w E Q h
end
end Mine
end PartG2

section PartI2
open PySem PySem.W PyProof.Rows PySem.Calls
set_option Elab.async false
set_option maxRecDepth 100000
set_option maxHeartbeats 4000000
set_option linter.unusedVariables false
set_option rowWalk.seconds 0
namespace Mine
open SeqAt
section
variable {prog : Program} {w : World} {A : Around} {E : Value → Shared → Prop} {s : Shared}
theorem one_oneLt {l b x y : Addr} {ns ms : List Int} {Q : Bool → Shared → Prop} (hl : s.heap.IsList l #[.ref x]) (hb : s.heap.IsList b #[.ref y]) (h1 : IntRow s.heap x ns) (h2 : IntRow s.heap y ms) (hz : ns.length = ms.length) (hu : A.units + 100 < cLine)
    (h : Q (lexLt ns ms) s) : wpAny (model prog w) A (oneLt' true (.ref l) (.ref b)) Q E s := by
  (refine x1_2 h1 fun vs i1 i2 => ?_
   try clear h1)
  (refine x1_2 h2 fun us j1 j2 => ?_
   try clear h2)
  have e : lexB (fun j => decide (ns = ms)) (fun j => lexLt ns ms) 1 0 = lexLt ns ms := by
    show (if decide (ns = ms) = true then false else lexLt ns ms) = _
    by_cases h : ns = ms
    · subst h; simp [lexLt_irr]
    · simp [h]
  rw [oneLt'_eq]
  simp only [if_true]
  refine wpAny_bind (wpAny_cRoomFor (by omega) ?_)
  have hT := hl.typeIs (s := s)
  (obtain q91 := id hl
   refine x1_3 q91 fun q92 ho hc q93 => ?_
   clear q91
   obtain ⟨cls, dd, data, sl⟩ := q92
   with_reducible refine x1_1 q93 fun n hd => ?_
   clear q93)
  (obtain q94 := id hb
   refine x1_3 q94 fun q95 ho2 hc2 q96 => ?_
   clear q94
   obtain ⟨cls2, dd2, data2, sl2⟩ := q95
   with_reducible refine x1_1 q96 fun n2 hd2 => ?_
   clear q96)
  simp only at hc hd hc2 hd2
  subst hc hd hc2 hd2
  have K := list_ord false l b #[.ref x] #[.ref y] n n2 dd dd2 sl sl2 rfl (fun j => decide (ns = ms)) (fun j => lexLt ns ms)
  refine wpAny_bind (wpAny_callSpecialIfBound?_slot hT PySem.F.slot_list_lt (call_meets PySem.F.slot_list_lt hT PySem.F.entry_list_lt (PySem.F.args_list_lt_2 _ _) K ⟨ho, ho2, fun j q1 q2 => ?_, fun j q1 q2 _ => ?_, ?_⟩))
  · obtain rfl : j = 0 := by simp at q1; exact q1
    exact ints_eq i1 j1 i2 j2 (by show A.units + 1 + 64 < _; omega)
  · obtain rfl : j = 0 := by simp at q1; exact q1
    exact ints_lt i1 j1 i2 j2 hz (by show A.units + 1 < _; omega)
  · rw [show lexB (fun j => decide (ns = ms)) (fun j => lexLt ns ms) (#[Value.ref x] : Array Value).size 0 = lexLt ns ms from e]
    exact wpAny_truthy_bool h
end
end Mine
end PartI2

section MacB
open PySem PySem.W PyProof.Rows PySem.Calls in
local macro_rules | `(tactic| walk_at "eval Name") => `(tactic| (k_here; (with_reducible show wpAny _ _ (eval (Expr.Name _ _) (envX _ _ _ _ _ _)) _ _ _); k_dflt (refine' Mine.nameX_H ?F ?c ?v ?d ?_ ?a ?b; (case a => rfl); (case b => rfl); (case F => k_asm); (case c => rfl); (case v => assumption); (case d => assumption); k_whole)))
open PySem PySem.W PyProof.Rows PySem.Calls in
local macro_rules | `(tactic| walk_at "callWith ref") => `(tactic| (k_here; k_dflt (refine' callWith_F ?k1 ?_; (case k1 => exact Mine.FnAt.ext (by assumption) (Fr.keep (by k_asm))); k_whole)))
open PySem PySem.W PyProof.Rows PySem.Calls in
local macro_rules | `(tactic| walk_at "FnAt") => `(tactic| (k_dflt (exact Mine.FnAt.ext (by assumption) (Fr.keep (by k_asm)))))
open PySem PySem.W PyProof.Rows PySem.Calls in
local macro_rules | `(tactic| kd_p1) => `(tactic| exact Mine.in_view (by k_asm) (by k_asm) (by kwd_rel) (by k_asm) (by k_asm) rfl)
open PySem PySem.W PyProof.Rows PySem.Calls in
local macro_rules | `(tactic| kd_addB) => `(tactic| exact Mine.here_of (by k_asm) (by k_asm) (by k_asm) (by k_asm) (by kwd_rel) (by k_asm) (by k_asm))
open PySem PySem.W PyProof.Rows PySem.Calls in
local macro_rules | `(tactic| kd_addW) => `(tactic| (refine Mine.back_int (by k_asm) (by k_asm) (by k_asm) (by k_asm) (by kwd_rel) rfl (by kwd_inv) (by k_asm) ?_; intro t9 h9 tk9 frs9 SU9 Fs9 F9 N9; simp only [List.nil_append, List.cons_append] at N9))
open PySem PySem.W PyProof.Rows PySem.Calls in
local macro_rules | `(tactic| walk_at "call ref") => `(tactic| (k_here; (with_reducible show wpAny _ _ (call (Value.ref _) [Value.ref _, Value.ref _]) _ _ _); (refine Mine.CmpOk.ok (by assumption) _ _ _ _ _ _ (by kd_p1) (by kd_addB) (by kwd_less) (by kwd_less) (Mine.RecAt.ext (by assumption) (by kd_p1)) (Mine.RecAt.ext (by assumption) (by kd_p1)) _ _ ?_); kd_addW))
section PartC2x
open PySem PySem.W PyProof.Rows PySem.Calls
set_option Elab.async false
set_option maxRecDepth 100000
set_option maxHeartbeats 8000000
set_option linter.unusedVariables false
set_option rowWalk.seconds 0
namespace Mine
theorem start_C2x {M : Model} {A : Around} {env : Env} {E : Value → Shared → Prop} {s : Shared} {Q : Flow → Shared → Prop} (h : Q .next s) : wpAny M A (execs [] env) Q E s := by
  w_top off
  walk1
  exact h
open TI (Frs SameUp)
local macro_rules | `(tactic| walk_at "call ref") => `(tactic| (k_here; (with_reducible show wpAny _ _ (call (Value.ref 35) [Value.int _ _, Value.int _ _]) _ _ _); (refine c_cmp3 (by kd_addB) (by kwd_less) _ _ ?_); kd_addW))

theorem keptX {A : Around} {P : Addr} {xs : List Addr} {hs h : Heap} {L : Addr} {m : Str → Option Value} (F : Fr (view A [P] hs) L h m) {a : Addr} {o : Obj} (ho : (view A (P :: xs) hs).get? a = some o) : (view A (P :: xs) h).get? a = some o := by
  obtain ⟨n, e⟩ := view_get ho
  refine view_of n (F.keep _ _ (view_of (fun q => n ?_) e))
  rcases List.mem_append.mp q with q | q
  · rcases List.mem_singleton.mp q with rfl
    exact List.Mem.head _
  · exact List.mem_append_right _ q
theorem keptsX {A : Around} {P : Addr} {xs : List Addr} {hs h : Heap} {L : Addr} {m : Str → Option Value} (F : Fr (view A [P] hs) L h m) : (view A (P :: xs) hs).StaysIn (view A (P :: xs) h) := fun _ _ e => keptX F e
noncomputable def TabX (A : Around) (xs : List Addr) (h : Heap) (P : Addr) (l k : Int) (qual : Str) : Prop :=
  h.get? P = some (tabObj #[]) ∨ ∃ c oc vs t, h.get? P = some (tabObj #[rawInt l, rawInt k, .ref c]) ∧ (view A (P :: xs) h).get? c = some oc ∧ oc.data = .fields vs ∧ vs[1]? = some (.str qual t)

theorem c_ruleX1 {w : World} {A : Around} {s : Shared} {x y : Int} {tx ty : Tok} {xs : List Addr} (hxs : ∀ b ∈ xs, b < s.heap.objs.size) (H : Here w A [60] s.heap) (hT : s.heap.get? 60 = some (tabObj #[])) (hd : A.depth < recursionLimit) (hx : x = 0 ∨ x = 1) (hy : y = 1 ∨ y = -1 ∨ y = 2 ∨ y = -3) :
    QuietB w A (call (.ref 65) [.int x tx, .int y ty]) s [60] (fun r h => CmpOk w (view A (60 :: xs) h) r 3 (ruleC x y) ∧ TabX A xs h 60 91 11 (Str.ofString "_law_rule.<locals>.<lambda>")) := by
  intro Q E ret
  have X := H.frag
  have XS : (Mine.hd.heap_1 w.params).In s.heap := X.keeps view_le
  revert XS X; k_fill; intro X XS
  refine wpAny_call ?_
  k_dflt (refine' enter_c (hid := [60]) (news := [(60, tabObj #[])]) H ?hN (XS 65 _ (by k_is)) ?hd (codeRec_of XS ?hc) hd ?hb ?hl ?hnd ?_ ?hco ?hg ?hk; (case hN => intro p hp; rcases List.mem_singleton.mp hp with rfl; exact ⟨hT, List.Mem.head _⟩); (case hd => exact rfl); (case hc => k_is); (case hb => exact BindsTo.of_eq rfl); (case hl => exact rfl); (case hnd => decide); (case hco => exact rfl); (case hg => exact rfl); (case hk => exact rfl))
  clear XS X
  intro l frs p loose mean mg mb L' h' tk cells I' X' T' F' N' lt' Y'
  have hl := I'.hl
  have Fs := I'.fs
  have SU := SameUp.refl frs
  have hlt : ∀ b ∈ [60], b < L' := fun b hb => by rcases List.mem_singleton.mp hb with rfl; exact lt' _ (List.Mem.head _)
  have hne9 : ∀ p ∈ frs, p.1 ≠ 60 := frs_ne I' hT (fun _ _ q => by cases q)
  generalize hg : view A [60] s.heap = g at *
  have hltx : ∀ b ∈ (60 : Addr) :: xs, b < L' := fun b hb => (List.mem_cons.mp hb).elim (fun q => q ▸ hlt _ (List.Mem.head _)) fun q => Nat.lt_of_lt_of_le (hxs b q) I'.above
  have IX : Inn w A (60 :: xs) s.heap l frs L' := ⟨I'.hl, I'.fs, I'.fr, I'.lt, I'.above⟩
  k_lt lt'
  obtain ⟨o1, o2, rfl, d1', d2'⟩ := CellsAre.two Y'
  have w1 : o1.data = .cell (some (.int y ty)) := d1'
  have w2 : o2.data = .cell (some (.int x tx)) := d2'
  clear d1' d2' Y'
  obtain ⟨m0, F0⟩ : ∃ m0, Fr g L' h' m0 := ⟨_, F'⟩
  clear F'
  (try simp only [List.cons_append, List.nil_append] at N')
  (try dsimp only); (try k_fold)
  have C9 : CodeHd g 64 60 := (i9_10 _ _ _ _ _ _ _ _ _ (X' 64 _ (by k_is)) rfl rfl rfl rfl rfl rfl rfl rfl (by decide))
  k_steps
  show Q _ _; dsimp only
  rename_i f' c' oc' vs' t' ct' h2 tk2 F2 N2 d1 d2 l1 l2
  have hc8 : L' < c' := Nat.lt_of_succ_lt l1.2.1
  have hf9 : L' < f' := Nat.lt_trans hc8 l2
  have hw9 : L' < L' + 1 + 1 := Nat.lt_trans (Nat.lt_succ_self L') (Nat.lt_succ_self _)
  have hx9 : L' < L' + 1 := Nat.lt_succ_self L'
  clear C9
  subst hg
  refine ret _ _ _ (ext_of I'.hl I'.fs I'.fr F2 N2 (by k_asm) (by kwd_rel) I'.above) ⟨?_, Or.inr (i4_4 c' oc' vs' t' (N2.get (List.Mem.tail _ (List.Mem.tail _ (List.Mem.tail _ (List.Mem.tail _ (List.Mem.head _)))))) (made_view IX hltx (N2.get (List.Mem.tail _ (List.Mem.head _))) hc8) d1 d2)⟩
  refine ⟨(i1_2 _ rfl (i4_1 _ _ _ _ (made_view IX hltx (N2.get (List.Mem.head _)) hf9))), ?_⟩
  (intro A2 s2 r1 r2 a b e2 H2 hd2 hu2 h9q; (refine x3_1 h9q fun u0 u1 u2 R1 => ?_
                                             try clear h9q); intro h9q; (refine x3_1 h9q fun w0 w1 w2 R2 => ?_
                                                                         try clear h9q); intro Q2 E2 ret2)
  have hf' := e2 _ _ (made_view IX hltx (N2.get (List.Mem.head _)) hf9)
  have hc' := e2 _ _ (made_view IX hltx (N2.get (List.Mem.tail _ (List.Mem.head _))) hc8)
  have hw' := e2 _ _ (made_view IX hltx (N2.get (List.Mem.tail _ (List.Mem.tail _ (List.Mem.head _)))) hw9)
  have hx' := e2 _ _ (made_view IX hltx (N2.get (List.Mem.tail _ (List.Mem.tail _ (List.Mem.tail _ (List.Mem.head _))))) hx9)
  skip
  clear ret F2 N2 X' T' N' F0 H hT I' IX hl Fs SU
  have X := H2.frag
  revert X; k_fill; intro X
  refine wpAny_call ?_
  k_dflt (refine' enter_l H2 (view_le _ _ hf') (i4_4 _ _ _ _ rfl (view_le _ _ hc') d1 d2) ?hd ?hb ?hl ?_ ?hcell ?hco ?hg ?hk; (case hd => omega); (case hb => exact rfl); (case hl => exact locs rfl); (case hcell => decide); (case hco => exact rfl); (case hg => exact rfl); (case hk => exact rfl))
  intro l frs p loose mean mg mb L' h' I' X' T' F' N'
  have hl := I'.hl
  have Fs := I'.fs
  have SU := SameUp.refl frs
  generalize hg : view A2 [] s2.heap = g at *
  (try dsimp only); (try k_fold)
  rcases hx with rfl | rfl
  all_goals (
    k_steps
    show Q2 _ _
    exact ret2 _ _ _ (ext_ofg hg I'.hl I'.fs I'.fr (by k_asm) (by k_asm) (by k_asm) (by kwd_rel) I'.above) ⟨_, rfl⟩)

theorem c_ruleX2 {w : World} {A : Around} {s : Shared} {x y : Int} {tx ty : Tok} {xs : List Addr} (hxs : ∀ b ∈ xs, b < s.heap.objs.size) (H : Here w A [60] s.heap) {c9 : Addr} {oc9 : Obj} {vs9 : Array Value} {t9 : Tok} (hT : s.heap.get? 60 = some (tabObj #[rawInt 91, rawInt 11, .ref c9])) (hcG : (view A (60 :: xs) s.heap).get? c9 = some oc9) (d1 : oc9.data = .fields vs9) (d2 : vs9[1]? = some (.str (Str.ofString "_law_rule.<locals>.<lambda>") t9)) (hd : A.depth < recursionLimit) (hx : x = 0 ∨ x = 1) (hy : y = 1 ∨ y = -1 ∨ y = 2 ∨ y = -3) :
    QuietB w A (call (.ref 65) [.int x tx, .int y ty]) s [60] (fun r h => CmpOk w (view A (60 :: xs) h) r 3 (ruleC x y) ∧ TabX A xs h 60 91 11 (Str.ofString "_law_rule.<locals>.<lambda>")) := by
  intro Q E ret
  have X := H.frag
  have XS : (Mine.hd.heap_1 w.params).In s.heap := X.keeps view_le
  revert XS X; k_fill; intro X XS
  refine wpAny_call ?_
  k_dflt (refine' enter_c (hid := [60]) (news := [(60, tabObj #[rawInt 91, rawInt 11, .ref c9])]) H ?hN (XS 65 _ (by k_is)) ?hd (codeRec_of XS ?hc) hd ?hb ?hl ?hnd ?_ ?hco ?hg ?hk; (case hN => intro p hp; rcases List.mem_singleton.mp hp with rfl; exact ⟨hT, List.Mem.head _⟩); (case hd => exact rfl); (case hc => k_is); (case hb => exact BindsTo.of_eq rfl); (case hl => exact rfl); (case hnd => decide); (case hco => exact rfl); (case hg => exact rfl); (case hk => exact rfl))
  clear XS X
  intro l frs p loose mean mg mb L' h' tk cells I' X' T' F' N' lt' Y'
  have hl := I'.hl
  have Fs := I'.fs
  have SU := SameUp.refl frs
  have hlt : ∀ b ∈ [60], b < L' := fun b hb => by rcases List.mem_singleton.mp hb with rfl; exact lt' _ (List.Mem.head _)
  have hne9 : ∀ p ∈ frs, p.1 ≠ 60 := frs_ne I' hT (fun _ _ q => by cases q)
  generalize hg : view A [60] s.heap = g at *
  have hltx : ∀ b ∈ (60 : Addr) :: xs, b < L' := fun b hb => (List.mem_cons.mp hb).elim (fun q => q ▸ hlt _ (List.Mem.head _)) fun q => Nat.lt_of_lt_of_le (hxs b q) I'.above
  have IX : Inn w A (60 :: xs) s.heap l frs L' := ⟨I'.hl, I'.fs, I'.fr, I'.lt, I'.above⟩
  k_lt lt'
  obtain ⟨o1, o2, rfl, d1', d2'⟩ := CellsAre.two Y'
  have w1 : o1.data = .cell (some (.int y ty)) := d1'
  have w2 : o2.data = .cell (some (.int x tx)) := d2'
  clear d1' d2' Y'
  obtain ⟨m0, F0⟩ : ∃ m0, Fr g L' h' m0 := ⟨_, F'⟩
  clear F'
  (try simp only [List.cons_append, List.nil_append] at N')
  (try dsimp only); (try k_fold)
  have C9 : CodeHd g 64 60 := (i9_10 _ _ _ _ _ _ _ _ _ (X' 64 _ (by k_is)) rfl rfl rfl rfl rfl rfl rfl rfl (by decide))
  k_steps
  show Q _ _; dsimp only
  rename_i f' ct' h2 tk2 F2 N2 l1
  have hf9 : L' < f' := Nat.lt_of_succ_lt l1.2.1
  have hw9 : L' < L' + 1 + 1 := Nat.lt_trans (Nat.lt_succ_self L') (Nat.lt_succ_self _)
  have hx9 : L' < L' + 1 := Nat.lt_succ_self L'
  clear C9
  subst hg
  refine ret _ _ _ (ext_of I'.hl I'.fs I'.fr F2 N2 (by k_asm) (by kwd_rel) I'.above) ⟨?_, Or.inr (i4_4 c9 oc9 vs9 t9 (N2.get (List.Mem.tail _ (List.Mem.tail _ (List.Mem.tail _ (List.Mem.head _))))) (keptX F2 hcG) d1 d2)⟩
  refine ⟨(i1_2 _ rfl (i4_1 _ _ _ _ (made_view IX hltx (N2.get (List.Mem.head _)) hf9))), ?_⟩
  (intro A2 s2 r1 r2 a b e2 H2 hd2 hu2 h9q; (refine x3_1 h9q fun u0 u1 u2 R1 => ?_
                                             try clear h9q); intro h9q; (refine x3_1 h9q fun w0 w1 w2 R2 => ?_
                                                                         try clear h9q); intro Q2 E2 ret2)
  have hf' := e2 _ _ (made_view IX hltx (N2.get (List.Mem.head _)) hf9)
  have hc' := e2 _ _ (keptX F2 hcG)
  have hw' := e2 _ _ (made_view IX hltx (N2.get (List.Mem.tail _ (List.Mem.head _))) hw9)
  have hx' := e2 _ _ (made_view IX hltx (N2.get (List.Mem.tail _ (List.Mem.tail _ (List.Mem.head _)))) hx9)
  skip
  clear ret F2 N2 X' T' N' F0 H hT I' IX hl Fs SU
  have X := H2.frag
  revert X; k_fill; intro X
  refine wpAny_call ?_
  k_dflt (refine' enter_l H2 (view_le _ _ hf') (i4_4 _ _ _ _ rfl (view_le _ _ hc') d1 d2) ?hd ?hb ?hl ?_ ?hcell ?hco ?hg ?hk; (case hd => omega); (case hb => exact rfl); (case hl => exact locs rfl); (case hcell => decide); (case hco => exact rfl); (case hg => exact rfl); (case hk => exact rfl))
  intro l frs p loose mean mg mb L' h' I' X' T' F' N'
  have hl := I'.hl
  have Fs := I'.fs
  have SU := SameUp.refl frs
  generalize hg : view A2 [] s2.heap = g at *
  (try dsimp only); (try k_fold)
  rcases hx with rfl | rfl
  all_goals (
    k_steps
    show Q2 _ _
    exact ret2 _ _ _ (ext_ofg hg I'.hl I'.fs I'.fr (by k_asm) (by k_asm) (by k_asm) (by kwd_rel) I'.above) ⟨_, rfl⟩)

theorem c_ruleX {w : World} {A : Around} {s : Shared} {x y : Int} {tx ty : Tok} {xs : List Addr} (hxs : ∀ b ∈ xs, b < s.heap.objs.size) (H : Here w A [60] s.heap) (hT : TabX A xs s.heap 60 91 11 (Str.ofString "_law_rule.<locals>.<lambda>")) (hd : A.depth < recursionLimit) (hx : x = 0 ∨ x = 1) (hy : y = 1 ∨ y = -1 ∨ y = 2 ∨ y = -3) :
    QuietB w A (call (.ref 65) [.int x tx, .int y ty]) s [60] (fun r h => CmpOk w (view A (60 :: xs) h) r 3 (ruleC x y) ∧ TabX A xs h 60 91 11 (Str.ofString "_law_rule.<locals>.<lambda>")) := by
  rcases hT with hT | ⟨c, oc, vs, t, hT, ho, d1, d2⟩
  · exact c_ruleX1 hxs H hT hd hx hy
  · exact c_ruleX2 hxs H hT ho d1 d2 hd hx hy


theorem c_thenX1 {w : World} {A : Around} {s : Shared} {v1 v2 : Value} {n : Nat} {c1 c2 : Rec → Rec → Int} {xs : List Addr} (hxs : ∀ b ∈ xs, b < s.heap.objs.size) (H : Here w A [67] s.heap) (hT : s.heap.get? 67 = some (tabObj #[])) (hd : A.depth < recursionLimit) (K1 : CmpOk w (view A (67 :: xs) s.heap) v1 n c1) (K2 : CmpOk w (view A (67 :: xs) s.heap) v2 n c2) :
    QuietB w A (call (.ref 72) [v1, v2]) s [67] (fun r h => CmpOk w (view A (67 :: xs) h) r (n + 1) (thenC c1 c2) ∧ TabX A xs h 67 93 11 (Str.ofString "_law_then.<locals>.<lambda>")) := by
  intro Q E ret
  have X := H.frag
  have XS : (Mine.hd.heap_1 w.params).In s.heap := X.keeps view_le
  revert XS X; k_fill; intro X XS
  refine wpAny_call ?_
  k_dflt (refine' enter_c (hid := [67]) (news := [(67, tabObj #[])]) H ?hN (XS 72 _ (by k_is)) ?hd (codeRec_of XS ?hc) hd ?hb ?hl ?hnd ?_ ?hco ?hg ?hk; (case hN => intro p hp; rcases List.mem_singleton.mp hp with rfl; exact ⟨hT, List.Mem.head _⟩); (case hd => exact rfl); (case hc => k_is); (case hb => exact BindsTo.of_eq rfl); (case hl => exact rfl); (case hnd => decide); (case hco => exact rfl); (case hg => exact rfl); (case hk => exact rfl))
  clear XS X
  intro l frs p loose mean mg mb L' h' tk cells I' X' T' F' N' lt' Y'
  have hl := I'.hl
  have Fs := I'.fs
  have SU := SameUp.refl frs
  have hlt : ∀ b ∈ [67], b < L' := fun b hb => by rcases List.mem_singleton.mp hb with rfl; exact lt' _ (List.Mem.head _)
  have hne9 : ∀ p ∈ frs, p.1 ≠ 67 := frs_ne I' hT (fun _ _ q => by cases q)
  generalize hg : view A [67] s.heap = g at *
  have hltx : ∀ b ∈ (67 : Addr) :: xs, b < L' := fun b hb => (List.mem_cons.mp hb).elim (fun q => q ▸ hlt _ (List.Mem.head _)) fun q => Nat.lt_of_lt_of_le (hxs b q) I'.above
  have IX : Inn w A (67 :: xs) s.heap l frs L' := ⟨I'.hl, I'.fs, I'.fr, I'.lt, I'.above⟩
  k_lt lt'
  obtain ⟨o1, o2, rfl, d1', d2'⟩ := CellsAre.two Y'
  have w1 : o1.data = .cell (some (v2)) := d1'
  have w2 : o2.data = .cell (some (v1)) := d2'
  clear d1' d2' Y'
  obtain ⟨m0, F0⟩ : ∃ m0, Fr g L' h' m0 := ⟨_, F'⟩
  clear F'
  (try simp only [List.cons_append, List.nil_append] at N')
  (try dsimp only); (try k_fold)
  have C9 : CodeHd g 71 67 := (i9_10 _ _ _ _ _ _ _ _ _ (X' 71 _ (by k_is)) rfl rfl rfl rfl rfl rfl rfl rfl (by decide))
  k_steps
  show Q _ _; dsimp only
  rename_i f' c' oc' vs' t' ct' h2 tk2 F2 N2 d1 d2 l1 l2
  have hc8 : L' < c' := Nat.lt_of_succ_lt l1.2.1
  have hf9 : L' < f' := Nat.lt_trans hc8 l2
  have hw9 : L' < L' + 1 + 1 := Nat.lt_trans (Nat.lt_succ_self L') (Nat.lt_succ_self _)
  have hx9 : L' < L' + 1 := Nat.lt_succ_self L'
  clear C9
  subst hg
  refine ret _ _ _ (ext_of I'.hl I'.fs I'.fr F2 N2 (by k_asm) (by kwd_rel) I'.above) ⟨?_, Or.inr (i4_4 c' oc' vs' t' (N2.get (List.Mem.tail _ (List.Mem.tail _ (List.Mem.tail _ (List.Mem.tail _ (List.Mem.head _)))))) (made_view IX hltx (N2.get (List.Mem.tail _ (List.Mem.head _))) hc8) d1 d2)⟩
  refine ⟨(i1_2 _ rfl (i4_1 _ _ _ _ (made_view IX hltx (N2.get (List.Mem.head _)) hf9))), ?_⟩
  (intro A2 s2 r1 r2 a b e2 H2 hd2 hu2 h9q; (refine x3_1 h9q fun u0 u1 u2 R1 => ?_
                                             try clear h9q); intro h9q; (refine x3_1 h9q fun w0 w1 w2 R2 => ?_
                                                                         try clear h9q); intro Q2 E2 ret2)
  have hf' := e2 _ _ (made_view IX hltx (N2.get (List.Mem.head _)) hf9)
  have hc' := e2 _ _ (made_view IX hltx (N2.get (List.Mem.tail _ (List.Mem.head _))) hc8)
  have hw' := e2 _ _ (made_view IX hltx (N2.get (List.Mem.tail _ (List.Mem.tail _ (List.Mem.head _)))) hw9)
  have hx' := e2 _ _ (made_view IX hltx (N2.get (List.Mem.tail _ (List.Mem.tail _ (List.Mem.tail _ (List.Mem.head _))))) hx9)
  replace K1 := (K1.ext (keptsX F2)).ext e2
  replace K2 := (K2.ext (keptsX F2)).ext e2
  have R1x : RecAt (view A2 [] s2.heap) r1 a := ⟨u0, u1, u2, R1⟩
  have R2x : RecAt (view A2 [] s2.heap) r2 b := ⟨w0, w1, w2, R2⟩
  clear ret F2 N2 X' T' N' F0 H hT I' IX hl Fs SU
  have X := H2.frag
  revert X; k_fill; intro X
  refine wpAny_call ?_
  k_dflt (refine' enter_l H2 (view_le _ _ hf') (i4_4 _ _ _ _ rfl (view_le _ _ hc') d1 d2) ?hd ?hb ?hl ?_ ?hcell ?hco ?hg ?hk; (case hd => omega); (case hb => exact rfl); (case hl => exact locs rfl); (case hcell => decide); (case hco => exact rfl); (case hg => exact rfl); (case hk => exact rfl))
  intro l frs p loose mean mg mb L' h' I' X' T' F' N'
  have hl := I'.hl
  have Fs := I'.fs
  have SU := SameUp.refl frs
  generalize hg : view A2 [] s2.heap = g at *
  (try dsimp only); (try k_fold)
  (obtain q81 := K1.fn
   with_reducible refine x1_2 q81 fun q1 r82 f1 => ?_
   clear q81
   obtain rfl := r82)
  (obtain q83 := K2.fn
   with_reducible refine x1_2 q83 fun q2 r84 f2 => ?_
   clear q83
   obtain rfl := r84)
  k_steps
  all_goals (
    show Q2 _ _
    (try dsimp only)
    first
    | exact ret2 _ _ _ (ext_ofg hg I'.hl I'.fs I'.fr (by k_asm) (by k_asm) (by k_asm) (by kwd_rel) I'.above) ⟨_, congrArg (fun z => Value.int z _) (show c1 a b = thenC c1 c2 a b by unfold thenC; rw [if_neg (by simp_all)])⟩
    | exact ret2 _ _ _ (ext_ofg hg I'.hl I'.fs I'.fr (by k_asm) (by k_asm) (by k_asm) (by kwd_rel) I'.above) ⟨_, congrArg (fun z => Value.int z _) (show c2 a b = thenC c1 c2 a b by unfold thenC; rw [if_pos (by simp_all)])⟩)

theorem c_thenX2 {w : World} {A : Around} {s : Shared} {v1 v2 : Value} {n : Nat} {c1 c2 : Rec → Rec → Int} {xs : List Addr} (hxs : ∀ b ∈ xs, b < s.heap.objs.size) (H : Here w A [67] s.heap) {c9 : Addr} {oc9 : Obj} {vs9 : Array Value} {t9 : Tok} (hT : s.heap.get? 67 = some (tabObj #[rawInt 93, rawInt 11, .ref c9])) (hcG : (view A (67 :: xs) s.heap).get? c9 = some oc9) (d1 : oc9.data = .fields vs9) (d2 : vs9[1]? = some (.str (Str.ofString "_law_then.<locals>.<lambda>") t9)) (hd : A.depth < recursionLimit) (K1 : CmpOk w (view A (67 :: xs) s.heap) v1 n c1) (K2 : CmpOk w (view A (67 :: xs) s.heap) v2 n c2) :
    QuietB w A (call (.ref 72) [v1, v2]) s [67] (fun r h => CmpOk w (view A (67 :: xs) h) r (n + 1) (thenC c1 c2) ∧ TabX A xs h 67 93 11 (Str.ofString "_law_then.<locals>.<lambda>")) := by
  intro Q E ret
  have X := H.frag
  have XS : (Mine.hd.heap_1 w.params).In s.heap := X.keeps view_le
  revert XS X; k_fill; intro X XS
  refine wpAny_call ?_
  k_dflt (refine' enter_c (hid := [67]) (news := [(67, tabObj #[rawInt 93, rawInt 11, .ref c9])]) H ?hN (XS 72 _ (by k_is)) ?hd (codeRec_of XS ?hc) hd ?hb ?hl ?hnd ?_ ?hco ?hg ?hk; (case hN => intro p hp; rcases List.mem_singleton.mp hp with rfl; exact ⟨hT, List.Mem.head _⟩); (case hd => exact rfl); (case hc => k_is); (case hb => exact BindsTo.of_eq rfl); (case hl => exact rfl); (case hnd => decide); (case hco => exact rfl); (case hg => exact rfl); (case hk => exact rfl))
  clear XS X
  intro l frs p loose mean mg mb L' h' tk cells I' X' T' F' N' lt' Y'
  have hl := I'.hl
  have Fs := I'.fs
  have SU := SameUp.refl frs
  have hlt : ∀ b ∈ [67], b < L' := fun b hb => by rcases List.mem_singleton.mp hb with rfl; exact lt' _ (List.Mem.head _)
  have hne9 : ∀ p ∈ frs, p.1 ≠ 67 := frs_ne I' hT (fun _ _ q => by cases q)
  generalize hg : view A [67] s.heap = g at *
  have hltx : ∀ b ∈ (67 : Addr) :: xs, b < L' := fun b hb => (List.mem_cons.mp hb).elim (fun q => q ▸ hlt _ (List.Mem.head _)) fun q => Nat.lt_of_lt_of_le (hxs b q) I'.above
  have IX : Inn w A (67 :: xs) s.heap l frs L' := ⟨I'.hl, I'.fs, I'.fr, I'.lt, I'.above⟩
  k_lt lt'
  obtain ⟨o1, o2, rfl, d1', d2'⟩ := CellsAre.two Y'
  have w1 : o1.data = .cell (some (v2)) := d1'
  have w2 : o2.data = .cell (some (v1)) := d2'
  clear d1' d2' Y'
  obtain ⟨m0, F0⟩ : ∃ m0, Fr g L' h' m0 := ⟨_, F'⟩
  clear F'
  (try simp only [List.cons_append, List.nil_append] at N')
  (try dsimp only); (try k_fold)
  have C9 : CodeHd g 71 67 := (i9_10 _ _ _ _ _ _ _ _ _ (X' 71 _ (by k_is)) rfl rfl rfl rfl rfl rfl rfl rfl (by decide))
  k_steps
  show Q _ _; dsimp only
  rename_i f' ct' h2 tk2 F2 N2 l1
  have hf9 : L' < f' := Nat.lt_of_succ_lt l1.2.1
  have hw9 : L' < L' + 1 + 1 := Nat.lt_trans (Nat.lt_succ_self L') (Nat.lt_succ_self _)
  have hx9 : L' < L' + 1 := Nat.lt_succ_self L'
  clear C9
  subst hg
  refine ret _ _ _ (ext_of I'.hl I'.fs I'.fr F2 N2 (by k_asm) (by kwd_rel) I'.above) ⟨?_, Or.inr (i4_4 c9 oc9 vs9 t9 (N2.get (List.Mem.tail _ (List.Mem.tail _ (List.Mem.tail _ (List.Mem.head _))))) (keptX F2 hcG) d1 d2)⟩
  refine ⟨(i1_2 _ rfl (i4_1 _ _ _ _ (made_view IX hltx (N2.get (List.Mem.head _)) hf9))), ?_⟩
  (intro A2 s2 r1 r2 a b e2 H2 hd2 hu2 h9q; (refine x3_1 h9q fun u0 u1 u2 R1 => ?_
                                             try clear h9q); intro h9q; (refine x3_1 h9q fun w0 w1 w2 R2 => ?_
                                                                         try clear h9q); intro Q2 E2 ret2)
  have hf' := e2 _ _ (made_view IX hltx (N2.get (List.Mem.head _)) hf9)
  have hc' := e2 _ _ (keptX F2 hcG)
  have hw' := e2 _ _ (made_view IX hltx (N2.get (List.Mem.tail _ (List.Mem.head _))) hw9)
  have hx' := e2 _ _ (made_view IX hltx (N2.get (List.Mem.tail _ (List.Mem.tail _ (List.Mem.head _)))) hx9)
  replace K1 := (K1.ext (keptsX F2)).ext e2
  replace K2 := (K2.ext (keptsX F2)).ext e2
  have R1x : RecAt (view A2 [] s2.heap) r1 a := ⟨u0, u1, u2, R1⟩
  have R2x : RecAt (view A2 [] s2.heap) r2 b := ⟨w0, w1, w2, R2⟩
  clear ret F2 N2 X' T' N' F0 H hT I' IX hl Fs SU
  have X := H2.frag
  revert X; k_fill; intro X
  refine wpAny_call ?_
  k_dflt (refine' enter_l H2 (view_le _ _ hf') (i4_4 _ _ _ _ rfl (view_le _ _ hc') d1 d2) ?hd ?hb ?hl ?_ ?hcell ?hco ?hg ?hk; (case hd => omega); (case hb => exact rfl); (case hl => exact locs rfl); (case hcell => decide); (case hco => exact rfl); (case hg => exact rfl); (case hk => exact rfl))
  intro l frs p loose mean mg mb L' h' I' X' T' F' N'
  have hl := I'.hl
  have Fs := I'.fs
  have SU := SameUp.refl frs
  generalize hg : view A2 [] s2.heap = g at *
  (try dsimp only); (try k_fold)
  (obtain q85 := K1.fn
   with_reducible refine x1_2 q85 fun q1 r86 f1 => ?_
   clear q85
   obtain rfl := r86)
  (obtain q87 := K2.fn
   with_reducible refine x1_2 q87 fun q2 r88 f2 => ?_
   clear q87
   obtain rfl := r88)
  k_steps
  all_goals (
    show Q2 _ _
    (try dsimp only)
    first
    | exact ret2 _ _ _ (ext_ofg hg I'.hl I'.fs I'.fr (by k_asm) (by k_asm) (by k_asm) (by kwd_rel) I'.above) ⟨_, congrArg (fun z => Value.int z _) (show c1 a b = thenC c1 c2 a b by unfold thenC; rw [if_neg (by simp_all)])⟩
    | exact ret2 _ _ _ (ext_ofg hg I'.hl I'.fs I'.fr (by k_asm) (by k_asm) (by k_asm) (by kwd_rel) I'.above) ⟨_, congrArg (fun z => Value.int z _) (show c2 a b = thenC c1 c2 a b by unfold thenC; rw [if_pos (by simp_all)])⟩)

theorem c_thenX {w : World} {A : Around} {s : Shared} {v1 v2 : Value} {n : Nat} {c1 c2 : Rec → Rec → Int} {xs : List Addr} (hxs : ∀ b ∈ xs, b < s.heap.objs.size) (H : Here w A [67] s.heap) (hT : TabX A xs s.heap 67 93 11 (Str.ofString "_law_then.<locals>.<lambda>")) (hd : A.depth < recursionLimit) (K1 : CmpOk w (view A (67 :: xs) s.heap) v1 n c1) (K2 : CmpOk w (view A (67 :: xs) s.heap) v2 n c2) :
    QuietB w A (call (.ref 72) [v1, v2]) s [67] (fun r h => CmpOk w (view A (67 :: xs) h) r (n + 1) (thenC c1 c2) ∧ TabX A xs h 67 93 11 (Str.ofString "_law_then.<locals>.<lambda>")) := by
  rcases hT with hT | ⟨c, oc, vs, t, hT, ho, d1, d2⟩
  · exact c_thenX1 hxs H hT hd K1 K2
  · exact c_thenX2 hxs H hT ho d1 d2 hd K1 K2

end Mine
end PartC2x

section PartNew14
open PySem PySem.W PyProof.Rows PySem.Calls
set_option Elab.async false
set_option maxRecDepth 100000
set_option maxHeartbeats 4000000
set_option linter.unusedVariables false
set_option rowWalk.seconds 0
namespace Mine
theorem start_New14 {M : Model} {A : Around} {env : Env} {E : Value → Shared → Prop} {s : Shared} {Q : Flow → Shared → Prop} (h : Q .next s) : wpAny M A (execs [] env) Q E s := by
  w_top off
  walk1
  exact h
open TI (Frs SameUp)
theorem asg_attr {M : Model} {A : Around} {E : Value → Shared → Prop} {s : Shared} {env : Env} {o : Expr} {attr : Str} {pos' pos : Pos} {value : Expr} {Q : Flow → Shared → Prop}
    (h : wpAny M A (eval value env) (fun v s₁ => wpAny M A (eval o env) (fun ov s₂ => wpAny M A (setAttr ov attr v) (fun _ => Q .next) E s₂) E s₁) E s)
    (hs : swapsWith value (some (.Attribute o attr pos')) pos.line env = pure false := by rfl) : wpAny M A (exec (.Assign [.Attribute o attr pos'] value pos) env) Q E s := fun Γ p hΓ => by
  simp only [plainObj_exec_Assign_Attribute o attr pos' value pos hs, assign_Attribute, Sem.wp_bind', Sem.wp_holding, Sem.wp_cmd_standAt, Sem.wp_release, Sem.wp_pure']
  exact Sem.wp_mono M Γ _ (fun v p₁ s₁ h₁ => Sem.wp_mono M Γ _ (fun ov _ s₂ h₂ => h₂ Γ _ hΓ) (fun _ _ _ h' => h') _ _ (h₁ Γ p₁ hΓ)) (fun _ _ _ h' => h') _ _ (h Γ _ hΓ)
section
variable {w : World} {A : Around} {h : Heap} {g : Array GenState} {d : Drawn} {tk : Nat} {os : OsState} {C f N md bt cell sl fi fl fg fe fle fge st k r : Addr} {hs : Nat → Int} {ts : Nat → Tok} {hi hj : Int} {ti tj tm t0 : Tok} {dd : Option Addr} {E : Value → Shared → Prop}
theorem k_init {Q : Value → Shared → Prop} (F : KeyFacts h C f N md bt cell sl fi fl fg fe fle fge st hs ts hi hj ti tj tm t0) (nl : h.NoLimit) (hk : h.get? k = some (keyO0 C dd #[])) (hd : A.depth < recursionLimit)
    (ret : ∀ h' tk', h'.get? k = some (keyO0 C dd #[some (.ref r)]) → (∀ b o, b ≠ k → h.get? b = some o → h'.get? b = some o) → Q .none ⟨h', g, d, tk', os⟩) :
    wpAny (model Challenge.rw_mg0030_01.row.prog w) A (call (.ref fi) [.ref k, .ref r]) Q E ⟨h, g, d, tk, os⟩ := by
  (obtain q91 := F.meths.i
   refine x6_4 q91 fun pm q oc vs tc ctv m1 m2 m3 m4 => ?_
   clear q91)
  conv at m1 => rhs; arg 1; whnf
  refine wpAny_call (codeAny_call_def hd m1 rfl nl (i4_4 q oc vs tc rfl m2 m3 m4) rfl (BindsTo.of_eq rfl) (show ∀ x ∈ ([(Str.ofString "self", NameKind.local), (Str.ofString "obj", NameKind.local)] : List (Str × NameKind)), x.2 ≠ .cell by decide) (locs rfl) fun h1 hns k1 => ?_)
  have F1 := F.ext k1
  have hk1 := k1 _ _ hk
  refine wpAny_execs_cons (asg_attr ?_)
  refine wpAny_Name (wpAny_loadName_local rfl rfl hns rfl ?_) (by decide)
  refine wpAny_Name (wpAny_loadName_local rfl rfl hns rfl ?_) (by decide)
  refine k_set F1 hk1 fun h2 tk2 e2 k2 => ?_
  refine wpAny_execs_nil ?_
  exact ret h2 tk2 e2 fun b o hb e => k2 b o hb (k1 b o e)
end


theorem attr_key {w : World} {A : Around} {E : Value → Shared → Prop} {s : Shared} {g : Heap} {L : Addr} {m : Str → Option Value} {x : Str} {xp pos : Pos} {cn : Str} {cs : Scope} {a : Addr} {ccd : Value} {cl : List (Str × Addr)} {C f N md bt cell sl fi fl fg fe fle fge st k r : Addr} {hs : Nat → Int} {ts : Nat → Tok} {hi hj : Int} {ti tj tm t0 : Tok} {dd : Option Addr} {Q : Value → Shared → Prop}
    (F : Fr g L s.heap m) (hv : m x = some (.ref k)) (X : (Mine.hd.heap_1 w.params).In g) (KF : KeyFacts g C f N md bt cell sl fi fl fg fe fle fge st hs ts hi hj ti tj tm t0) (hk : g.get? k = some (keyO0 C dd #[some (.ref r)])) (h : Q (.ref r) { s with toks := s.toks + 1 })
    (hkk : cs.kind = .function := by rfl) (hx : cs.names.lookup x = some .local := by rfl) (hb : (x == ("__debug__" : Str)) = false := by decide) :
    wpAny (model Challenge.rw_mg0030_01.row.prog w) A (eval (.Attribute (.Name x xp) (Str.ofString "obj") pos) (envX cn cs L a ccd cl)) Q E s :=
  Attribute_name (wpAny_Name (wpAny_loadName_local hkk hx F.ns hv (k_attr (X.keeps F.keep) (KF.ext F.keep) (F.keep _ _ hk) h)) hb)
theorem strKeys_of {es : Array DictEntry} (h : (es.toList.all fun e => match e.key with | .str _ _ => true | _ => false) = true) : StrKeys es := fun e he => by
  have := List.all_eq_true.mp h e (Array.mem_def.mp he)
  cases e with
  | mk a key v =>
    cases key <;> first | exact ⟨_, _, rfl⟩ | exact absurd this (by simp)
theorem own_lt {g : Heap} {C f N md bt cell sl fi fl fg fe fle fge st k : Addr} {hs : Nat → Int} {ts : Nat → Tok} {hi hj : Int} {ti tj tm t0 : Tok} {dd : Option Addr} {sl' : Array (Option Value)}
    (F : KeyFacts g C f N md bt cell sl fi fl fg fe fle fge st hs ts hi hj ti tj tm t0) (hk : g.get? k = some (keyO0 C dd sl')) : g.OwnSpecial k C fl "object" "__lt__" ∧ g.OwnSpecial k C fg "object" "__gt__" ∧ g.OwnSpecial k C fe "object" "__eq__" := by
  have sk : StrKeys (nsK hs ts sl fi fl fg fe fle fge st [⟨hi, .str "obj" ti, .ref md⟩, ⟨hj, .str "__doc__" tj, .none⟩]) := strKeys_of rfl
  have nsn : g.Ns N (fun name => nsFind (nsK hs ts sl fi fl fg fe fle fge st [⟨hi, .str "obj" ti, .ref md⟩, ⟨hj, .str "__doc__" tj, .none⟩]) name) := (i3_4 _ _ _ F.n rfl sk (fun _ => rfl))
  have mo : mroOf (.type "object") = pure [.type "object"] := by kernel_rfl
  have fn : ∀ {st : Stmt} {q : Str} {cl : List (Str × Addr)} {a : Addr}, MethAt (fun a o => g.get? a = some o) st q cl a → (∀ pm c v, (defO st q cl pm c v).cls = .type "function") → ∃ of, g.get? a = some of ∧ of.cls = .type "function" := fun m hc => by
    (refine x6_1 m fun pm q oc vs tc ctv q9z => x0_2 q9z fun m1 c92 => ?_
     clear q9z
     try clear m
     clear c92)
    exact ⟨_, m1, hc _ _ _⟩
  (obtain q81 := fn F.meths.l (fun _ _ _ => by conv => lhs; arg 1; whnf)
   with_reducible refine x1_2 q81 fun o1 a1 b1 => ?_
   clear q81)
  (obtain q82 := fn F.meths.g (fun _ _ _ => by conv => lhs; arg 1; whnf)
   with_reducible refine x1_2 q82 fun o2 a2 b2 => ?_
   clear q82)
  (obtain q83 := fn F.meths.e (fun _ _ _ => by conv => lhs; arg 1; whnf)
   with_reducible refine x1_2 q83 fun o3 a3 b3 => ?_
   clear q83)
  have mk : ∀ (fm : Addr) (of : Obj) (dn : Str) (y : Option Value), nsFind (nsK hs ts sl fi fl fg fe fle fge st [⟨hi, .str "obj" ti, .ref md⟩, ⟨hj, .str "__doc__" tj, .none⟩]) dn = some (.ref fm) → g.get? fm = some of → of.cls = .type "function" → typeLookup (.type "object") dn = pure y → g.OwnSpecial k C fm "object" dn :=
    fun fm of dn y z a b c => ⟨_, of, "K", _, N, _, _, _, _, _, _, _, _, _, _, _, _, _, "object.__new__", _, y, hk, rfl, F.c, nsn, z, a, b, mo, c⟩
  exact ⟨mk _ _ _ (some (.builtin "object.__lt__")) (by kernel_rfl) a1 b1 (by kernel_rfl), mk _ _ _ (some (.builtin "object.__gt__")) (by kernel_rfl) a2 b2 (by kernel_rfl), mk _ _ _ (some (.builtin "object.__eq__")) (by kernel_rfl) a3 b3 (by kernel_rfl)⟩

local macro_rules | `(tactic| walk_at "eval Attribute Name") => `(tactic| (k_here; k_dflt (refine' attr_key ?F ?v ?X ?KF ?hk ?_ ?a ?b ?c; (case F => k_asm); (case v => rfl); (case X => assumption); (case KF => assumption); (case hk => assumption); (case a => rfl); (case b => rfl); (case c => decide); k_whole)))
theorem c_lt {w : World} {A : Around} {s : Shared} {C f N md bt cell sl fi fl fg fe fle fge st k1 k2 r1 r2 : Addr} {hs : Nat → Int} {ts : Nat → Tok} {hi hj : Int} {ti tj tm t0 : Tok} {d1 d2 : Option Addr} {n : Nat} {c : Rec → Rec → Int} {a b : Rec}
    (H : Here w A [] s.heap) (hd : A.depth + 30 < recursionLimit) (hu : A.units + 600 < cLine) (hn : n ≤ 25) (K : CmpOk w (view A [] s.heap) (.ref f) n c)
    (KF : KeyFacts (view A [] s.heap) C f N md bt cell sl fi fl fg fe fle fge st hs ts hi hj ti tj tm t0) (hk1 : (view A [] s.heap).get? k1 = some (keyO0 C d1 #[some (.ref r1)])) (hk2 : (view A [] s.heap).get? k2 = some (keyO0 C d2 #[some (.ref r2)])) (R1 : RecAt (view A [] s.heap) r1 a) (R2 : RecAt (view A [] s.heap) r2 b) :
    Quiet w A (richCompare .Lt (.ref k1) (.ref k2)) s (fun y _ => y = .bool (decide (c a b < 0))) := by
  intro Q E ret
  refine richCompare_own_same (op := .Lt) rfl (own_lt (KF.ext view_le) (view_le _ _ hk1)).1 (view_le _ _ hk2) rfl (by omega) ?_
  (obtain q93 := KF.meths.l
   refine x6_4 q93 fun pm q oc vs tc ctv m1 m2 m3 m4 => ?_
   clear q93)
  conv at m1 => rhs; arg 1; whnf
  (obtain q84 := KF.cl
   with_reducible refine x1_2 q84 fun ocl ecl edl => ?_
   clear q84)
  refine wpAny_call ?_
  k_dflt (refine' enter_m (hid := []) (news := []) H ?hN (view_le _ _ m1) ?hd (i4_4 q oc vs tc rfl (view_le _ _ m2) m3 m4) ?hr ?hb ?hl ?_ ?hcell ?hco ?hg ?hk; (case hN => exact fun _ h => nomatch h); (case hd => exact rfl); (case hr => omega); (case hb => exact BindsTo.of_eq rfl); (case hl => exact locs rfl); (case hcell => decide); (case hco => exact rfl); (case hg => exact rfl); (case hk => exact rfl))
  intro l frs p loose mean mg mb L' h' I' X' T' F' N'
  have hl := I'.hl
  have Fs := I'.fs
  have SU := SameUp.refl frs
  generalize hg : view A [] s.heap = g at *
  simp only [List.nil_append] at N'
  (obtain q85 := K.fn
   with_reducible refine x1_2 q85 fun q1 hq1 f1 => ?_
   clear q85)
  cases hq1
  (try dsimp only); (try k_fold)
  k_steps
  exact ret _ _ _ (ext_ofg hg I'.hl I'.fs I'.fr (by k_asm) (by k_asm) (by k_asm) (by kwd_rel) I'.above) rfl
theorem c_gt {w : World} {A : Around} {s : Shared} {C f N md bt cell sl fi fl fg fe fle fge st k1 k2 r1 r2 : Addr} {hs : Nat → Int} {ts : Nat → Tok} {hi hj : Int} {ti tj tm t0 : Tok} {d1 d2 : Option Addr} {n : Nat} {c : Rec → Rec → Int} {a b : Rec}
    (H : Here w A [] s.heap) (hd : A.depth + 30 < recursionLimit) (hu : A.units + 600 < cLine) (hn : n ≤ 25) (K : CmpOk w (view A [] s.heap) (.ref f) n c)
    (KF : KeyFacts (view A [] s.heap) C f N md bt cell sl fi fl fg fe fle fge st hs ts hi hj ti tj tm t0) (hk1 : (view A [] s.heap).get? k1 = some (keyO0 C d1 #[some (.ref r1)])) (hk2 : (view A [] s.heap).get? k2 = some (keyO0 C d2 #[some (.ref r2)])) (R1 : RecAt (view A [] s.heap) r1 a) (R2 : RecAt (view A [] s.heap) r2 b) :
    Quiet w A (richCompare .Gt (.ref k1) (.ref k2)) s (fun y _ => y = .bool (decide (0 < c a b))) := by
  intro Q E ret
  refine richCompare_own_same (op := .Gt) rfl (own_lt (KF.ext view_le) (view_le _ _ hk1)).2.1 (view_le _ _ hk2) rfl (by omega) ?_
  (obtain q94 := KF.meths.g
   refine x6_4 q94 fun pm q oc vs tc ctv m1 m2 m3 m4 => ?_
   clear q94)
  conv at m1 => rhs; arg 1; whnf
  (obtain q86 := KF.cl
   with_reducible refine x1_2 q86 fun ocl ecl edl => ?_
   clear q86)
  refine wpAny_call ?_
  k_dflt (refine' enter_m (hid := []) (news := []) H ?hN (view_le _ _ m1) ?hd (i4_4 q oc vs tc rfl (view_le _ _ m2) m3 m4) ?hr ?hb ?hl ?_ ?hcell ?hco ?hg ?hk; (case hN => exact fun _ h => nomatch h); (case hd => exact rfl); (case hr => omega); (case hb => exact BindsTo.of_eq rfl); (case hl => exact locs rfl); (case hcell => decide); (case hco => exact rfl); (case hg => exact rfl); (case hk => exact rfl))
  intro l frs p loose mean mg mb L' h' I' X' T' F' N'
  have hl := I'.hl
  have Fs := I'.fs
  have SU := SameUp.refl frs
  generalize hg : view A [] s.heap = g at *
  simp only [List.nil_append] at N'
  (obtain q87 := K.fn
   with_reducible refine x1_2 q87 fun q1 hq1 f1 => ?_
   clear q87)
  cases hq1
  (try dsimp only); (try k_fold)
  k_steps
  exact ret _ _ _ (ext_ofg hg I'.hl I'.fs I'.fr (by k_asm) (by k_asm) (by k_asm) (by kwd_rel) I'.above) rfl
theorem c_eq {w : World} {A : Around} {s : Shared} {C f N md bt cell sl fi fl fg fe fle fge st k1 k2 r1 r2 : Addr} {hs : Nat → Int} {ts : Nat → Tok} {hi hj : Int} {ti tj tm t0 : Tok} {d1 d2 : Option Addr} {n : Nat} {c : Rec → Rec → Int} {a b : Rec}
    (H : Here w A [] s.heap) (hd : A.depth + 30 < recursionLimit) (hu : A.units + 600 < cLine) (hn : n ≤ 25) (K : CmpOk w (view A [] s.heap) (.ref f) n c)
    (KF : KeyFacts (view A [] s.heap) C f N md bt cell sl fi fl fg fe fle fge st hs ts hi hj ti tj tm t0) (hk1 : (view A [] s.heap).get? k1 = some (keyO0 C d1 #[some (.ref r1)])) (hk2 : (view A [] s.heap).get? k2 = some (keyO0 C d2 #[some (.ref r2)])) (R1 : RecAt (view A [] s.heap) r1 a) (R2 : RecAt (view A [] s.heap) r2 b) :
    Quiet w A (richCompare .Eq (.ref k1) (.ref k2)) s (fun y _ => y = .bool (decide (c a b = 0))) := by
  intro Q E ret
  refine richCompare_own_same (op := .Eq) rfl (own_lt (KF.ext view_le) (view_le _ _ hk1)).2.2 (view_le _ _ hk2) rfl (by omega) ?_
  (obtain q95 := KF.meths.e
   refine x6_4 q95 fun pm q oc vs tc ctv m1 m2 m3 m4 => ?_
   clear q95)
  conv at m1 => rhs; arg 1; whnf
  (obtain q88 := KF.cl
   with_reducible refine x1_2 q88 fun ocl ecl edl => ?_
   clear q88)
  refine wpAny_call ?_
  k_dflt (refine' enter_m (hid := []) (news := []) H ?hN (view_le _ _ m1) ?hd (i4_4 q oc vs tc rfl (view_le _ _ m2) m3 m4) ?hr ?hb ?hl ?_ ?hcell ?hco ?hg ?hk; (case hN => exact fun _ h => nomatch h); (case hd => exact rfl); (case hr => omega); (case hb => exact BindsTo.of_eq rfl); (case hl => exact locs rfl); (case hcell => decide); (case hco => exact rfl); (case hg => exact rfl); (case hk => exact rfl))
  intro l frs p loose mean mg mb L' h' I' X' T' F' N'
  have hl := I'.hl
  have Fs := I'.fs
  have SU := SameUp.refl frs
  generalize hg : view A [] s.heap = g at *
  simp only [List.nil_append] at N'
  (obtain q89 := K.fn
   with_reducible refine x1_2 q89 fun q1 hq1 f1 => ?_
   clear q89)
  cases hq1
  (try dsimp only); (try k_fold)
  k_steps
  exact ret _ _ _ (ext_ofg hg I'.hl I'.fs I'.fr (by k_asm) (by k_asm) (by k_asm) (by kwd_rel) I'.above) rfl
theorem c_make {w : World} {A : Around} {s : Shared} {C f N md bt cell sl fi fl fg fe fle fge st r : Addr} {hs : Nat → Int} {ts : Nat → Tok} {hi hj : Int} {ti tj tm t0 : Tok} {Q E : Value → Shared → Prop}
    (KF : KeyFacts s.heap C f N md bt cell sl fi fl fg fe fle fge st hs ts hi hj ti tj tm t0) (nl : s.heap.NoLimit) (hd : A.depth + 5 < recursionLimit)
    (ret : ∀ k h' tk' dd, h'.get? k = some (keyO0 C dd #[some (.ref r)]) → s.heap.StaysIn h' → s.heap.get? k = none → Q (.ref k) { s with heap := h', toks := tk' }) :
    wpAny (model Challenge.rw_mg0030_01.row.prog w) A (call (.ref C) [.ref r]) Q E s :=
  k_make (g := s.gens) (d := s.drawn) (tk := s.toks) (os := s.os) KF (fun A' h1 tk k dd Q' E' hA hk k1 nk K' => k_init (KF.ext k1) (nl.keeps k1) hk (by omega) fun h2 tk2 e2 k2 => K' h2 tk2 e2 k2) fun k h' tk' dd ek kk nk => ret k h' tk' dd ek kk nk
theorem ext_stays {A : Around} {h h' : Heap} (k : h.StaysIn h') : Ext A [] h h' := ⟨fun b o e => view_of (view_get e).1 (k _ _ (view_get e).2), fun b _ o e => ⟨o.slots, k _ _ e⟩⟩
theorem new_seen {w : World} {A : Around} {h h' : Heap} {a : Addr} {o : Obj} (H : Here w A [] h) (hn : h.get? a = none) (e : h'.get? a = some o) : (view A [] h').get? a = some o := by
  (obtain q96 := H.fr
   with_reducible refine x2_3 q96 fun l frs hl Fs hf => ?_
   clear q96)
  refine view_of (fun q => ?_) e
  rw [List.nil_append, show fsA A = frs.map (·.1) by unfold fsA; rw [hl]; exact Fs.addrs] at q
  (obtain q810 := List.mem_map.mp q
   with_reducible refine x1_2 q810 fun p hp e => ?_
   clear q810)
  have := hf p hp
  rw [show p.1 = a from e, hn] at this
  cases this
theorem keyCls {w : World} {v : Heap} {C f N md bt cell sl fi fl fg fe fle fge st : Addr} {hs : Nat → Int} {ts : Nat → Tok} {hi hj : Int} {ti tj tm t0 : Tok} {n : Nat} {c : Rec → Rec → Int}
    (KF : KeyFacts v C f N md bt cell sl fi fl fg fe fle fge st hs ts hi hj ti tj tm t0) (K : CmpOk w v (.ref f) n c) (hn : n ≤ 25) : KeyCls w v C c where
  make A s r hv H hd hu := by
    intro Q E ret
    (obtain q97 := H.top
     with_reducible refine x5_1 q97 fun p loose mean mg mb T => ?_
     clear q97)
    refine c_make (KF.ext (StaysIn.trans hv view_le)) (T.nolimit.keeps view_le) (by omega) fun k h' tk' dd ek kk nk => ?_
    exact ret _ _ _ (ext_stays kk) ⟨k, rfl, dd, new_seen H nk ek⟩
  lt A s k1 k2 a b hv H hd hu := by
    (rintro h9q; (refine x1_2 h9q fun r1 q811 R1 => ?_
                  try clear h9q
                  obtain ⟨d1, e1⟩ := q811); rintro h9q; (refine x1_2 h9q fun r2 q812 R2 => ?_
                                                         try clear h9q
                                                         obtain ⟨d2, e2⟩ := q812))
    exact c_lt H hd hu hn (K.ext hv) (KF.ext hv) e1 e2 R1 R2
  gt A s k1 k2 a b hv H hd hu := by
    (rintro h9q; (refine x1_2 h9q fun r1 q813 R1 => ?_
                  try clear h9q
                  obtain ⟨d1, e1⟩ := q813); rintro h9q; (refine x1_2 h9q fun r2 q814 R2 => ?_
                                                         try clear h9q
                                                         obtain ⟨d2, e2⟩ := q814))
    exact c_gt H hd hu hn (K.ext hv) (KF.ext hv) e1 e2 R1 R2
  eq A s k1 k2 a b hv H hd hu := by
    (rintro h9q; (refine x1_2 h9q fun r1 q815 R1 => ?_
                  try clear h9q
                  obtain ⟨d1, e1⟩ := q815); rintro h9q; (refine x1_2 h9q fun r2 q816 R2 => ?_
                                                         try clear h9q
                                                         obtain ⟨d2, e2⟩ := q816))
    exact c_eq H hd hu hn (K.ext hv) (KF.ext hv) e1 e2 R1 R2
end Mine
end PartNew14

section PartI3
open PySem PySem.W PyProof.Rows PySem.Calls
set_option Elab.async false
set_option maxRecDepth 100000
set_option maxHeartbeats 4000000
set_option linter.unusedVariables false
set_option rowWalk.seconds 0
namespace Mine
theorem start_I3 {M : Model} {A : Around} {env : Env} {E : Value → Shared → Prop} {s : Shared} {Q : Flow → Shared → Prop} (h : Q .next s) : wpAny M A (execs [] env) Q E s := by
  w_top off
  walk1
  exact h
open TI (Frs SameUp)


local macro_rules | `(tactic| walk_at "eval Attribute Name") => `(tactic| (k_here; k_dflt (refine' attr_key ?F ?v ?X ?KF ?hk ?_ ?a ?b ?c; (case F => k_asm); (case v => rfl); (case X => assumption); (case KF => assumption); (case hk => assumption); (case a => rfl); (case b => rfl); (case c => decide); k_whole)))
theorem c_ltcall {w : World} {A : Around} {s : Shared} {C f N md bt cell sl fi fl fg fe fle fge st k1 k2 r1 r2 : Addr} {hs : Nat → Int} {ts : Nat → Tok} {hi hj : Int} {ti tj tm t0 : Tok} {d1 d2 : Option Addr} {n : Nat} {c : Rec → Rec → Int} {a b : Rec}
    (H : Here w A [] s.heap) (hd : A.depth + 30 < recursionLimit) (hu : A.units + 600 < cLine) (hn : n ≤ 25) (K : CmpOk w (view A [] s.heap) (.ref f) n c)
    (KF : KeyFacts (view A [] s.heap) C f N md bt cell sl fi fl fg fe fle fge st hs ts hi hj ti tj tm t0) (hk1 : (view A [] s.heap).get? k1 = some (keyO0 C d1 #[some (.ref r1)])) (hk2 : (view A [] s.heap).get? k2 = some (keyO0 C d2 #[some (.ref r2)])) (R1 : RecAt (view A [] s.heap) r1 a) (R2 : RecAt (view A [] s.heap) r2 b) :
    Quiet w A (call (.ref fl) [.ref k1, .ref k2]) s (fun y _ => y = .bool (decide (c a b < 0))) := by
  intro Q E ret
  (obtain q91 := KF.meths.l
   refine x6_4 q91 fun pm q oc vs tc ctv m1 m2 m3 m4 => ?_
   clear q91)
  conv at m1 => rhs; arg 1; whnf
  (obtain q81 := KF.cl
   with_reducible refine x1_2 q81 fun ocl ecl edl => ?_
   clear q81)
  refine wpAny_call ?_
  k_dflt (refine' enter_m (hid := []) (news := []) H ?hN (view_le _ _ m1) ?hd (i4_4 q oc vs tc rfl (view_le _ _ m2) m3 m4) ?hr ?hb ?hl ?_ ?hcell ?hco ?hg ?hk; (case hN => exact fun _ h => nomatch h); (case hd => exact rfl); (case hr => omega); (case hb => exact BindsTo.of_eq rfl); (case hl => exact locs rfl); (case hcell => decide); (case hco => exact rfl); (case hg => exact rfl); (case hk => exact rfl))
  intro l frs p loose mean mg mb L' h' I' X' T' F' N'
  have hl := I'.hl
  have Fs := I'.fs
  have SU := SameUp.refl frs
  generalize hg : view A [] s.heap = g at *
  simp only [List.nil_append] at N'
  (obtain q82 := K.fn
   with_reducible refine x1_2 q82 fun q1 hq1 f1 => ?_
   clear q82)
  cases hq1
  (try dsimp only); (try k_fold)
  k_steps
  exact ret _ _ _ (ext_ofg hg I'.hl I'.fs I'.fr (by k_asm) (by k_asm) (by k_asm) (by kwd_rel) I'.above) rfl
theorem c_lts {w : World} {A : Around} {s : Shared} {C f N md bt cell sl fi fl fg fe fle fge st k1 k2 r1 r2 : Addr} {hs : Nat → Int} {ts : Nat → Tok} {hi hj : Int} {ti tj tm t0 : Tok} {d1 d2 : Option Addr} {n : Nat} {c : Rec → Rec → Int} {a b : Rec}
    (H : Here w A [] s.heap) (hd : A.depth + 30 < recursionLimit) (hu : A.units + 600 < cLine) (hn : n ≤ 25) (K : CmpOk w (view A [] s.heap) (.ref f) n c)
    (KF : KeyFacts (view A [] s.heap) C f N md bt cell sl fi fl fg fe fle fge st hs ts hi hj ti tj tm t0) (hk1 : (view A [] s.heap).get? k1 = some (keyO0 C d1 #[some (.ref r1)])) (hk2 : (view A [] s.heap).get? k2 = some (keyO0 C d2 #[some (.ref r2)])) (R1 : RecAt (view A [] s.heap) r1 a) (R2 : RecAt (view A [] s.heap) r2 b) :
    Quiet w A (oneLt' true (.ref k1) (.ref k2)) s (fun y _ => y = decide (c a b < 0)) := by
  intro Q E ret
  rw [oneLt'_eq]
  simp only [if_true]
  refine wpAny_bind (wpAny_cRoomFor (by omega) ?_)
  refine wpAny_bind (wpAny_callSpecialIfBound?_own (own_lt (KF.ext view_le) (view_le _ _ hk1)).1 ?_)
  refine c_ltcall H hd hu hn K KF hk1 hk2 R1 R2 _ _ fun r h' tk' X e => ?_
  subst e
  exact wpAny_truthy_bool (ret _ _ _ X rfl)
end Mine
end PartI3

end MacB
section PartP2
open PySem PySem.W PyProof.Rows PySem.Calls
set_option Elab.async false
set_option maxRecDepth 100000
set_option maxHeartbeats 2000000
set_option linter.unusedVariables false
set_option rowWalk.seconds 0
namespace Mine
structure ByKey (c : Rec → Rec → Int) (κ : Rec → Int) : Prop where
  lt : ∀ a b, c a b < 0 ↔ κ a < κ b
  gt : ∀ a b, 0 < c a b ↔ κ b < κ a
theorem ByKey.eq {c : Rec → Rec → Int} {κ : Rec → Int} (h : ByKey c κ) (a b : Rec) : c a b = 0 ↔ κ a = κ b := by
  have h1 := h.lt a b
  have h2 := h.gt a b
  constructor
  · intro e
    have : ¬ κ a < κ b := fun q => by have := h1.mpr q; omega
    have : ¬ κ b < κ a := fun q => by have := h2.mpr q; omega
    omega
  · intro e
    have : ¬ c a b < 0 := fun q => by have := h1.mp q; omega
    have : ¬ 0 < c a b := fun q => by have := h2.mp q; omega
    omega
noncomputable def kR (κ : Rec → Int) (xs : List Rec) (p : Nat) : Int := κ (xs.getD p (0, 0, 0))
noncomputable def Srt (κ : Rec → Int) (xs : List Rec) : Prop := ∀ p q, p ≤ q → q < xs.length → kR κ xs p ≤ kR κ xs q
noncomputable def Own (κ : Rec → Int) (xs ys : List Rec) (p : Nat) : Prop := (∀ q, q < ys.length → kR κ ys q ≠ kR κ xs p) ∧ ((∀ q, q < p → kR κ xs q ≠ kR κ xs p) ∨ ∀ q, q < ys.length → ¬ kR κ xs p < kR κ ys q)
open Classical in
noncomputable def owns (κ : Rec → Int) (xs ys : List Rec) (n : Nat) : List Nat := (List.range n).filter fun p => decide (Own κ xs ys p)
theorem getD_of {xs : List Rec} {i : Nat} {e : Rec} (h : xs[i]? = some e) : xs.getD i (0, 0, 0) = e := by rw [List.getD_eq_getElem?_getD, h]; rfl
theorem skip_spec {c : Rec → Rec → Int} {κ : Rec → Int} (K : ByKey c κ) {e : Rec} {xs : List Rec} : ∀ (n i : Nat), xs.length - i ≤ n → i ≤ xs.length → i ≤ skip c e xs i ∧ skip c e xs i ≤ xs.length ∧ (∀ p, i ≤ p → p < skip c e xs i → kR κ xs p = κ e) ∧ (skip c e xs i < xs.length → kR κ xs (skip c e xs i) ≠ κ e)
  | 0, i, hn, hi => by
    have : skip c e xs i = i := skip_end (by omega)
    rw [this]
    exact ⟨Nat.le_refl _, hi, fun p h1 h2 => by omega, fun h => by omega⟩
  | n + 1, i, hn, hi => by
    by_cases hlt : i < xs.length
    · have hx : xs[i]? = some xs[i] := List.getElem?_eq_getElem hlt
      by_cases hc : c xs[i] e = 0
      · rw [skip_on hx hc]
        (obtain q91 := skip_spec K n (i + 1) (by omega) hlt
         with_reducible refine x0_4 q91 fun a b d f => ?_
         clear q91)
        refine ⟨by omega, b, fun p h1 h2 => ?_, f⟩
        by_cases q : p = i
        · subst q
          unfold kR; rw [getD_of hx]; exact (K.eq _ _).mp hc
        · exact d p (by omega) h2
      · rw [skip_stop hx hc]
        refine ⟨Nat.le_refl _, hi, fun p h1 h2 => by omega, fun _ => ?_⟩
        unfold kR; rw [getD_of hx]
        exact fun q => hc ((K.eq _ _).mpr q)
    · have : skip c e xs i = i := skip_end (by omega)
      rw [this]
      exact ⟨Nat.le_refl _, hi, fun p h1 h2 => by omega, fun h => by omega⟩
theorem owns_more {κ : Rec → Int} {xs ys : List Rec} {i i' : Nat} (hii : i ≤ i') (h : ∀ p, i ≤ p → p < i' → ¬ Own κ xs ys p) : owns κ xs ys i' = owns κ xs ys i := by
  induction i' with
  | zero => have : i = 0 := by omega
            subst this; rfl
  | succ n ih =>
    by_cases q : i = n + 1
    · subst q; rfl
    · unfold owns
      rw [List.range_succ, List.filter_append]
      have hn := h n (by omega) (by omega)
      simp only [List.filter_cons, List.filter_nil, hn, decide_false, Bool.false_eq_true, if_false, List.append_nil]
      exact ih (by omega) fun p h1 h2 => h p h1 (by omega)
theorem owns_one {κ : Rec → Int} {xs ys : List Rec} {i : Nat} (h : Own κ xs ys i) : owns κ xs ys (i + 1) = owns κ xs ys i ++ [i] := by
  unfold owns
  rw [List.range_succ, List.filter_append]
  simp only [List.filter_cons, List.filter_nil, h, decide_true, if_true]
theorem owns_all {κ : Rec → Int} {xs ys : List Rec} {i : Nat} : ∀ {n : Nat}, (∀ p, i ≤ p → p < i + n → Own κ xs ys p) → owns κ xs ys (i + n) = owns κ xs ys i ++ (List.range' i n)
  | 0, _ => by simp
  | n + 1, h => by
    rw [← Nat.add_assoc, owns_one (h (i + n) (by omega) (by omega)), owns_all fun p h1 h2 => h p h1 (by omega), List.append_assoc, List.range'_concat]
    simp
structure RInv (κ : Rec → Int) (xs ys : List Rec) (i j : Nat) (ms us : List Nat) : Prop where
  hi : i ≤ xs.length
  hj : j ≤ ys.length
  gx : ∀ p q, p < i → i ≤ q → q < xs.length → kR κ xs p < kR κ xs q
  gy : ∀ p q, p < j → j ≤ q → q < ys.length → kR κ ys p < kR κ ys q
  xy : ∀ p q, p < i → j ≤ q → q < ys.length → kR κ xs p < kR κ ys q
  yx : ∀ p q, p < j → i ≤ q → q < xs.length → kR κ ys p < kR κ xs q
  ms : ms = owns κ xs ys i
  us : us = owns κ ys xs j
theorem reach_inv {c : Rec → Rec → Int} {κ : Rec → Int} (K : ByKey c κ) {xs ys : List Rec} (sx : Srt κ xs) (sy : Srt κ ys) {i j : Nat} {ms us : List Nat} {b : Bool} (R : Reach c xs ys i j ms us b) : RInv κ xs ys i j ms us ∧ (b = true → i = xs.length ∨ j = ys.length) := by
  induction R with
  | start => exact ⟨⟨Nat.zero_le _, Nat.zero_le _, fun p q h => by omega, fun p q h => by omega, fun p q h => by omega, fun p q h => by omega, rfl, rfl⟩, fun h => by cases h⟩
  | endI _ h ih => exact ⟨ih.1, fun _ => .inl (Nat.le_antisymm ih.1.hi h)⟩
  | endJ _ _ h ih => exact ⟨ih.1, fun _ => .inr (Nat.le_antisymm ih.1.hj h)⟩
  | @lt i j ms us e a _ he ha hc ih =>
    obtain ⟨I, -⟩ := ih
    have hil : i < xs.length := (List.getElem?_eq_some_iff.mp he).1
    have hjl : j < ys.length := (List.getElem?_eq_some_iff.mp ha).1
    have ke : kR κ xs i = κ e := by unfold kR; rw [getD_of he]
    have ka : kR κ ys j = κ a := by unfold kR; rw [getD_of ha]
    have hlt := (K.lt _ _).mp hc
    (obtain q92 := skip_spec K (e := e) (xs := xs) xs.length (i + 1) (by omega) hil
     with_reducible refine x0_4 q92 fun s1 s2 s3 s4 => ?_
     clear q92)
    generalize skip c e xs (i + 1) = i' at *
    have grp : ∀ p, i ≤ p → p < i' → kR κ xs p = κ e := fun p h1 h2 => by
      by_cases q : p = i
      · subst q; exact ke
      · exact s3 p (by omega) h2
    have up : ∀ q, i' ≤ q → q < xs.length → κ e < kR κ xs q := fun q h1 h2 => by
      have e1 := sx i' q h1 h2
      have e2 := s4 (by omega)
      have e3 := sx i i' (by omega) (by omega)
      omega
    have low : ∀ q, j ≤ q → q < ys.length → κ e < kR κ ys q := fun q h1 h2 => by
      have := sy j q h1 h2; omega
    refine ⟨⟨s2, I.hj, fun p q h1 h2 h3 => ?_, I.gy, fun p q h1 h2 h3 => ?_, fun p q h1 h2 h3 => I.yx p q h1 (by omega) h3, ?_, I.us⟩, fun h => .inl (Nat.le_antisymm s2 (by simpa using h))⟩
    · by_cases q1 : p < i
      · exact I.gx p q q1 (by omega) h3
      · rw [grp p (by omega) h1]; exact up q h2 h3
    · by_cases q1 : p < i
      · exact I.xy p q q1 h2 h3
      · rw [grp p (by omega) h1]; exact low q h2 h3
    · have own_i : Own κ xs ys i := ⟨fun q hq hqe => by
          by_cases q1 : q < j
          · have := I.yx q i q1 (Nat.le_refl _) hil; omega
          · have := low q (by omega) hq; omega, .inl fun q hq hqe => by
          have := I.gx q i hq (Nat.le_refl _) hil; omega⟩
      have not : ∀ p, i + 1 ≤ p → p < i' → ¬ Own κ xs ys p := fun p h1 h2 o => by
        rcases o.2 with o | o
        · exact o i (by omega) (by rw [ke, grp p (by omega) h2])
        · exact o j hjl (by rw [grp p (by omega) h2]; exact low j (Nat.le_refl _) hjl)
      rw [owns_more s1 not, owns_one own_i, I.ms]
  | @gt i j ms us e a _ he ha hn hc ih =>
    obtain ⟨I, -⟩ := ih
    have hil : i < xs.length := (List.getElem?_eq_some_iff.mp he).1
    have hjl : j < ys.length := (List.getElem?_eq_some_iff.mp ha).1
    have ke : kR κ xs i = κ e := by unfold kR; rw [getD_of he]
    have ka : kR κ ys j = κ a := by unfold kR; rw [getD_of ha]
    have hlt := (K.gt _ _).mp hc
    (obtain q93 := skip_spec K (e := a) (xs := ys) ys.length (j + 1) (by omega) hjl
     with_reducible refine x0_4 q93 fun s1 s2 s3 s4 => ?_
     clear q93)
    generalize skip c a ys (j + 1) = j' at *
    have grp : ∀ p, j ≤ p → p < j' → kR κ ys p = κ a := fun p h1 h2 => by
      by_cases q : p = j
      · subst q; exact ka
      · exact s3 p (by omega) h2
    have up : ∀ q, j' ≤ q → q < ys.length → κ a < kR κ ys q := fun q h1 h2 => by
      have e1 := sy j' q h1 h2
      have e2 := s4 (by omega)
      have e3 := sy j j' (by omega) (by omega)
      omega
    have low : ∀ q, i ≤ q → q < xs.length → κ a < kR κ xs q := fun q h1 h2 => by
      have := sx i q h1 h2; omega
    refine ⟨⟨I.hi, s2, I.gx, fun p q h1 h2 h3 => ?_, fun p q h1 h2 h3 => I.xy p q h1 (by omega) h3, fun p q h1 h2 h3 => ?_, I.ms, ?_⟩, fun h => .inr (Nat.le_antisymm s2 (by simpa using h))⟩
    · by_cases q1 : p < j
      · exact I.gy p q q1 (by omega) h3
      · rw [grp p (by omega) h1]; exact up q h2 h3
    · by_cases q1 : p < j
      · exact I.yx p q q1 h2 h3
      · rw [grp p (by omega) h1]; exact low q h2 h3
    · have own_j : Own κ ys xs j := ⟨fun q hq hqe => by
          by_cases q1 : q < i
          · have := I.xy q j q1 (Nat.le_refl _) hjl; omega
          · have := low q (by omega) hq; omega, .inl fun q hq hqe => by
          have := I.gy q j hq (Nat.le_refl _) hjl; omega⟩
      have not : ∀ p, j + 1 ≤ p → p < j' → ¬ Own κ ys xs p := fun p h1 h2 o => by
        rcases o.2 with o | o
        · exact o j (by omega) (by rw [ka, grp p (by omega) h2])
        · exact o i hil (by rw [grp p (by omega) h2]; exact low i (Nat.le_refl _) hil)
      rw [owns_more s1 not, owns_one own_j, I.us]
  | @eq i j ms us e a _ he ha hn1 hn2 ih =>
    obtain ⟨I, -⟩ := ih
    have hil : i < xs.length := (List.getElem?_eq_some_iff.mp he).1
    have hjl : j < ys.length := (List.getElem?_eq_some_iff.mp ha).1
    have ke : kR κ xs i = κ e := by unfold kR; rw [getD_of he]
    have ka : kR κ ys j = κ a := by unfold kR; rw [getD_of ha]
    have heq : κ e = κ a := by
      have h1 : ¬ κ e < κ a := fun q => hn1 ((K.lt _ _).mpr q)
      have h2 : ¬ κ a < κ e := fun q => hn2 ((K.gt _ _).mpr q)
      omega
    (obtain q94 := skip_spec K (e := e) (xs := xs) xs.length (i + 1) (by omega) hil
     with_reducible refine x0_4 q94 fun s1 s2 s3 s4 => ?_
     clear q94)
    (obtain q95 := skip_spec K (e := a) (xs := ys) ys.length (j + 1) (by omega) hjl
     with_reducible refine x0_4 q95 fun t1 t2 t3 t4 => ?_
     clear q95)
    generalize skip c e xs (i + 1) = i' at *
    generalize skip c a ys (j + 1) = j' at *
    have gx : ∀ p, i ≤ p → p < i' → kR κ xs p = κ e := fun p h1 h2 => by
      by_cases q : p = i
      · subst q; exact ke
      · exact s3 p (by omega) h2
    have gy : ∀ p, j ≤ p → p < j' → kR κ ys p = κ a := fun p h1 h2 => by
      by_cases q : p = j
      · subst q; exact ka
      · exact t3 p (by omega) h2
    have ux : ∀ q, i' ≤ q → q < xs.length → κ e < kR κ xs q := fun q h1 h2 => by
      have e1 := sx i' q h1 h2
      have e2 := s4 (by omega)
      have e3 := sx i i' (by omega) (by omega)
      omega
    have uy : ∀ q, j' ≤ q → q < ys.length → κ a < kR κ ys q := fun q h1 h2 => by
      have e1 := sy j' q h1 h2
      have e2 := t4 (by omega)
      have e3 := sy j j' (by omega) (by omega)
      omega
    refine ⟨⟨s2, t2, fun p q h1 h2 h3 => ?_, fun p q h1 h2 h3 => ?_, fun p q h1 h2 h3 => ?_, fun p q h1 h2 h3 => ?_, ?_, ?_⟩, fun h => ?_⟩
    · by_cases q1 : p < i
      · exact I.gx p q q1 (by omega) h3
      · rw [gx p (by omega) h1]; exact ux q h2 h3
    · by_cases q1 : p < j
      · exact I.gy p q q1 (by omega) h3
      · rw [gy p (by omega) h1]; exact uy q h2 h3
    · by_cases q1 : p < i
      · exact I.xy p q q1 (by omega) h3
      · rw [gx p (by omega) h1, heq]; exact uy q h2 h3
    · by_cases q1 : p < j
      · exact I.yx p q q1 (by omega) h3
      · rw [gy p (by omega) h1, ← heq]; exact ux q h2 h3
    · rw [owns_more (i := i) (by omega) (fun p h1 h2 o => o.1 j hjl (by rw [ka, gx p h1 h2, heq])), I.ms]
    · rw [owns_more (i := j) (by omega) (fun p h1 h2 o => o.1 i hil (by rw [ke, gy p h1 h2, heq])), I.us]
    · rcases Bool.or_eq_true_iff.mp h with h | h
      · exact .inl (Nat.le_antisymm s2 (by simpa using h))
      · exact .inr (Nat.le_antisymm t2 (by simpa using h))
theorem reach_told {c : Rec → Rec → Int} {κ : Rec → Int} (K : ByKey c κ) {xs ys : List Rec} (sx : Srt κ xs) (sy : Srt κ ys) {i j : Nat} {ms us : List Nat} (R : Reach c xs ys i j ms us true) :
    i ≤ xs.length ∧ j ≤ ys.length ∧ ms ++ List.range' i (xs.length - i) = owns κ xs ys xs.length ∧ us ++ List.range' j (ys.length - j) = owns κ ys xs ys.length := by
  obtain ⟨I, h⟩ := reach_inv K sx sy R
  have h := h rfl
  refine ⟨I.hi, I.hj, ?_, ?_⟩
  · have := I.hi
    have e := owns_all (κ := κ) (xs := xs) (ys := ys) (i := i) (n := xs.length - i) fun p h1 h2 => ?_
    · rw [show i + (xs.length - i) = xs.length by omega] at e; rw [e, I.ms]
    · rcases h with h | h
      · omega
      · refine ⟨fun q hq => ?_, .inr fun q hq => ?_⟩
        · have := I.yx q p (by omega) h1 (by omega); omega
        · have := I.yx q p (by omega) h1 (by omega); omega
  · have := I.hj
    have e := owns_all (κ := κ) (xs := ys) (ys := xs) (i := j) (n := ys.length - j) fun p h1 h2 => ?_
    · rw [show j + (ys.length - j) = ys.length by omega] at e; rw [e, I.us]
    · rcases h with h | h
      · refine ⟨fun q hq => ?_, .inr fun q hq => ?_⟩
        · have := I.xy q p (by omega) h1 (by omega); omega
        · have := I.xy q p (by omega) h1 (by omega); omega
      · omega
end Mine
end PartP2

section PartP3
open PySem PySem.W PyProof.Rows PySem.Calls
set_option Elab.async false
set_option maxRecDepth 100000
set_option maxHeartbeats 2000000
set_option linter.unusedVariables false
set_option rowWalk.seconds 0
namespace Mine
noncomputable def cntTo (κ : Rec → Int) (ys : List Rec) (v : Int) : Nat → Nat
  | 0 => 0
  | n + 1 => cntTo κ ys v n + (if kR κ ys n = v then 1 else 0)
noncomputable def cntFrom (κ : Rec → Int) (xs : List Rec) (v : Int) (i : Nat) : Nat := cntTo κ xs v xs.length - cntTo κ xs v i
theorem cntTo_mono {κ : Rec → Int} {ys : List Rec} {v : Int} {a : Nat} : ∀ {b : Nat}, a ≤ b → cntTo κ ys v a ≤ cntTo κ ys v b
  | 0, h => by have : a = 0 := by omega
               subst this; exact Nat.le_refl _
  | b + 1, h => by
    by_cases q : a = b + 1
    · subst q; exact Nat.le_refl _
    · exact Nat.le_trans (cntTo_mono (by omega)) (Nat.le_add_right _ _)
theorem cntFrom_step {κ : Rec → Int} {xs : List Rec} {v : Int} {i : Nat} (h : i < xs.length) : cntFrom κ xs v i = cntFrom κ xs v (i + 1) + (if kR κ xs i = v then 1 else 0) := by
  unfold cntFrom
  have h1 := cntTo_mono (κ := κ) (ys := xs) (v := v) (show i + 1 ≤ xs.length from h)
  have h2 : cntTo κ xs v (i + 1) = cntTo κ xs v i + (if kR κ xs i = v then 1 else 0) := rfl
  omega
theorem cnt_at {κ : Rec → Int} {ys : List Rec} {v : Int} {m : Nat} : ∀ {n : Nat}, m < cntTo κ ys v n → ∃ y, y < n ∧ kR κ ys y = v ∧ cntTo κ ys v (y + 1) = m + 1
  | 0, h => absurd h (Nat.not_lt_zero _)
  | n + 1, h => by
    by_cases q : m < cntTo κ ys v n
    · (obtain q91 := cnt_at q
       with_reducible refine x1_3 q91 fun y a b d => ?_
       clear q91)
      exact (i1_3 y (by omega) b d)
    · have e : cntTo κ ys v (n + 1) = cntTo κ ys v n + (if kR κ ys n = v then 1 else 0) := rfl
      by_cases q2 : kR κ ys n = v
      · rw [if_pos q2] at e
        exact (i1_3 n (Nat.lt_succ_self _) q2 (by omega))
      · rw [if_neg q2] at e
        omega
theorem cnt_inj {κ : Rec → Int} {ys : List Rec} {v : Int} {x y : Nat} (hx : kR κ ys x = v) (hy : kR κ ys y = v) (h : cntTo κ ys v (x + 1) = cntTo κ ys v (y + 1)) : x = y := by
  have ex : cntTo κ ys v (x + 1) = cntTo κ ys v x + 1 := by show cntTo κ ys v x + (if _ then 1 else 0) = _; rw [if_pos hx]
  have ey : cntTo κ ys v (y + 1) = cntTo κ ys v y + 1 := by show cntTo κ ys v y + (if _ then 1 else 0) = _; rw [if_pos hy]
  rcases Nat.lt_trichotomy x y with q | q | q
  · have := cntTo_mono (κ := κ) (ys := ys) (v := v) (show x + 1 ≤ y from q); omega
  · exact q
  · have := cntTo_mono (κ := κ) (ys := ys) (v := v) (show y + 1 ≤ x from q); omega
noncomputable abbrev Lack (κ : Rec → Int) (xs ys : List Rec) (at_ : Nat) : Prop := cntTo κ ys (kR κ xs at_) ys.length < cntFrom κ xs (kR κ xs at_) at_
noncomputable abbrev Left (κ : Rec → Int) (xs ys : List Rec) (i at_ : Nat) : Prop := cntFrom κ xs (kR κ ys at_) i < cntTo κ ys (kR κ ys at_) (at_ + 1)
noncomputable def lacks (κ : Rec → Int) (xs ys : List Rec) (i : Nat) : List Nat := ((List.range' i (xs.length - i)).reverse).filter fun a => decide (Lack κ xs ys a)
noncomputable def lefts (κ : Rec → Int) (xs ys : List Rec) (i : Nat) : List Nat := (List.range ys.length).filter fun a => decide (Left κ xs ys i a)
theorem eraseIdx_nodup {x : Nat} : ∀ {l : List Nat} {j : Nat}, l.Nodup → l[j]? = some x → l.eraseIdx j = l.filter fun a => decide (a ≠ x)
  | [], _, _, h => by simp at h
  | a :: l, 0, hn, h => by
    simp at h; subst h
    have hn' := List.nodup_cons.mp hn
    simp only [List.eraseIdx_zero, List.tail_cons, List.filter_cons]
    rw [if_neg (by simp)]
    exact (List.filter_eq_self.mpr fun b hb => by
      have : b ≠ a := fun q => by subst q; exact hn'.1 hb
      simpa using this).symm
  | a :: l, j + 1, hn, h => by
    have hn' := List.nodup_cons.mp hn
    have h' : l[j]? = some x := by simpa using h
    have ne : a ≠ x := fun q => hn'.1 (q ▸ List.mem_of_getElem? h')
    simp only [List.eraseIdx_cons_succ, List.filter_cons]
    rw [if_pos (by simpa using ne), eraseIdx_nodup hn'.2 h']
theorem range_step {i n : Nat} (h : i < n) : List.range' i (n - i) = i :: List.range' (i + 1) (n - (i + 1)) := by
  rw [show n - i = (n - (i + 1)) + 1 by omega, List.range'_succ]
theorem ureach_inv {c : Rec → Rec → Int} {κ : Rec → Int} (K : ByKey c κ) {xs ys : List Rec} {i : Nat} {ms ids : List Nat} (R : UReach c xs ys i ms ids) : i ≤ xs.length ∧ ms = lacks κ xs ys i ∧ ids = lefts κ xs ys i := by
  induction R with
  | start =>
    refine ⟨Nat.le_refl _, by unfold lacks; simp, ?_⟩
    unfold lefts
    refine (List.filter_eq_self.mpr fun a ha => ?_).symm
    rw [decide_eq_true_eq]
    unfold Left cntFrom
    have : cntTo κ ys (kR κ ys a) (a + 1) = cntTo κ ys (kR κ ys a) a + 1 := by show _ + (if _ then 1 else 0) = _; rw [if_pos rfl]
    omega
  | @hit i ms ids j e x _ he hx hc hno ih =>
    (with_reducible refine x0_3 ih fun hi h1 h2 => ?_
     try clear ih)
    have hil : i < xs.length := (List.getElem?_eq_some_iff.mp he).1
    have ke : kR κ xs i = κ e := by unfold kR; rw [getD_of he]
    have kx : kR κ ys x = κ e := (K.eq _ _).mp hc
    have hxm : x ∈ lefts κ xs ys (i + 1) := h2 ▸ List.mem_of_getElem? hx
    obtain ⟨hxl, hxL⟩ := List.mem_filter.mp hxm
    rw [List.mem_range] at hxl
    have hxL : Left κ xs ys (i + 1) x := by simpa using hxL
    unfold Left at hxL
    rw [kx] at hxL
    -- x is the first one
    have first : cntTo κ ys (κ e) (x + 1) = cntFrom κ xs (κ e) (i + 1) + 1 := by
      (obtain q92 := cnt_at hxL
       with_reducible refine x1_3 q92 fun y y1 y2 y3 => ?_
       clear q92)
      by_cases q : y = x
      · subst q; exact y3
      · exfalso
        have hyl : y < x := by omega
        have hym : y ∈ ids := by
          rw [h2]; refine List.mem_filter.mpr ⟨List.mem_range.mpr (by omega), ?_⟩
          rw [decide_eq_true_eq]; unfold Left; rw [y2]; omega
        obtain ⟨j', hj'⟩ := List.getElem?_of_mem hym
        have hlt : j' < j := by
          rcases Nat.lt_trichotomy j' j with q1 | q1 | q1
          · exact q1
          · exfalso; subst q1; rw [hx] at hj'; cases hj'; exact Nat.lt_irrefl _ hyl
          · exfalso
            have hs : (lefts κ xs ys (i + 1)).Pairwise (· < ·) := List.pairwise_lt_range.filter _
            rw [← h2] at hs
            obtain ⟨b1, b2⟩ := List.getElem?_eq_some_iff.mp hx
            obtain ⟨b3, b4⟩ := List.getElem?_eq_some_iff.mp hj'
            have := List.pairwise_iff_getElem.mp hs j j' b1 b3 q1
            rw [b2, b4] at this
            omega
        exact hno j' y hlt hj' ((K.eq _ _).mpr y2)
    refine ⟨by omega, ?_, ?_⟩
    · unfold lacks
      rw [range_step hil, List.reverse_cons, List.filter_append]
      have hn : ¬ Lack κ xs ys i := by
        unfold Lack
        rw [ke, cntFrom_step hil, if_pos ke]
        have := cntTo_mono (κ := κ) (ys := ys) (v := κ e) (show x + 1 ≤ ys.length by omega)
        omega
      simp only [List.filter_cons, List.filter_nil, hn, decide_false, Bool.false_eq_true, if_false, List.append_nil]
      exact h1
    · have hnd : ids.Nodup := by rw [h2]; exact List.nodup_range.filter _
      rw [eraseIdx_nodup hnd hx, h2]
      unfold lefts
      rw [List.filter_filter]
      refine List.filter_congr fun y hy => ?_
      rw [← Bool.decide_and]
      refine decide_eq_decide.mpr ?_
      unfold Left
      rw [cntFrom_step (v := kR κ ys y) hil]
      by_cases hk : kR κ ys y = κ e
      · rw [hk, if_pos ke]
        constructor
        · rintro ⟨n1, n2⟩
          have : cntTo κ ys (κ e) (y + 1) ≠ cntFrom κ xs (κ e) (i + 1) + 1 := fun q => n1 (cnt_inj hk kx (by rw [q, first]))
          omega
        · intro n1
          exact ⟨fun q => by subst q; omega, by omega⟩
      · rw [if_neg (by rw [ke]; exact fun q => hk q.symm)]
        exact ⟨fun n => n.2, fun n => ⟨fun q => hk (by subst q; exact kx), n⟩⟩
  | @miss i ms ids e _ he hno ih =>
    (with_reducible refine x0_3 ih fun hi h1 h2 => ?_
     try clear ih)
    have hil : i < xs.length := (List.getElem?_eq_some_iff.mp he).1
    have ke : kR κ xs i = κ e := by unfold kR; rw [getD_of he]
    have few : cntTo κ ys (κ e) ys.length ≤ cntFrom κ xs (κ e) (i + 1) := by
      by_cases q : cntTo κ ys (κ e) ys.length ≤ cntFrom κ xs (κ e) (i + 1)
      · exact q
      · exfalso
        (obtain q93 := cnt_at (Nat.lt_of_not_le q)
         with_reducible refine x1_3 q93 fun y y1 y2 y3 => ?_
         clear q93)
        have hym : y ∈ ids := by
          rw [h2]; refine List.mem_filter.mpr ⟨List.mem_range.mpr y1, ?_⟩
          rw [decide_eq_true_eq]; unfold Left; rw [y2]; omega
        exact hno y hym ((K.eq _ _).mpr y2)
    refine ⟨by omega, ?_, ?_⟩
    · unfold lacks
      rw [range_step hil, List.reverse_cons, List.filter_append]
      have hn : Lack κ xs ys i := by
        unfold Lack
        rw [ke, cntFrom_step hil, if_pos ke]
        omega
      simp only [List.filter_cons, List.filter_nil, hn, decide_true, if_true]
      rw [h1]; rfl
    · rw [h2]
      unfold lefts
      refine List.filter_congr fun y hy => ?_
      refine decide_eq_decide.mpr ?_
      unfold Left
      rw [cntFrom_step (v := kR κ ys y) hil]
      by_cases hk : kR κ ys y = κ e
      · rw [hk, if_pos ke]
        have := cntTo_mono (κ := κ) (ys := ys) (v := κ e) (show y + 1 ≤ ys.length from List.mem_range.mp hy)
        omega
      · rw [if_neg (by rw [ke]; exact fun q => hk q.symm)]
        exact Iff.rfl
end Mine
end PartP3

section PartD1
open PySem PySem.W PyProof.Rows PySem.Calls
set_option Elab.async false
set_option maxRecDepth 100000
set_option maxHeartbeats 4000000
set_option linter.unusedVariables false
set_option rowWalk.seconds 0
namespace Mine
open TI (Frs SameUp)
section
variable {w : World} {A : Around} {hid : List Addr} {g h h' : Heap} {L : Addr} {m : Str → Option Value} {l : List Env} {frs news new : List (Addr × Obj)} {p : Program} {loose : List Str} {mean : ExcName → Option Value} {mg mb : Str → Option Value} {env : Env}
theorem in_viewB (F : Fr g L h m) (N : News g L h news) (S : Split news new frs) (Fs : Frs l frs) (hl : A.frames = some l) (hf : env.frame = some L) (hg : ∀ b ∈ hid, g.get? b = none) : g.StaysIn (view (A.deeper env) hid h) := by
  intro b o e
  refine view_of ?_ (F.keep b o e)
  intro q
  rcases List.mem_append.mp q with q | q
  · rw [hg b q] at e; cases e
  · have := in_view F N S Fs hl hf b o e
    exact (view_get this).1 (List.mem_append_right _ q)
theorem here_ofB (hl : A.frames = some l) (Fs : Frs l frs) (F : Fr g L h m) (N : News g L h news) (S : Split news new frs) (X : (Mine.hd.heap_1 w.params).In g) (T : Top p loose mean mg mb g) (hg : ∀ b ∈ hid, g.get? b = none) (hf : env.frame = some L := by rfl) (hk : env.scope.kind = .function := by rfl) :
    Here w (A.deeper env) hid h :=
  ⟨(here_of hl Fs F N S X T hf hk).fr, ⟨p, loose, mean, mg, mb, T.keeps (in_viewB F N S Fs hl hf hg)⟩, X.keeps (in_viewB F N S Fs hl hf hg)⟩
theorem backB (hl : A.frames = some l) (Fs : Frs l frs) (F : Fr g L h m) (N : News g L h (new ++ frs)) (hf : env.frame = some L) (hd : ∀ p ∈ new, p.1 ∉ hid ++ frs.map (·.1)) (hg : ∀ b ∈ hid, g.get? b = none ∧ b ≠ L) (e : Ext (A.deeper env) hid h h') :
    ∃ frs', SameUp frs frs' ∧ Frs l frs' ∧ Fr g L h' m ∧ News g L h' (new ++ frs') := by
  have ha : fsA A = frs.map (·.1) := by unfold fsA; rw [hl]; exact Fs.addrs
  have hfs := fsA_deeper (env := env) hl hf
  (obtain q81 := TI.sameUp_of (h' := h') fun p hp => e.frs p.1 (by rw [hfs, ha]; exact List.mem_cons_of_mem _ (List.mem_map_of_mem hp)) p.2 (N p (List.mem_append_right _ hp)).1
   with_reducible refine x1_2 q81 fun frs' SU hf' => ?_
   clear q81)
  (obtain q91 := id F.ns
   refine x3_3 q91 fun oL es ep ho hdL r => ?_
   clear q91)
  obtain ⟨sl, ho'⟩ := e.frs L (by rw [hfs]; exact List.mem_cons_self) oL ho
  have hv := in_viewB (hid := hid) F N Split.app Fs hl hf (fun b hb => (hg b hb).1)
  refine (i1_4 frs' SU (Fs.up SU) ⟨(i3_3 _ es ep ho' hdL r), fun b o eb => of_hideAll _ (e.keep b o (hv b o eb)), F.above⟩ (fun p hp => ?_))
  rcases List.mem_append.mp hp with hp | hp
  · have hN := N p (List.mem_append_left _ hp)
    refine ⟨of_hideAll _ (e.keep _ _ (view_of ?_ hN.1)), hN.2⟩
    rw [hfs, ha]
    intro q
    rcases List.mem_append.mp q with q | q
    · exact hd p hp (List.mem_append_left _ q)
    · rcases List.mem_cons.mp q with q | q
      · exact hN.2.1 q
      · exact hd p hp (List.mem_append_right _ q)
  · (obtain q82 := SU.fwd p hp
     with_reducible refine x1_2 q82 fun x hx q => ?_
     clear q82)
    have hN := N x (List.mem_append_right _ hx)
    exact ⟨hf' p hp, by rw [q]; exact hN.2.1, by rw [q]; exact hN.2.2⟩
end
end Mine
end PartD1

section PartD3
open PySem PySem.W PyProof.Rows PySem.Calls
set_option Elab.async false
set_option maxRecDepth 100000
set_option maxHeartbeats 4000000
set_option linter.unusedVariables false
set_option rowWalk.seconds 0
namespace Mine
theorem start_D3 {M : Model} {A : Around} {env : Env} {E : Value → Shared → Prop} {s : Shared} {Q : Flow → Shared → Prop} (h : Q .next s) : wpAny M A (execs [] env) Q E s := by
  w_top off
  walk1
  exact h
open TI (Frs SameUp)
theorem c_rules {w : World} {A : Around} {s : Shared} {n : Int} {tn : Tok} (H : Here w A [] s.heap) (hd : A.depth + 50 < recursionLimit) (h0 : 0 ≤ n) (h96 : n < 96) :
    Quiet w A (call (.ref 58) [.int n tn]) s (fun r v => ∃ a, r = .ref a ∧ PairRow v a (rulesOf n)) := by
  intro Q E ret
  have X := H.frag
  have XS := X.keeps view_le
  revert XS X; k_fill; intro X XS
  refine wpAny_call ?_
  k_dflt (refine' enter_m (cl := []) (hid := []) (news := []) H ?hN (XS 58 _ (by k_is)) ?hd (codeRec_of XS ?hc) ?hr ?hb ?hl ?_ ?hcell ?hco ?hg ?hk; (case hN => exact fun _ h => nomatch h); (case hd => exact rfl); (case hc => k_is); (case hr => omega); (case hb => exact BindsTo.of_eq rfl); (case hl => exact locs rfl); (case hcell => decide); (case hco => exact rfl); (case hg => exact rfl); (case hk => exact rfl))
  clear XS X
  intro l frs p loose mean mg mb L' h' I' X' T' F' N'
  have hl := I'.hl
  have Fs := I'.fs
  have SU := SameUp.refl frs
  generalize hg : view A [] s.heap = g at *
  simp only [List.nil_append] at N'
  (try dsimp only); (try k_fold)
  generalize s.toks + List.length _ = tk0
  k_steps
  show Q _ _
  dsimp only
  rename Fr _ _ _ _ => F9
  rename News _ _ _ _ => N9
  have e0 := made_viewD hl Fs N9 (by kwd_rel) (List.Mem.head _) (fun _ _ q => by cases q)
  have e2 := made_viewD hl Fs N9 (by kwd_rel) (List.Mem.tail _ (List.Mem.tail _ (List.Mem.head _))) (fun _ _ q => by cases q)
  have e1 := made_viewD hl Fs N9 (by kwd_rel) (List.Mem.tail _ (List.Mem.tail _ (List.Mem.tail _ (List.Mem.head _)))) (fun _ _ q => by cases q)
  subst hg
  refine ret _ _ _ (ext_of I'.hl I'.fs I'.fr F9 N9 (by k_asm) (by kwd_rel) I'.above) ⟨_, rfl, ?_⟩
  clear ret F9 N9 X' T' H
  have hk : n.fmod 3 = 0 ∨ n.fmod 3 = 1 ∨ n.fmod 3 = 2 := by rw [Int.fmod_eq_emod_of_nonneg _ (by decide)]; omega
  unfold rulesOf
  rcases hk with hk | hk | hk
  · rw [hk] at e0 ⊢
    exact (i1_3 [] (i1_3 _ e0 rfl ⟨_, rfl⟩) rfl (fun i t r h1 h2 => by simp at h1))
  · rw [hk] at e0 ⊢
    refine (i1_3 [_] (i1_3 _ e0 rfl ⟨_, rfl⟩) rfl (fun i t r h1 h2 => ?_))
    match i, h1, h2 with
    | 0, h1, h2 => exact (Option.some.inj h1) ▸ (Option.some.inj h2) ▸ (i3_3 _ _ _ e1 rfl ⟨_, rfl⟩)
    | i + 1, h1, h2 => simp at h1
  · rw [hk] at e0 ⊢
    refine (i1_3 [_, _] (i1_3 _ e0 rfl ⟨_, rfl⟩) rfl (fun i t r h1 h2 => ?_))
    match i, h1, h2 with
    | 0, h1, h2 => exact (Option.some.inj h1) ▸ (Option.some.inj h2) ▸ (i3_3 _ _ _ e1 rfl ⟨_, rfl⟩)
    | 1, h1, h2 => exact (Option.some.inj h1) ▸ (Option.some.inj h2) ▸ (i3_3 _ _ _ e2 rfl ⟨_, rfl⟩)
    | i + 2, h1, h2 => simp at h1
end Mine
end PartD3

section PartN1
open PySem PySem.W PyProof.Rows PySem.Calls
set_option Elab.async false
set_option maxRecDepth 100000
set_option maxHeartbeats 4000000
set_option linter.unusedVariables false
set_option rowWalk.seconds 0
namespace Mine
end Mine
end PartN1

section PartF3
open PySem PySem.W PyProof.Rows PySem.Calls
set_option Elab.async false
set_option maxRecDepth 100000
set_option maxHeartbeats 4000000
set_option linter.unusedVariables false
set_option rowWalk.seconds 0
namespace Mine
theorem start_F3 {M : Model} {A : Around} {env : Env} {E : Value → Shared → Prop} {s : Shared} {Q : Flow → Shared → Prop} (h : Q .next s) : wpAny M A (execs [] env) Q E s := by
  w_top off
  walk1
  exact h
theorem for_walks {prog : Program} {w : World} {A : Around} {R : Result → Shared → Prop} {s : Shared} {env : Env} {x : Str} {px : Pos} {body : List Stmt} {I : Addr} {fp wr : List Addr} {n : Nat} {P : Nat → Value → Prop} {St : Nat → Heap → Prop}
    (W : Walks prog w A I fp wr n P St) (J : Nat → Heap → Prop) (hst : St 0 s.heap) (h0 : J 0 s.heap)
    (step : ∀ i v h h1 tk (E' : Value → Shared → Prop), i < n → P i v → J i h → St (i + 1) h1 → (∀ b o, b ∉ wr → h.get? b = some o → h1.get? b = some o) →
      wpAny (model prog w) A (assign (.Name x px) env v) (fun _ s2 => wpAny (model prog w) A (execs body env) (fun f s3 => f = .next ∧ ∃ h3 tk3, s3 = { s with heap := h3, toks := tk3 } ∧ J (i + 1) h3 ∧ ∀ b ∈ fp, ∀ o, h1.get? b = some o → h3.get? b = some o) E' s2) E' { s with heap := h1, toks := tk })
    (done : ∀ h h1 tk, J n h → (∀ b o, b ∉ wr → h.get? b = some o → h1.get? b = some o) → R (.ok .next) { s with heap := h1, toks := tk }) :
    codeAny (model prog w) A (.forLoop (.Name x px) (.ref I) body [] env) R s := by
  refine codeAny_forLoop (fun k s' => ∃ i h tk, s' = { s with heap := h, toks := tk } ∧ k = n - i ∧ i ≤ n ∧ J i h ∧ St i h) ?_ n (i3_5 0 s.heap s.toks rfl rfl (Nat.zero_le _) h0 hst)
  (rintro k s' h9q; (with_reducible refine x3_5 h9q fun i h tk r91 r92 hle hJ hs => ?_
                     try clear h9q
                     obtain rfl := r91
                     obtain rfl := r92))
  by_cases hlt : i < n
  · refine W.item i _ _ _ hlt hs fun v h1 tk1 hP hs1 hk1 => ?_
    refine wpAny_mono (step i v h h1 tk1 _ hlt hP hJ hs1 hk1) (fun _ s2 h2 => wpAny_mono h2 (fun f s3 h3 => ?_) fun _ _ e => e) fun _ _ e => e
    (with_reducible refine x0_2 h3 fun r93 q94 => ?_
     try clear h3
     obtain rfl := r93
     with_reducible refine x2_3 q94 fun h4 tk4 r95 hJ4 hk4 => ?_
     clear q94
     obtain rfl := r95)
    exact (i1_2 _ (by omega) (i3_5 (i + 1) h4 tk4 rfl rfl hlt hJ4 (W.frame _ _ _ hs1 hk4)))
  · obtain rfl : i = n := by omega
    exact W.done _ _ _ hs fun h1 tk1 hk1 => wpAny_execs_nil (done h h1 tk1 hJ hk1)
theorem for_range {prog : Program} {w : World} {A : Around} {R : Result → Shared → Prop} {s : Shared} {env : Env} {x : Str} {px : Pos} {body : List Stmt} {I : Addr} {n : Nat} (hh : A.handled = none)
    (J : Nat → Heap → Prop) (hst : s.heap.get? I = some { cls := .type "range_iterator", data := .fields #[rawInt 0, rawInt (Builtin.Range.rangeSize 0 n 1), rawInt 1] }) (h0 : J 0 s.heap)
    (step : ∀ i t oI h h1 tk (E' : Value → Shared → Prop), i < n → J i h → h1.get? I = some oI → (∀ b o, b ∉ [I] → h.get? b = some o → h1.get? b = some o) →
      wpAny (model prog w) A (assign (.Name x px) env (.int (i : Int) t)) (fun _ s2 => wpAny (model prog w) A (execs body env) (fun f s3 => f = .next ∧ ∃ h3 tk3, s3 = { s with heap := h3, toks := tk3 } ∧ J (i + 1) h3 ∧ h3.get? I = some oI) E' s2) E' { s with heap := h1, toks := tk })
    (done : ∀ h h1 tk, J n h → (∀ b o, b ∉ [I] → h.get? b = some o → h1.get? b = some o) → R (.ok .next) { s with heap := h1, toks := tk }) :
    codeAny (model prog w) A (.forLoop (.Name x px) (.ref I) body [] env) R s := by
  refine for_walks (LCg.range_walks (I := I) hh 0 n) J ?_ h0 (fun i v h h1 tk E' hi hP hJ hs hk => ?_) done
  · show _ = some _
    rw [hst, rangeSize_nat]
    simp
  · obtain ⟨t, rfl⟩ := hP
    rw [Int.zero_add]
    refine wpAny_mono (step i t _ h h1 tk E' hi hJ hs hk) (fun _ s2 h2 => wpAny_mono h2 (fun f s3 h3 => ?_) fun _ _ e => e) fun _ _ e => e
    (with_reducible refine x0_2 h3 fun r96 q97 => ?_
     try clear h3
     obtain rfl := r96
     with_reducible refine x2_3 q97 fun h4 tk4 r98 hJ4 hI4 => ?_
     clear q97
     obtain rfl := r98)
    refine ⟨rfl, (i2_3 h4 tk4 rfl hJ4 (fun b hb o e => ?_))⟩
    rw [List.mem_singleton.mp hb] at e ⊢
    rw [show h1.get? I = some _ from hs] at e
    rw [hI4, e]
theorem small_nat {n : Nat} (h : n ≤ 1000) : Builtin.Range.small 0 n 1 = true := by
  unfold Builtin.Range.small
  have e := rangeSize_nat 0 n
  rw [e]
  simp [Builtin.Range.rangeFitsLong]
  omega
theorem iter_range {prog : Program} {w : World} {A : Around} {E : Value → Shared → Prop} {s : Shared} {g : Heap} {L r : Addr} {m : Str → Option Value} {news : List (Addr × Obj)} {n : Nat} {t u v : Tok} {Q : Value → Shared → Prop}
    (F : Fr g L s.heap m) (N : News g L s.heap news) (hr : IsRange s.heap r 0 n 1 t u v) (hn : n ≤ 1000)
    (h : ∀ I h', h'.get? I = some { cls := .type "range_iterator", data := .fields #[rawInt 0, rawInt (Builtin.Range.rangeSize 0 n 1), rawInt 1] } → Fr g L h' m → News g L h' news → g.get? I = none → L ≠ I → L < I → (∀ p ∈ news, p.1 < I) → (∀ p ∈ news, p.1 ≠ I) → Q (.ref I) { s with heap := h' }) :
    wpAny (model prog w) A (pyIter (.ref r)) Q E s :=
  wpAny_pyIter_range hr (small_nat hn) (h _ _ (Heap.get?_push_size _ rfl) (F.push _) (N.grown fun b o e => Heap.get?_push_of_some _ e) (next_is_new F) (Nat.ne_of_lt F.ns.lt) F.ns.lt (fun p hp => Heap.lt_size (N p hp).1) (fun p hp => Nat.ne_of_lt (Heap.lt_size (N p hp).1)))
end Mine
end PartF3

section PartF4
open PySem PySem.W PyProof.Rows PySem.Calls
set_option Elab.async false
set_option maxRecDepth 100000
set_option maxHeartbeats 4000000
set_option linter.unusedVariables false
set_option rowWalk.seconds 0
namespace Mine
open LCg LCt
theorem CompEnd.mono {h₀ : Heap} {L : Addr} {m : Str → Option Value} {s₁ s₂ : Shared} {I C D : Addr} {oI oC oD : Obj} {S : List (Addr × Obj) → Prop} {rest rest' : Value → List (Addr × Obj) → Prop} {y : Value}
    (x : CompEnd h₀ L m s₁ I oI C oC D oD S rest y s₂) (h : ∀ news', rest y news' → rest' y news') : CompEnd h₀ L m s₁ I oI C oC D oD S rest' y s₂ := by
  (refine x3_1 x fun h' tk news' q9z => x0_6 q9z fun e F N o hS r => ?_
   clear q9z
   try clear x)
  exact (i3_6 h' tk news' e F N o hS (h _ r))
section
variable {prog : Program} {w : World} {A : Around} {s : Shared} {h₀ : Heap} {L : Addr} {m : Str → Option Value} {env : Env} {ct elt : Expr} {x : Str} {scope : Scope} {cl : List (Str × Addr)} {S : List (Addr × Obj) → Prop} {P : Nat → Value → Prop} {Fin : List Value → List (Addr × Obj) → Prop}
theorem compT_ind {n : Nat} {news : List (Addr × Obj)} (Inv : Nat → List Value → List (Addr × Obj) → Prop) (h0 : Inv 0 [] news) (fin : ∀ ys news', Inv n ys news' → Fin ys news')
    (step : ∀ (i : Nat) (ys : List Value) (news : List (Addr × Obj)), i < n → Inv i ys news → ∀ v I oI C oC D m₂ h tk (E' : Value → Shared → Prop), P i v → NsObj oC m₂ → m₂ x = some v → Fr h₀ L h m → News h₀ L h ((I, oI) :: (C, oC) :: (D, lst ys) :: news) → Off3 I C D news → ((@Ne Nat I C) ∧ (@Ne Nat I D) ∧ (@Ne Nat C D)) →
      wpAny (model prog w) A (isTrue ct (compEnvC scope cl C env) (eval ct (compEnvC scope cl C env))) (fun ok s' => if ok = true then
        wpAny (model prog w) A (eval elt (compEnvC scope cl C env)) (CompEnd h₀ L m { s with heap := h, toks := tk } I oI C oC D (lst ys) S (fun y news' => Inv (i + 1) (ys ++ [y]) news')) E' s'
        else CompEnd h₀ L m { s with heap := h, toks := tk } I oI C oC D (lst ys) S (fun _ news' => Inv (i + 1) ys news') Value.none s') E' { s with heap := h, toks := tk }) :
    CompRestT prog w A h₀ L m env ct elt x scope cl s S P Fin n 0 [] news := by
  have key : ∀ (k i : Nat) (ys : List Value) (news : List (Addr × Obj)), k + i = n → Inv i ys news → CompRestT prog w A h₀ L m env ct elt x scope cl s S P Fin k i ys news := by
    intro k
    induction k with
    | zero =>
      intro i ys news hk hI
      obtain rfl : i = n := by omega
      exact CompRestT.zero (fin ys news hI)
    | succ k ih =>
      intro i ys news hk hI
      refine CompRestT.succ fun v I oI C oC D m₂ h tk E' hP hC hx F N off ne => ?_
      refine wpAny_mono (step i ys news (by omega) hI v I oI C oC D m₂ h tk E' hP hC hx F N off ne) (fun ok s' h1 => ?_) fun _ _ e => e
      cases ok with
      | true =>
        simp only [if_true] at h1 ⊢
        exact wpAny_mono h1 (fun y s'' h2 => CompEnd.mono h2 fun news' h3 => ih (i + 1) _ _ (by omega) h3) fun _ _ e => e
      | false =>
        simp only [Bool.false_eq_true, if_false] at h1 ⊢
        exact CompEnd.mono h1 fun news' h3 => ih (i + 1) _ _ (by omega) h3
  exact key n 0 [] news rfl h0
theorem comp_ind {n : Nat} {news : List (Addr × Obj)} (Inv : Nat → List Value → List (Addr × Obj) → Prop) (h0 : Inv 0 [] news) (fin : ∀ ys news', Inv n ys news' → Fin ys news')
    (step : ∀ (i : Nat) (ys : List Value) (news : List (Addr × Obj)), i < n → Inv i ys news → ∀ v I oI C oC D m₂ h tk (E' : Value → Shared → Prop), P i v → NsObj oC m₂ → m₂ x = some v → Fr h₀ L h m → News h₀ L h ((I, oI) :: (C, oC) :: (D, lst ys) :: news) → Off3 I C D news → ((@Ne Nat I C) ∧ (@Ne Nat I D) ∧ (@Ne Nat C D)) →
      wpAny (model prog w) A (eval elt (compEnvC scope cl C env)) (CompEnd h₀ L m { s with heap := h, toks := tk } I oI C oC D (lst ys) S (fun y news' => Inv (i + 1) (ys ++ [y]) news')) E' { s with heap := h, toks := tk }) :
    CompRest prog w A h₀ L m env elt x scope cl s S P Fin n 0 [] news := by
  have key : ∀ (k i : Nat) (ys : List Value) (news : List (Addr × Obj)), k + i = n → Inv i ys news → CompRest prog w A h₀ L m env elt x scope cl s S P Fin k i ys news := by
    intro k
    induction k with
    | zero =>
      intro i ys news hk hI
      obtain rfl : i = n := by omega
      exact CompRest.zero (fin ys news hI)
    | succ k ih =>
      intro i ys news hk hI
      refine CompRest.succ fun v I oI C oC D m₂ h tk E' hP hC hx F N off ne => ?_
      exact wpAny_mono (step i ys news (by omega) hI v I oI C oC D m₂ h tk E' hP hC hx F N off ne) (fun y s'' h2 => CompEnd.mono h2 fun news' h3 => ih (i + 1) _ _ (by omega) h3) fun _ _ e => e
  exact key n 0 [] news rfl h0
theorem CompEnd.same {h : Heap} {tk tk' : Nat} {I C D : Addr} {oI oC oD : Obj} {news : List (Addr × Obj)} {rest : Value → List (Addr × Obj) → Prop} {y : Value} (F : Fr h₀ L h m) (N : News h₀ L h ((I, oI) :: (C, oC) :: (D, oD) :: news)) (off : Off3 I C D news) (hS : S news) (r : rest y news) :
    CompEnd h₀ L m { s with heap := h, toks := tk } I oI C oC D oD S rest y { s with heap := h, toks := tk' } := (i3_6 h tk' news rfl F N off hS r)
end
theorem append_L {prog : Program} {w : World} {A : Around} {E : Value → Shared → Prop} {s : Shared} {g : Heap} {L P : Addr} {m : Str → Option Value} {news : List (Addr × Obj)} {items : Array Value} {c : Nat} {v : Value} {Q : Value → Shared → Prop}
    (F : Fr g L s.heap m) (N : News g L s.heap news) (hP : s.heap.get? P = some (W.listOf items c) ∧ P ≠ L ∧ g.get? P = none) (off : ∀ p ∈ news, p.1 ≠ P) (hsz : items.size ≤ sizeLine)
    (h : ∀ h' c', Fr g L h' m → News g L h' ((P, W.listOf (items.push v) c') :: news) → Q .none { s with heap := h' }) :
    wpAny (model prog w) A (call (.builtin "list.append") [.ref P, v]) Q E s := by
  refine wpAny_list_append_plain (hsz := hsz) ⟨c, hP.1⟩ fun h' hl hs => ?_
  obtain ⟨c', e⟩ := hl
  refine h h' c' (kas_fr F hs hP.2.1 hP.2.2) fun p hp => ?_
  refine mc1 hp ?_ fun hp => ?_
  · exact ⟨e, hP.2⟩
  · exact kas_news N hs off p hp
theorem view_news {A : Around} {g h : Heap} {L : Addr} {l : List Env} {frs news new : List (Addr × Obj)} (hl : A.frames = some l) (Fs : TI.Frs l frs) (N : News g L h news) (S : Split news new frs) : ∀ a o, (a, o) ∈ news → (∀ es n, o.data ≠ .dict es n) → (view A [] h).get? a = some o := fun a o ha hn => by
  refine view_of ?_ (N.get ha)
  rw [List.nil_append, show fsA A = frs.map (·.1) by unfold fsA; rw [hl]; exact Fs.addrs]
  exact apart_data Fs N S ha hn
theorem Split.append {frs : List (Addr × Obj)} : ∀ {new : List (Addr × Obj)}, Split (new ++ frs) new frs
  | [] => .nil
  | _ :: _ => .cons Split.append
theorem settle {A : Around} {l : List Env} {frs ex : List (Addr × Obj)} {g h : Heap} {L : Addr} {m : Str → Option Value} (hl : A.frames = some l) (Fs : TI.Frs l frs) (F : Fr g L h m) (N : News g L h (ex ++ frs)) :
    ∃ things, News g L h (things ++ frs) ∧ (∀ p ∈ things, p.1 ∉ frs.map (·.1)) ∧ (∀ p ∈ ex, p.1 ∉ frs.map (·.1) → p ∈ things) ∧
      ∀ v, g.StaysIn v → (∀ p ∈ things, v.get? p.1 = some p.2) → ∀ env : Env, env.frame = some L → (view (A.deeper env) [] h).StaysIn v := by
  have ha : fsA A = frs.map (·.1) := by unfold fsA; rw [hl]; exact Fs.addrs
  refine (i1_4 ((List.range h.objs.size).filterMap fun a => if g.get? a = none ∧ a ≠ L ∧ a ∉ frs.map (·.1) then (h.get? a).map (Prod.mk a) else none) ?_ ?_ ?_ ?_)
  · intro p hp
    rcases List.mem_append.mp hp with hp | hp
    · (obtain q81 := List.mem_filterMap.mp hp
       with_reducible refine x1_2 q81 fun a _ e => ?_
       clear q81)
      split at e
      · rename_i q
        (obtain q82 := Option.map_eq_some_iff.mp e
         with_reducible refine x1_2 q82 fun o ho r83 => ?_
         clear q82
         obtain rfl := r83)
        exact ⟨ho, q.2.1, q.1⟩
      · cases e
    · exact N p (List.mem_append_right _ hp)
  · intro p hp
    (obtain q84 := List.mem_filterMap.mp hp
     with_reducible refine x1_2 q84 fun a _ e => ?_
     clear q84)
    split at e
    · rename_i q
      (obtain q85 := Option.map_eq_some_iff.mp e
       with_reducible refine x1_2 q85 fun o ho r86 => ?_
       clear q85
       obtain rfl := r86)
      exact q.2.2
    · cases e
  · intro p hp hn
    have z := N p (List.mem_append_left _ hp)
    refine List.mem_filterMap.mpr ⟨p.1, List.mem_range.mpr (Heap.lt_size z.1), ?_⟩
    rw [if_pos ⟨z.2.2, z.2.1, hn⟩, z.1]
    rfl
  · intro v hg hv env hf b o e
    obtain ⟨n, e⟩ := view_get e
    rw [List.nil_append, fsA_deeper hl hf, ha] at n
    by_cases hb : g.get? b = none
    · refine hv (b, o) (List.mem_filterMap.mpr ⟨b, List.mem_range.mpr (Heap.lt_size e), ?_⟩)
      rw [if_pos ⟨hb, fun q => n (q ▸ List.Mem.head _), fun q => n (List.Mem.tail _ q)⟩, e]
      rfl
    · obtain ⟨o', ho'⟩ := Option.ne_none_iff_exists'.mp hb
      have := F.keep _ _ ho'
      rw [e] at this
      cases this
      exact hg _ _ ho'
end Mine
end PartF4

section MacC
open PySem PySem.W PyProof.Rows PySem.Calls in
local macro_rules | `(tactic| kd_p) => `(tactic| first | assumption | exact Mine.look_eq | (refine Mine.look_ne (by decide) ?_; kd_p))
open PySem PySem.W PyProof.Rows PySem.Calls in
local macro_rules | `(tactic| walk_at "eval Name") => `(tactic| (k_here; (with_reducible show wpAny _ _ (eval (Expr.Name _ _) (envX _ _ _ _ _ _)) _ _ _); k_dflt (refine' nameX_L ?F ?v ?_ ?a ?b ?c; (case a => rfl); (case b => rfl); (case c => decide); (case F => k_asm); (case v => kd_p); k_whole)))
open PySem PySem.W PyProof.Rows PySem.Calls in
local macro_rules | `(tactic| walk_at "eval Name") => `(tactic| (k_here; (with_reducible show wpAny _ _ (eval (Expr.Name _ _) (envOfC _ _ _ _ _)) _ _ _); k_dflt (refine' nameX_L ?F ?v ?_ ?a ?b ?c; (case a => rfl); (case b => rfl); (case c => decide); (case F => k_asm); (case v => kd_p); k_whole)))
open PySem PySem.W PyProof.Rows PySem.Calls in
local macro_rules | `(tactic| walk_at "unpackItems ref") => `(tactic| (k_here; k_dflt (refine' unpackItemsN_ ?k1 ?k2 ?k3 ?k4 ?k5 ?_; (case k1 => k_asm); (case k2 => k_asm); (case k3 => kun_tup); (case k4 => k_asm); (case k5 => exact rfl); k_whole); intro h' F' N'; (try k_sweep)))
section PartD2
open PySem PySem.W PyProof.Rows PySem.Calls
set_option Elab.async false
set_option maxRecDepth 100000
set_option maxHeartbeats 4000000
set_option linter.unusedVariables false
set_option rowWalk.seconds 0
namespace Mine
theorem start_D2 {M : Model} {A : Around} {env : Env} {E : Value → Shared → Prop} {s : Shared} {Q : Flow → Shared → Prop} (h : Q .next s) : wpAny M A (execs [] env) Q E s := by
  w_top off
  walk1
  exact h
open TI (Frs SameUp)
noncomputable abbrev litO (l : Addr) (i : Int) : Obj := { cls := .type "list_iterator", dict := none, data := .fields #[.ref l, .int i 0], slots := #[] }
theorem iter1 {prog : Program} {w : World} {A : Around} {E : Value → Shared → Prop} {s : Shared} {l : Addr} {items : Array Value} {Q : Value → Shared → Prop} (hl : s.heap.IsList l items)
    (h : Q (.ref s.heap.objs.size) { s with heap := s.heap.push (litO l 0) }) : wpAny (model prog w) A (call (.builtin "iter") [.ref l]) Q E s := by
  have en : entryFor table "iter" = some Builtin.«iter» := entryFor_of_tree (by kernel_rfl)
  refine call_function_entry (by decide +kernel) (by decide +kernel) en (by unfold argsOk; kernel_rfl) ?_
  unfold Builtin.«iter»
  refine wpAny_bind (m := someArgs "iter" 1 2 _) (wpAny_of_eq (a := [Value.ref l]) (by first | rfl | kernel_rfl) ?_)
  dsimp only
  exact wpAny_bind (wpAny_pyIter_list hl (wpAny_pure ⟨_, rfl, h⟩))
theorem iter1_F {prog : Program} {w : World} {A : Around} {E : Value → Shared → Prop} {s : Shared} {g : Heap} {L : Addr} {m : Str → Option Value} {news : List (Addr × Obj)} {l : Addr} {items : Array Value} {Q : Value → Shared → Prop} (F : Fr g L s.heap m) (N : News g L s.heap news) (hl : g.IsList l items)
    (h : ∀ I h', Fr g L h' m → News g L h' ((I, litO l 0) :: news) → (∀ p ∈ news, p.1 < I) → L < I → Q (.ref I) { s with heap := h' }) : wpAny (model prog w) A (call (.builtin "iter") [.ref l]) Q E s := by
  refine iter1 (let ⟨o, ho, r⟩ := hl; ⟨o, F.keep _ _ ho, r⟩) (h _ _ (F.push _) (fun p hp => ?_) (fun p hp => Heap.lt_size (N p hp).1) F.ns.lt)
  refine mc1 hp ?_ fun hp => ?_
  · exact ⟨Heap.get?_push_size _ rfl, Nat.ne_of_gt F.ns.lt, next_is_new F⟩
  · exact ⟨Heap.get?_push_of_some _ (N p hp).1, (N p hp).2⟩
set_option hygiene false in
local macro_rules | `(tactic| walk_at "call builtin:iter") => `(tactic| (k_here; (with_reducible show wpAny _ _ (call (Value.builtin "iter") [Value.ref _]) _ _ _); refine iter1_F (by k_asm) (by k_asm) (by assumption) ?_; intro I8 h8 F8 N8 lt8 lt7))
local macro_rules | `(tactic| walk_at "exec For") => `(tactic| ((with_reducible show wpAny _ _ (exec (Stmt.For _ _ _ _ _) _) _ _ _); isplit))
theorem for_lit {prog : Program} {w : World} {A : Around} {E : Value → Shared → Prop} {s : Shared} {env : Env} {x : Str} {px pos : Pos} {iter : Expr} {body : List Stmt} {Q : Flow → Shared → Prop} {I l : Addr} {vs : Array Value} (J : Around → Nat → Heap → Prop)
    (hh : A.handled = none) (hs : ∀ x, foldedSetIterable iter env x = pure x := by intro _; rfl)
    (hi : wpAny (model prog w) A (eval iter env) (fun v s' => v = .ref I ∧ s' = s) E s) (h0 : J A 0 s.heap) (hI : s.heap.IsListIter I l 0) (hl : s.heap.IsList l vs)
    (step : ∀ (i : Nat) (v : Value) (h h1 : Heap) (tk : Nat) (E' : Value → Shared → Prop), vs[i]? = some v → J A i h → Heap.SameBut I h h1 → h1.IsListIter I l (i + 1) →
      wpAny (model prog w) A (assign (.Name x px) env v) (fun _ s2 => wpAny (model prog w) A (execs body env) (fun f s3 => f = .next ∧ ∃ h3 tk3, s3 = { s with heap := h3, toks := tk3 } ∧ J A (i + 1) h3 ∧ h3.IsListIter I l (i + 1) ∧ h3.IsList l vs) E' s2) E' { s with heap := h1, toks := tk })
    (hlI : l ≠ I) (done : ∀ h h1 tk, J A vs.size h → Heap.ExtBut I h h1 → Q .next { s with heap := h1, toks := tk }) :
    wpAny (model prog w) A (exec (.For (.Name x px) iter body [] pos) env) Q E s := by
  refine wpAny_For (wpAny_mono hi (fun v s' hv => ?_) fun _ _ e => e) hs
  rw [hv.1, hv.2]
  refine wpAny_pyIter_listiter hI ?_
  refine codeAny_forLoop (fun k s' => ∃ i h tk, s' = { s with heap := h, toks := tk } ∧ k = vs.size - i ∧ i ≤ vs.size ∧ J A i h ∧ h.IsListIter I l i ∧ h.IsList l vs) ?_ vs.size (i3_6 0 s.heap s.toks rfl rfl (Nat.zero_le _) h0 hI hl)
  (rintro k s' h9q; (with_reducible refine x3_1 h9q fun i h tk q9z => x0_6 q9z fun r91 r92 hle hJ hit hli => ?_
                     clear q9z
                     try clear h9q
                     obtain rfl := r91
                     obtain rfl := r92))
  by_cases hlt : i < vs.size
  · have hv : vs[i]? = some vs[i] := by simp [hlt]
    refine wpAny_pyNext_list_item hit hli hv fun h1 hit1 hs1 => ?_
    refine wpAny_mono (step i _ h h1 tk _ hv hJ hs1 hit1) (fun _ s2 h2 => wpAny_mono h2 (fun f s3 h3 => ?_) fun _ _ e => e) fun _ _ e => e
    (with_reducible refine x0_2 h3 fun r93 q94 => ?_
     try clear h3
     obtain rfl := r93
     with_reducible refine x2_4 q94 fun h4 tk4 r95 hJ4 hit4 hl4 => ?_
     clear q94
     obtain rfl := r95)
    exact (i1_2 _ (by omega) (i3_6 (i + 1) h4 tk4 rfl rfl hlt hJ4 hit4 hl4))
  · have hie : i = vs.size := by omega
    subst hie
    refine wpAny_pyNext_list_end hh hit hli (by simp) fun h1 hx1 => ?_
    exact wpAny_execs_nil (done h h1 tk hJ hx1)
local macro_rules | `(tactic| walk_at "call ref") => `(tactic| ((with_reducible show wpAny _ _ (call (Value.ref 72) [_, _]) _ _ _); isplit))
theorem view_sub {A A' : Around} {hid hid' : List Addr} {h h' : Heap} (hs : ∀ b, b ∈ hid' ++ fsA A' → b ∈ hid ++ fsA A) (k : ∀ b o, b ∉ hid ++ fsA A → h.get? b = some o → h'.get? b = some o) : (view A hid h).StaysIn (view A' hid' h') := fun b o e => by
  obtain ⟨n, e⟩ := view_get e
  exact view_of (fun q => n (hs b q)) (k b o n e)
noncomputable def chain (cs : List (Rec → Rec → Int)) : Rec → Rec → Int := cs.foldl thenC (fun _ _ => 0)
end Mine
end PartD2

section PartJ1
open PySem PySem.W PyProof.Rows PySem.Calls
set_option Elab.async false
set_option maxRecDepth 100000
set_option maxHeartbeats 4000000
set_option linter.unusedVariables false
set_option rowWalk.seconds 0
namespace Mine
theorem start_J1 {M : Model} {A : Around} {env : Env} {E : Value → Shared → Prop} {s : Shared} {Q : Flow → Shared → Prop} (h : Q .next s) : wpAny M A (execs [] env) Q E s := by
  w_top off
  walk1
  exact h
open TI (Frs SameUp)
local macro_rules | `(tactic| walk_at "eval Name") => `(tactic| (k_here; (with_reducible show wpAny _ _ (eval (Expr.Name _ _) (envX _ _ _ _ _ _)) _ _ _); k_dflt (refine' nameX_H ?F ?c ?v ?d ?_ ?a ?b; (case a => rfl); (case b => rfl); (case F => k_asm); (case c => rfl); (case v => assumption); (case d => assumption); k_whole)))
theorem view_less {A A' : Around} {hid hid' : List Addr} {h : Heap} (hs : ∀ b, b ∈ hid ++ fsA A → b ∈ hid' ++ fsA A') : (view A' hid' h).StaysIn (view A hid h) := fun b o e => by
  obtain ⟨n, e⟩ := view_get e
  exact view_of (fun q => n (hs b q)) e
theorem view_out {A : Around} {env : Env} {l : List Env} {L : Addr} {h : Heap} (hl : A.frames = some l) (hf : env.frame = some L) : (view (A.deeper env) [] h).StaysIn (view A [] h) := view_less fun b hb => by
  rw [fsA_deeper hl hf]
  exact List.Mem.tail _ hb
noncomputable def lamX : Arguments × Expr × Scope × Pos := match theDef "_law_sorted" with
  | .FunctionDef _ _ (_ :: .Assign _ (.ListComp (.Call _ _ (kw :: _) _) _ _ _) _ :: _) .. => (match kw.value with | .Lambda p b sc pos => (p, b, sc, pos) | _ => default)
  | _ => default
local macro_rules | `(tactic| walk_at "call ref") => `(tactic| ((with_reducible show wpAny _ _ (call (Value.ref 91) [_, _]) _ _ _); isplit))
theorem c_lam {w : World} {A : Around} {s : Shared} {f c' cR rules r : Addr} {qual : Str} {pm ct : Value} {oR : Obj} {a : Rec} {ru : List (Int × Int)} (H : Here w A [] s.heap) (hh : A.handled = none) (hd : A.depth + 40 < recursionLimit)
    (ho : s.heap.get? f = some (kla_obj "<lambda>" qual lamX.1 lamX.2.1 lamX.2.2.1 [("rules", cR)] pm c' ct)) (hcd : s.heap.CodeRec (.ref c') qual) (hR : (view A [] s.heap).get? cR = some oR) (hRd : oR.data = .cell (some (.ref rules)))
    (Ra : RecAt (view A [] s.heap) r a) (P : PairRow (view A [] s.heap) rules ru) (hr2 : ru.length ≤ 2) (hru : ∀ r ∈ ru, r.1 = 0 ∨ r.1 = 1) :
    Quiet w A (call (.ref f) [.ref r]) s (fun y v => ∃ x b, y = .ref x ∧ v.IsList x #[.ref b] ∧ IntRow v b (rankOf ru a) ∧ s.heap.objs.size ≤ x ∧ s.heap.objs.size ≤ b) := by
  intro Q E ret
  have X := H.frag
  revert X; k_fill; intro X
  conv at ho =>
    pattern lamX.1
    whnf
  conv at ho =>
    pattern lamX.2.1
    whnf
  conv at ho =>
    pattern lamX.2.2.1
    whnf
  refine wpAny_call ?_
  k_dflt (refine' enter_l H ho ?hcd ?hr ?hb ?hl ?_ ?hcell ?hco ?hg ?hk; (case hcd => exact hcd); (case hr => omega); (case hb => exact rfl); (case hl => exact locs rfl); (case hcell => decide); (case hco => exact rfl); (case hg => exact rfl); (case hk => exact rfl))
  intro l frs p loose mean mg mb L' h' I' X' T' F' N'
  have hl := I'.hl
  have Fs := I'.fs
  clear X
  generalize hg : view A [] s.heap = g at *
  (try dsimp only); (try k_fold)
  k_steps
  rename Fr _ _ _ _ => F9
  rename News _ _ _ _ => N9
  have hv : ∀ env : Env, env.frame = some L' → g.StaysIn (view (A.deeper env) [] _) := fun env hf => in_view F9 N9 (Split.cons Split.nil) Fs hl hf
  have e1 : ∀ env : Env, env.frame = some L' → _ := fun env hf => new_in_view (env := env) F9 N9 (Split.cons Split.nil) Fs hl hf (List.Mem.head _) (fun _ _ q => by cases q)
  refine c_ranks (rs := [r]) (as := [a]) (here_of hl Fs F9 N9 (Split.cons Split.nil) X' T') hh (by show A.depth + 1 + 30 < _; omega) ⟨(i1_3 _ (e1 _ rfl) rfl ⟨_, rfl⟩), rfl, fun i r' a' q1 q2 => ?_⟩ (by simp) (P.ext (hv _ rfl)) hr2 hru _ _ ?_
  · match i, q1, q2 with
    | 0, q1, q2 => cases q1; cases q2; exact Ra.ext (hv _ rfl)
    | i + 1, q1, _ => simp at q1
  (rintro y h9 tk9 x9 h9q; (with_reducible refine x2_5 h9q fun a9 bs r91 RR f1 f2 c92 => ?_
                            try clear h9q
                            obtain rfl := r91
                            clear c92))
  obtain ⟨b9, rfl⟩ : ∃ b, bs = [b] := by
    have := RR.len
    match bs, this with
    | [b], _ => exact ⟨b, rfl⟩
  (obtain q93 := back hl Fs F9 N9 (Split.cons Split.nil) rfl (by kwd_inv) x9
   with_reducible refine x1_4 q93 fun frs' SU Fs' F10 N10 => ?_
   clear q93)
  have RR' := RR.ext (view_out (A := A) hl rfl)
  have old : s.heap.objs.size ≤ (_ : Heap).objs.size := Nat.le_trans I'.above (Nat.le_of_lt F9.ns.lt)
  exact ret _ _ _ (ext_ofg hg I'.hl I'.fs I'.fr F10 N10 SU (Split.cons Split.nil) I'.above) (i2_5 a9 b9 rfl RR'.list (RR'.at_ 0 b9 _ rfl rfl) (Nat.le_trans old f1) (Nat.le_trans old (f2 _ (List.Mem.head _))))
end Mine
end PartJ1

section PartJ2
open PySem PySem.W PyProof.Rows PySem.Calls
set_option Elab.async false
set_option maxRecDepth 100000
set_option maxHeartbeats 4000000
set_option linter.unusedVariables false
set_option rowWalk.seconds 0
namespace Mine
open TI (Frs SameUp)
noncomputable def ClsC (C : Addr) (h : Heap) : Prop := ∃ N bt t0 t14, h.get? C = some (oCls C N bt t0 t14)
theorem ClsC.ext {C : Addr} {h h' : Heap} (x : ClsC C h) (e : h.StaysIn h') : ClsC C h' := let ⟨N, bt, t0, t14, q⟩ := x; (i4_1 N bt t0 t14 (e _ _ q))
theorem keeps_C {prog : Program} {w : World} {C : Addr} (h : Heap) (X : ClsC C h) : ∃ k, (k = Keeper.frame ∨ k = Keeper.machine ∨ k = Keeper.boundFrame) ∧ Looks (model prog w) h (keeperOf (.ref C)) k := by
  (refine x4_1 X fun N bt t0 t14 e => ?_
   try clear X)
  refine ⟨.machine, .inr (.inl rfl), fun A Q E s k q => ?_⟩
  have ec := k _ _ e
  have l1 : typeLookup (.type "type") (Str.ofString "__call__") = pure (some (.builtin "type.__call__")) := by kernel_rfl
  unfold keeperOf
  refine wpAny_bind (wpAny_load ec ?_)
  dsimp only [oCls]
  refine wpAny_bind (wpAny_specialOf (T := "type") ⟨_, ec, rfl⟩ l1 ?_)
  exact wpAny_pure q
theorem callWith_C {prog : Program} {w : World} {A : Around} {E : Value → Shared → Prop} {s : Shared} {env : Env} {pos : Pos} {C : Addr} {Q : Value → Shared → Prop} {e : Expr} {rest : List Expr} (_X : ClsC C s.heap) (h : wpAny (model prog w) A (spliced (backTo pos (starEach (e :: rest) env))) (fun vs s₁ => ClsC C s₁.heap ∧ wpAny (model prog w) A (call (.ref C) ([] ++ vs)) Q E s₁) E s)
    (he : starEach (e :: rest) env = (false, eval e env) :: starEach rest env := by rfl) (hplain : (backTo pos (starEach rest env)).any (·.1) = false := by rfl) :
    wpAny (model prog w) A (callWith pos (.ref C) [] (backTo pos (starEach (e :: rest) env)) []) Q E s := by
  rw [he] at h ⊢
  exact callWith_of (by show ((false || (backTo pos (starEach rest env)).any (·.1)) || false) = false; rw [hplain]; rfl) keeps_C (evalArgs_plain h)
structure KeySrt (w : World) (v : Heap) (C : Addr) (c : Rec → Rec → Int) : Prop where
  make : ∀ (A : Around) (s : Shared) (r : Addr), v.StaysIn (view A [] s.heap) → Here w A [] s.heap → A.depth + 30 < recursionLimit → A.units + 600 < cLine → Quiet w A (call (.ref C) [.ref r]) s (fun y v' => ∃ k, y = .ref k ∧ KeyAt v' C k r ∧ s.heap.get? k = none)
  lts : ∀ (A : Around) (s : Shared) (k1 k2 : Addr) (a b : Rec), v.StaysIn (view A [] s.heap) → Here w A [] s.heap → A.depth + 30 < recursionLimit → A.units + 600 < cLine → KeyRec (view A [] s.heap) C k1 a → KeyRec (view A [] s.heap) C k2 b → Quiet w A (oneLt' true (.ref k1) (.ref k2)) s (fun y _ => y = decide (c a b < 0))
  cls : ClsC C v
theorem keySrt {w : World} {v : Heap} {C f N md bt cell sl fi fl fg fe fle fge st : Addr} {hs : Nat → Int} {ts : Nat → Tok} {hi hj : Int} {ti tj tm t0 : Tok} {n : Nat} {c : Rec → Rec → Int}
    (KF : KeyFacts v C f N md bt cell sl fi fl fg fe fle fge st hs ts hi hj ti tj tm t0) (K : CmpOk w v (.ref f) n c) (hn : n ≤ 25) : KeySrt w v C c where
  make A s r hv H hd hu := by
    intro Q E ret
    (obtain q91 := H.top
     with_reducible refine x5_1 q91 fun p loose mean mg mb T => ?_
     clear q91)
    refine c_make (KF.ext (StaysIn.trans hv view_le)) (T.nolimit.keeps view_le) (by omega) fun k h' tk' dd ek kk nk => ?_
    exact ret _ _ _ (ext_stays kk) (i1_3 k rfl ⟨dd, new_seen H nk ek⟩ nk)
  lts A s k1 k2 a b hv H hd hu := by
    (rintro h9q; (refine x1_2 h9q fun r1 q81 R1 => ?_
                  try clear h9q
                  obtain ⟨d1, e1⟩ := q81); rintro h9q; (refine x1_2 h9q fun r2 q82 R2 => ?_
                                                        try clear h9q
                                                        obtain ⟨d2, e2⟩ := q82))
    exact c_lts H hd hu hn (K.ext hv) (KF.ext hv) e1 e2 R1 R2
  cls := (i4_1 _ _ _ _ KF.c)
theorem KeySrt.ext {w : World} {v v' : Heap} {C : Addr} {c : Rec → Rec → Int} (x : KeySrt w v C c) (e : v.StaysIn v') : KeySrt w v' C c :=
  ⟨fun A s r hv => x.make A s r (StaysIn.trans e hv), fun A s k1 k2 a b hv => x.lts A s k1 k2 a b (StaysIn.trans e hv), let ⟨N, bt, t0, t14, h⟩ := x.cls; (i4_1 N bt t0 t14 (e _ _ h))⟩
theorem looks_cls {M : Model} {h : Heap} {a : Addr} {o : Obj} (e : h.get? a = some o) : Looks M h (typeOf (.ref a)) o.cls := (Looks.ld e).andThen .now
theorem view_two {A : Around} {h0 h : Heap} {x1 x2 : Addr} (X : Ext A [] h0 h) (z1 : h0.get? x1 = none) (z2 : h0.get? x2 = none) : (view A [] h0).StaysIn (view A [x1, x2] h) := fun b o e => by
  have e2 := X.keep b o e
  refine view_of (fun q => ?_) (view_get e2).2
  rcases List.mem_cons.mp q with rfl | q
  · rw [(view_get e).2] at z1; cases z1
  · rcases List.mem_cons.mp q with rfl | q
    · rw [(view_get e).2] at z2; cases z2
    · exact (view_get e2).1 (by simpa using q)
theorem view_drop {A : Around} {h : Heap} {xs : List Addr} : (view A xs h).StaysIn (view A [] h) := view_less fun b hb => List.mem_append_right _ (by simpa using hb)
section
variable {w : World} {A : Around} {s : Shared} {l C : Addr} {rs : List Addr} {as : List Rec} {c : Rec → Rec → Int} {κ : Nat → Int}
theorem sortBy_keys (H : Here w A [] s.heap) (KS : KeySrt w (view A [] s.heap) C c) (R : RecRow (view A [] s.heap) l rs as) (hd : A.depth + 30 < recursionLimit) (hu : A.units + 700 < cLine)
    (hc : ∀ (i j : Nat) a b, as[i]? = some a → as[j]? = some b → decide (c a b < 0) = less κ i j) :
    SortBy w A s.heap (.ref C) (rs.map Value.ref) (.ref C) (less κ) (fun i y v => ∃ k r a, y = .ref k ∧ KeyAt v C k r ∧ rs[i]? = some r ∧ as[i]? = some a ∧ RecAt v r a) where
  mono := by
    (rintro i y v v' h9q; (with_reducible refine x3_5 h9q fun k r a r92 hk hr ha hR => ?_
                           try clear h9q
                           obtain rfl := r92); rintro e)
    exact (i3_5 k r a rfl (hk.ext e) hr ha (hR.ext e))
  type := by
    (rintro i y v h h9q; (with_reducible refine x3_5 h9q fun k r a r93 q94 hr ha hR => ?_
                          try clear h9q
                          obtain rfl := r93
                          obtain ⟨dd, hk⟩ := q94); rintro e)
    exact looks_cls (e _ _ hk)
  key := by
    intro i x x1 x2 s' hx X hx1 hx2 n1 n2 z1 z2 Q E ret
    rw [List.getElem?_map, Option.map_eq_some_iff] at hx
    (with_reducible refine x1_2 hx fun r hr r83 => ?_
     try clear hx
     obtain rfl := r83)
    have hi : i < as.length := by rw [← R.len]; exact (List.getElem?_eq_some_iff.mp hr).1
    have ha := List.getElem?_eq_getElem hi
    refine KS.make A.in1.in1 s' r X.keep ((H.ext X).frames rfl) hd (by show A.units + 1 + 1 + 600 < _; omega) _ _ fun y h' tk' X' hy => ?_
    (with_reducible refine x1_3 hy fun k r95 q96 hn => ?_
     try clear hy
     obtain rfl := r95
     obtain ⟨dd, hk⟩ := q96)
    have X2 : Ext A [] s'.heap h' := X'.frames rfl
    refine ret _ _ _ X2 (i3_5 k r _ rfl ⟨dd, view_of (fun q => ?_) (view_get hk).2⟩ hr ha ((R.at_ i r _ hr ha).ext (view_two (X.trans X2) z1 z2)))
    rcases List.mem_cons.mp q with rfl | q
    · (with_reducible refine x2_1 hx1 fun xs c e => ?_
       try clear hx1); rw [hn] at e; cases e
    · rcases List.mem_cons.mp q with rfl | q
      · (with_reducible refine x2_1 hx2 fun xs c e => ?_
         try clear hx2); rw [hn] at e; cases e
      · exact (view_get hk).1 q
  lt := by
    (rintro i j x y x1 x2 s' hi hj X h9q; (with_reducible refine x3_5 h9q fun k1 r1 a1 r97 hk1 hr1 ha1 hR1 => ?_
                                           try clear h9q
                                           obtain rfl := r97); rintro h9q; (with_reducible refine x3_5 h9q fun k2 r2 a2 r98 hk2 hr2 ha2 hR2 => ?_
                                                                            try clear h9q
                                                                            obtain rfl := r98); rintro Q E ret)
    refine KS.lts A.in1.in1 s' k1 k2 a1 a2 X.keep ((H.ext X).frames rfl) hd (by show A.units + 1 + 1 + 600 < _; omega) ⟨r1, hk1.ext view_drop, hR1.ext view_drop⟩ ⟨r2, hk2.ext view_drop, hR2.ext view_drop⟩ _ _ fun z h' tk' X' e => ?_
    rw [e, hc i j a1 a2 ha1 ha2]
    exact ret _ _ (X'.frames rfl)
theorem sortBy_lam {f c' cR rules : Addr} {qual : Str} {pm ct : Value} {oR oc : Obj} {tq : Tok} {vsc : Array Value} {ru : List (Int × Int)} (H : Here w A [] s.heap) (hh : A.handled = none) (R : RecRow (view A [] s.heap) l rs as) (hd : A.depth + 40 < recursionLimit) (hu : A.units + 700 < cLine)
    (ho : (view A [] s.heap).get? f = some (kla_obj "<lambda>" qual lamX.1 lamX.2.1 lamX.2.2.1 [("rules", cR)] pm c' ct)) (hcc : (view A [] s.heap).get? c' = some oc) (hcd : oc.data = .fields vsc) (hcv : vsc[1]? = some (.str qual tq))
    (hR : (view A [] s.heap).get? cR = some oR) (hRd : oR.data = .cell (some (.ref rules))) (P : PairRow (view A [] s.heap) rules ru) (hr2 : ru.length ≤ 2) (hru : ∀ r ∈ ru, r.1 = 0 ∨ r.1 = 1)
    (hc : ∀ (i j : Nat) a b, as[i]? = some a → as[j]? = some b → lexLt (rankOf ru a) (rankOf ru b) = less κ i j) :
    SortBy w A s.heap (.ref f) (rs.map Value.ref) (.type "list") (less κ) (fun i y v => ∃ x b a, y = .ref x ∧ v.IsList x #[.ref b] ∧ as[i]? = some a ∧ IntRow v b (rankOf ru a)) where
  mono := by
    (rintro i y v v' h9q; (with_reducible refine x3_4 h9q fun x b a r99 hx ha hb => ?_
                           try clear h9q
                           obtain rfl := r99); rintro e)
    exact (i3_4 x b a rfl (IsList.ext hx e) ha (hb.ext e))
  type := by
    (rintro i y v h h9q; (with_reducible refine x3_4 h9q fun x b a r910 q911 ha hb => ?_
                          try clear h9q
                          obtain rfl := r910
                          (refine x1_3 q911 fun o ho hcl _ => ?_
                           try clear q911)); rintro e)
    exact hcl ▸ looks_cls (e _ _ ho)
  key := by
    intro i x x1 x2 s' hx X hx1 hx2 n1 n2 z1 z2 Q E ret
    rw [List.getElem?_map, Option.map_eq_some_iff] at hx
    (with_reducible refine x1_2 hx fun r hr r84 => ?_
     try clear hx
     obtain rfl := r84)
    have hi : i < as.length := by rw [← R.len]; exact (List.getElem?_eq_some_iff.mp hr).1
    have ha := List.getElem?_eq_getElem hi
    refine c_lam (A := A.in1.in1) ((H.ext X).frames rfl) hh hd (view_le _ _ (X.keep _ _ ho)) (i4_4 c' oc vsc tq rfl (view_le _ _ (X.keep _ _ hcc)) hcd hcv) (X.keep _ _ hR) hRd ((R.at_ i r _ hr ha).ext X.keep) (P.ext X.keep) hr2 hru _ _ fun y h' tk' X' hy => ?_
    (with_reducible refine x2_5 hy fun k b r912 hk hb f1 f2 => ?_
     try clear hy
     obtain rfl := r912)
    have X2 : Ext A [] s'.heap h' := X'.frames rfl
    have lt1 : x1 < s'.heap.objs.size := by (with_reducible refine x2_1 hx1 fun xs c e => ?_
                                             try clear hx1); exact Heap.lt_size e
    have lt2 : x2 < s'.heap.objs.size := by (with_reducible refine x2_1 hx2 fun xs c e => ?_
                                             try clear hx2); exact Heap.lt_size e
    have up : ∀ q o, s'.heap.objs.size ≤ q → (view A.in1.in1 [] h').get? q = some o → (view A [x1, x2] h').get? q = some o := fun q o hq e => view_of (fun z => by
      rcases List.mem_cons.mp z with rfl | z
      · exact Nat.lt_irrefl _ (Nat.lt_of_lt_of_le lt1 hq)
      · rcases List.mem_cons.mp z with rfl | z
        · exact Nat.lt_irrefl _ (Nat.lt_of_lt_of_le lt2 hq)
        · exact (view_get e).1 z) (view_get e).2
    (refine x1_2 hk fun o1 e1 q1 => ?_
     try clear hk)
    (refine x1_2 hb fun vs q85 q3 => ?_
     try clear hb
     obtain ⟨o2, e2, q2⟩ := q85)
    exact ret _ _ _ X2 (i3_4 k b _ rfl ⟨o1, up _ _ f1 e1, q1⟩ ha (i1_2 vs ⟨o2, up _ _ f2 e2, q2⟩ q3))
  lt := by
    (rintro i j x y x1 x2 s' hi hj X h9q; (with_reducible refine x3_4 h9q fun k1 b1 a1 r913 hk1 ha1 hb1 => ?_
                                           try clear h9q
                                           obtain rfl := r913); rintro h9q; (with_reducible refine x3_4 h9q fun k2 b2 a2 r914 hk2 ha2 hb2 => ?_
                                                                             try clear h9q
                                                                             obtain rfl := r914); rintro Q E ret)
    have dl : (view A [x1, x2] s'.heap).StaysIn s'.heap := view_le
    refine one_oneLt (IsList.ext hk1 dl) (IsList.ext hk2 dl) (hb1.ext dl) (hb2.ext dl) (by simp [rankOf]) (by show A.units + 1 + 1 + 100 < _; omega) ?_
    rw [hc i j a1 a2 ha1 ha2]
    exact ret s'.heap s'.toks Ext.refl
theorem sortP_mem {n : Nat} {i : Nat} (h : i ∈ sortP (less κ) n) : i < n := by
  unfold sortP at h
  split at h
  · exact List.mem_range.mp h
  · have := (@sort_ok κ n).1
    have := (Array.perm_iff_toList_perm.mp this).mem_iff.mp h
    simpa using this
theorem sortP_perm {n : Nat} : (sortP (less κ) n).Perm (List.range n) := by
  unfold sortP
  split
  · exact List.Perm.refl _
  · simpa using Array.perm_iff_toList_perm.mp (@sort_ok κ n).1
theorem sortP_ord {n : Nat} : ∀ (p q : Nat), p ≤ q → q < n → κ ((sortP (less κ) n).getD p 0) ≤ κ ((sortP (less κ) n).getD q 0) := by
  intro p q hpq hq
  unfold sortP
  split
  · obtain rfl : p = q := by omega
    exact Int.le_refl _
  · have h := (@sort_ok κ n).2.le hpq hq
    simpa [kAt, Array.getD_eq_getD_getElem?] using h
theorem sort_map (hlen : rs.length = as.length) : (sortP (less κ) (rs.map Value.ref).length).map (fun i => (rs.map Value.ref).getD i Value.none) = ((sortP (less κ) as.length).map fun i => rs.getD i 0).map Value.ref := by
  rw [List.length_map, hlen, List.map_map]
  apply List.map_congr_left
  intro i hi
  have hi := sortP_mem hi
  show (rs.map Value.ref).getD i Value.none = Value.ref (rs.getD i 0)
  rw [List.getD_eq_getElem?_getD, List.getD_eq_getElem?_getD, List.getElem?_map, List.getElem?_eq_getElem (by omega)]
  rfl
theorem recRow_sorted {v : Heap} {D : Addr} (R : RecRow v l rs as) (hD : v.IsList D (((sortP (less κ) as.length).map fun i => rs.getD i 0).map Value.ref).toArray) :
    RecRow v D ((sortP (less κ) as.length).map fun i => rs.getD i 0) ((sortP (less κ) as.length).map fun i => as.getD i (0, 0, 0)) where
  list := hD
  len := by simp
  at_ := by
    intro i r a h1 h2
    rw [List.getElem?_map, Option.map_eq_some_iff] at h1 h2
    (with_reducible refine x1_2 h1 fun j hj r86 => ?_
     try clear h1
     obtain rfl := r86)
    (with_reducible refine x1_2 h2 fun j' hj' r87 => ?_
     try clear h2
     obtain rfl := r87)
    rw [hj] at hj'; cases hj'
    have hlt := sortP_mem (List.mem_of_getElem? hj)
    refine R.at_ j _ _ ?_ ?_
    · rw [List.getD_eq_getElem?_getD, List.getElem?_eq_getElem (by rw [R.len]; exact hlt)]; rfl
    · rw [List.getD_eq_getElem?_getD, List.getElem?_eq_getElem hlt]; rfl
theorem sort_keys (H : Here w A [] s.heap) (KS : KeySrt w (view A [] s.heap) C c) (R : RecRow (view A [] s.heap) l rs as) (hd : A.depth + 30 < recursionLimit) (hu : A.units + 700 < cLine) (h64 : as.length < 64)
    (hc : ∀ (i j : Nat) a b, as[i]? = some a → as[j]? = some b → decide (c a b < 0) = less κ i j) :
    Quiet w A (call (.builtin "sorted") [.ref l] [(Str.ofString "key", .ref C)]) s (fun r v => ∃ D, r = .ref D ∧ v.IsList D (((sortP (less κ) as.length).map fun i => rs.getD i 0).map Value.ref).toArray ∧ s.heap.objs.size ≤ D) := by
  have Z := c_sorted H (IsList.ext R.list view_le) (sortBy_keys H KS R hd hu hc) (by rw [List.length_map, R.len]; exact h64) (by rfl) (by simp)
  rw [sort_map R.len] at Z
  exact Z
theorem sort_plain {f c' cR rules : Addr} {qual : Str} {pm ct : Value} {oR oc : Obj} {tq : Tok} {vsc : Array Value} {ru : List (Int × Int)} (H : Here w A [] s.heap) (hh : A.handled = none) (R : RecRow (view A [] s.heap) l rs as) (hd : A.depth + 40 < recursionLimit) (hu : A.units + 700 < cLine) (h64 : as.length < 64)
    (ho : (view A [] s.heap).get? f = some (kla_obj "<lambda>" qual lamX.1 lamX.2.1 lamX.2.2.1 [("rules", cR)] pm c' ct)) (hcc : (view A [] s.heap).get? c' = some oc) (hcd : oc.data = .fields vsc) (hcv : vsc[1]? = some (.str qual tq))
    (hR : (view A [] s.heap).get? cR = some oR) (hRd : oR.data = .cell (some (.ref rules))) (P : PairRow (view A [] s.heap) rules ru) (hr2 : ru.length ≤ 2) (hru : ∀ r ∈ ru, r.1 = 0 ∨ r.1 = 1)
    (hc : ∀ (i j : Nat) a b, as[i]? = some a → as[j]? = some b → lexLt (rankOf ru a) (rankOf ru b) = less κ i j) :
    Quiet w A (call (.builtin "sorted") [.ref l] [(Str.ofString "key", .ref f)]) s (fun r v => ∃ D, r = .ref D ∧ v.IsList D (((sortP (less κ) as.length).map fun i => rs.getD i 0).map Value.ref).toArray ∧ s.heap.objs.size ≤ D) := by
  have Z := c_sorted H (IsList.ext R.list view_le) (sortBy_lam H hh R hd hu ho hcc hcd hcv hR hRd P hr2 hru hc) (by rw [List.length_map, R.len]; exact h64) (by rfl) (by rfl)
  rw [sort_map R.len] at Z
  exact Z
end
end Mine
end PartJ2

section PartK0
open PySem PySem.W PyProof.Rows PySem.Calls
set_option Elab.async false
set_option maxRecDepth 100000
set_option maxHeartbeats 4000000
set_option linter.unusedVariables false
set_option rowWalk.seconds 0
namespace Mine
open TI (Frs SameUp)
open LCg
theorem sameUp_map {frs frs' : List (Addr × Obj)} (SU : SameUp frs frs') {a : Addr} : a ∈ frs'.map (·.1) → a ∈ frs.map (·.1) := fun h => by
  (obtain q81 := List.mem_map.mp h
   with_reducible refine x1_2 q81 fun p hp r82 => ?_
   clear q81
   obtain rfl := r82)
  (obtain q83 := SU.fwd p hp
   with_reducible refine x1_2 q83 fun x hx e => ?_
   clear q83)
  exact List.mem_map.mpr ⟨x, hx, e.symm⟩
section
variable {w : World} {A : Around} {l : List Env} {frs ex : List (Addr × Obj)} {g h h' : Heap} {L I C D : Addr} {oI oC oD : Obj} {m : Str → Option Value} {p : Program} {loose : List Str} {mean : ExcName → Option Value} {mg mb : Str → Option Value} {env : Env}
theorem here_comp (hl : A.frames = some l) (Fs : Frs l frs) (F : Fr g L h m) (N : News g L h ((I, oI) :: (C, oC) :: (D, oD) :: (ex ++ frs))) (X : (Mine.hd.heap_1 w.params).In g) (T : Top p loose mean mg mb g) (hf : env.frame = some L := by rfl) (hk : env.scope.kind = .function := by rfl) :
    Here w (A.deeper env) [] h ∧ g.StaysIn (view (A.deeper env) [] h) :=
  ⟨here_of hl Fs F N (Split.cons (Split.cons (Split.cons Split.append))) X T hf hk, in_view F N (Split.cons (Split.cons (Split.cons Split.append))) Fs hl hf⟩
theorem back_comp (hl : A.frames = some l) (Fs : Frs l frs) (F : Fr g L h m) (N : News g L h ((I, oI) :: (C, oC) :: (D, oD) :: (ex ++ frs))) (off : Off3 I C D (ex ++ frs)) (hap : ∀ p ∈ ex, p.1 ∉ frs.map (·.1)) (e : Ext (A.deeper env) [] h h') (hf : env.frame = some L := by rfl) :
    ∃ frs', SameUp frs frs' ∧ Frs l frs' ∧ Fr g L h' m ∧ News g L h' ((I, oI) :: (C, oC) :: (D, oD) :: (ex ++ frs')) ∧ Off3 I C D (ex ++ frs') ∧ (∀ p ∈ ex, p.1 ∉ frs'.map (·.1)) := by
  have o3 := off.mem
  have nf : ∀ a, (∀ p ∈ ex ++ frs, p.1 ≠ a) → a ∉ frs.map (·.1) := fun a ha q => by
    (obtain q84 := List.mem_map.mp q
     with_reducible refine x1_2 q84 fun p hp r85 => ?_
     clear q84
     obtain rfl := r85)
    exact ha p (List.mem_append_right _ hp) rfl
  (obtain q91 := back (new := (I, oI) :: (C, oC) :: (D, oD) :: ex) hl Fs F N (Split.cons (Split.cons (Split.cons Split.append))) hf (fun p hp => by
    refine mc1 hp ?_ fun hp => ?_
    · exact nf _ fun p hp => (o3 p hp).1
    · refine mc1 hp ?_ fun hp => ?_
      · exact nf _ fun p hp => (o3 p hp).2.1
      · refine mc1 hp ?_ fun hp => ?_
        · exact nf _ fun p hp => (o3 p hp).2.2
        · exact hap p hp) e
   with_reducible refine x1_4 q91 fun frs' SU Fs' F' N' => ?_
   clear q91)
  refine ⟨frs', SU, Fs', F', N', Off3.of fun p hp => ?_, fun p hp q => hap p hp (sameUp_map SU q)⟩
  rcases List.mem_append.mp hp with hp | hp
  · exact o3 p (List.mem_append_left _ hp)
  · (obtain q86 := SU.fwd p hp
     with_reducible refine x1_2 q86 fun x hx e => ?_
     clear q86)
    rw [e]
    exact o3 x (List.mem_append_right _ hx)
theorem join_comp {frs' : List (Addr × Obj)} {a : Addr} {o : Obj} (F : Fr g L h m) (N : News g L h ((I, oI) :: (C, oC) :: (D, oD) :: (ex ++ frs))) (SU : SameUp frs frs') (N' : News g L h' ((I, oI) :: (C, oC) :: (D, oD) :: (ex ++ frs'))) (off : Off3 I C D (ex ++ frs')) (hap : ∀ p ∈ ex, p.1 ∉ frs'.map (·.1))
    (ha : h.get? a = none) (hL : a ≠ L) (e : h'.get? a = some o) : News g L h' ((I, oI) :: (C, oC) :: (D, oD) :: (((a, o) :: ex) ++ frs')) ∧ Off3 I C D (((a, o) :: ex) ++ frs') ∧ (∀ p ∈ (a, o) :: ex, p.1 ∉ frs'.map (·.1)) := by
  have ne : ∀ p ∈ (I, oI) :: (C, oC) :: (D, oD) :: (ex ++ frs), a ≠ p.1 := fun p hp q => by rw [q, (N p hp).1] at ha; cases ha
  have g0 : g.get? a = none := by
    cases q : g.get? a with
    | none => rfl
    | some x => rw [F.keep _ _ q] at ha; cases ha
  refine ⟨fun p hp => ?_, ⟨⟨ne _ (List.Mem.head _), ne _ (List.Mem.tail _ (List.Mem.head _)), ne _ (List.Mem.tail _ (List.Mem.tail _ (List.Mem.head _)))⟩, off⟩, fun p hp q => ?_⟩
  · refine mc1 hp ?_ fun hp => ?_
    · exact N' _ (List.Mem.head _)
    · refine mc1 hp ?_ fun hp => ?_
      · exact N' _ (List.Mem.tail _ (List.Mem.head _))
      · refine mc1 hp ?_ fun hp => ?_
        · exact N' _ (List.Mem.tail _ (List.Mem.tail _ (List.Mem.head _)))
        · refine mc1 hp ?_ fun hp => ?_
          · exact ⟨e, hL, g0⟩
          · exact N' p (List.Mem.tail _ (List.Mem.tail _ (List.Mem.tail _ hp)))
  · rcases List.mem_cons.mp hp with rfl | hp
    · have q := sameUp_map SU q
      (obtain q87 := List.mem_map.mp q
       with_reducible refine x1_2 q87 fun p hp e => ?_
       clear q87)
      exact ne p (List.Mem.tail _ (List.Mem.tail _ (List.Mem.tail _ (List.mem_append_right _ hp)))) e.symm
    · exact hap p hp q
end
section
variable {M : Model} {A : Around} {E : Value → Shared → Prop} {s : Shared} {h₀ : Heap} {L c P : Addr} {m mg mb : Str → Option Value} {news : List (Addr × Obj)} {p : Program} {loose : List Str} {mean : ExcName → Option Value} {name qual : Str} {params : Arguments} {body : Expr} {scope : Scope} {ps : Array Value} {pos : Pos} {firstLine : Nat} {clos : List (Str × Addr)} {env : Env}
theorem lam_room (F : Fr h₀ L s.heap m) (T : Top p loose mean mg mb h₀) (hm : s.heap.get? P = some (tabObj ps)) : mainGlobals ≠ P ∧ s.heap.BuiltinsAt mg P := by
  have hgs := T.g.keeps F.keep
  (obtain q92 := T.bmain
   refine x2_6 q92 fun bm ob b1 b2 b3 b4 b5 b6 => ?_
   clear q92)
  have hgP : mainGlobals ≠ P := fun q => by
    (refine x3_3 hgs fun o es ep e hd _ => ?_
     try clear hgs)
    rw [q, hm] at e; cases e; cases hd
  have hbP : bm ≠ P := fun q => by
    have e := F.keep _ _ b3
    rw [q, hm] at e; cases e; cases b4
  have hbG : bm ≠ mainGlobals := fun q => by
    (obtain q93 := T.g
     refine x3_3 q93 fun o es ep e hd _ => ?_
     clear q93)
    rw [q, e] at b3; cases b3; rw [hd] at b6; cases b6
  exact ⟨hgP, (i2_8 bm ob b1 b2 hbG hbP (F.keep _ _ b3) b4 b5 b6)⟩
theorem lam_new {Q : Value → Shared → Prop} (hge : env.globals = mainGlobals) (hcode : env.code = .ref c) (F : Fr h₀ L s.heap m) (N : News h₀ L s.heap ((P, tabObj ps) :: news)) (hne : ∀ p ∈ news, p.1 ≠ P) (T : Top p loose mean mg mb h₀) (C : CodeHd h₀ c P) (ht : TriplesOk ps.toList) (hnf : codeAmong pos ps.toList = none)
    (hcl : closureFor scope env = pure clos)
    (h : ∀ f c' oc vs t ctv pm h' tk, Fr h₀ L h' m → News h₀ L h' ((P, tabObj (ps ++ #[rawInt pos.line, rawInt pos.col, .ref c'])) :: (f, kla_obj name qual params body scope clos pm c' ctv) :: (c', oc) :: news) →
      oc.data = .fields vs → vs[1]? = some (.str qual t) → s.heap.objs.size ≤ c' → s.heap.objs.size ≤ f → Q (.ref f) { s with heap := h', toks := tk }) :
    wpAny M A (makeFunction name qual params (.expr body) scope env [] [] [] pos firstLine) Q E s := by
  have hm := N (P, tabObj ps) (List.Mem.head _)
  have hgs := T.g.keeps F.keep
  obtain ⟨hgP, hB⟩ := lam_room F T hm.1
  refine kla_makeFunction (mg := mg) hcl hge hgs hcode (C.keeps F.keep) hm.1 ht hnf hgP hB fun c' ctv h' tk hx hge hlt hrec htb => ?_
  (refine x4_4 hrec fun c₂ oc vs t e2 hoc hd hv => ?_
   try clear hrec)
  cases e2
  have hLs : L < s.heap.objs.size := F.ns.lt
  have hLc : L < c' := Nat.lt_of_lt_of_le hLs hge
  have old : ∀ b o, h₀.get? b = some o → h'.get? b = some o := fun b o e => hx b o (fun q => by rw [q, hm.2.2] at e; cases e) (F.keep b o e)
  have fresh : ∀ b, L < b → h₀.get? b = none := fun b hb => Heap.get?_none_of_le (Nat.le_trans F.above (Nat.le_of_lt hb))
  refine h h'.objs.size c' oc vs t ctv ((mg "__name__").getD .none) _ tk ⟨(F.ns.extBut hx hm.2.1.symm).push _, fun b o e => Heap.get?_push_of_some _ (old b o e), F.above⟩ (fun q hq => ?_) hd hv hge (Nat.le_trans hge (Nat.le_of_lt hlt))
  refine mc1 hq ?_ fun hq => ?_
  · exact ⟨Heap.get?_push_of_some _ htb, hm.2⟩
  · refine mc1 hq ?_ fun hq => ?_
    · exact ⟨Heap.get?_push_size _ rfl, Nat.ne_of_gt (Nat.lt_trans hLc hlt), fresh _ (Nat.lt_trans hLc hlt)⟩
    · refine mc1 hq ?_ fun hq => ?_
      · exact ⟨Heap.get?_push_of_some _ hoc, Nat.ne_of_gt hLc, fresh _ hLc⟩
      · have n := N q (List.Mem.tail _ hq)
        exact ⟨Heap.get?_push_of_some _ (hx _ _ (hne q hq) n.1), n.2⟩
theorem lam_hit {Q : Value → Shared → Prop} {c' : Addr} (hge : env.globals = mainGlobals) (hcode : env.code = .ref c) (F : Fr h₀ L s.heap m) (N : News h₀ L s.heap ((P, tabObj ps) :: news)) (T : Top p loose mean mg mb h₀) (C : CodeHd h₀ c P) (ht : TriplesOk ps.toList) (hf : codeAmong pos ps.toList = some (.ref c'))
    (hcl : closureFor scope env = pure clos)
    (h : ∀ f ctv pm h' tk, Fr h₀ L h' m → News h₀ L h' ((P, tabObj ps) :: (f, kla_obj name qual params body scope clos pm c' ctv) :: news) → s.heap.objs.size ≤ f → Q (.ref f) { s with heap := h', toks := tk }) :
    wpAny M A (makeFunction name qual params (.expr body) scope env [] [] [] pos firstLine) Q E s := by
  have hm := N (P, tabObj ps) (List.Mem.head _)
  have hgs := T.g.keeps F.keep
  obtain ⟨hgP, hB⟩ := lam_room F T hm.1
  refine kla_makeFunctionHit (mg := mg) hcl hge hgs hcode (C.keeps F.keep) hm.1 ht hf hB fun ctv h' tk hk hsz => ?_
  have hLs : L < h'.objs.size := Nat.lt_of_lt_of_le F.ns.lt hsz
  have fresh : ∀ b, L < b → h₀.get? b = none := fun b hb => Heap.get?_none_of_le (Nat.le_trans F.above (Nat.le_of_lt hb))
  refine h h'.objs.size ctv ((mg "__name__").getD .none) _ tk ⟨(F.ns.keeps hk).push _, fun b o e => Heap.get?_push_of_some _ (hk b o (F.keep b o e)), F.above⟩ (fun q hq => ?_) hsz
  refine mc1 hq ?_ fun hq => ?_
  · exact ⟨Heap.get?_push_of_some _ (hk _ _ hm.1), hm.2⟩
  · refine mc1 hq ?_ fun hq => ?_
    · exact ⟨Heap.get?_push_size _ rfl, Nat.ne_of_gt hLs, fresh _ hLs⟩
    · have n := N q (List.Mem.tail _ hq)
      exact ⟨Heap.get?_push_of_some _ (hk _ _ n.1), n.2⟩
end
theorem off1_mem {D : Addr} : ∀ {l : List (Addr × Obj)}, LCg.Off1 D l → ∀ p ∈ l, p.1 ≠ D
  | [], _, _, h => nomatch h
  | _ :: _, x, p, h => by
    refine mc1 h ?_ fun h => ?_
    · exact x.1
    · exact off1_mem x.2 p h
theorem mem_deep {p a b c : Addr × Obj} {ex frs : List (Addr × Obj)} (h : p ∈ ex) : p ∈ a :: b :: c :: (ex ++ frs) := List.Mem.tail _ (List.Mem.tail _ (List.Mem.tail _ (List.mem_append_left _ h)))
noncomputable def ordOf (κ : Rec → Int) (as : List Rec) : List Nat := sortP (less fun i => κ (as.getD i (0, 0, 0))) as.length
noncomputable def sRs (κ : Rec → Int) (rs : List Addr) (as : List Rec) : List Addr := (ordOf κ as).map fun i => rs.getD i 0
noncomputable def sAs (κ : Rec → Int) (as : List Rec) : List Rec := (ordOf κ as).map fun i => as.getD i (0, 0, 0)
structure Alike (c : Rec → Rec → Int) (ru : List (Int × Int)) (as : List Rec) (κ : Rec → Int) : Prop where
  cmp : ∀ a b, a ∈ as → b ∈ as → decide (c a b < 0) = decide (κ a < κ b)
  rank : ∀ a b, a ∈ as → b ∈ as → lexLt (rankOf ru a) (rankOf ru b) = decide (κ a < κ b)
theorem less_at {κ : Rec → Int} {as : List Rec} {i j : Nat} {a b : Rec} (h1 : as[i]? = some a) (h2 : as[j]? = some b) : less (fun i => κ (as.getD i (0, 0, 0))) i j = decide (κ a < κ b) := by
  have e1 : as.getD i (0, 0, 0) = a := by rw [List.getD_eq_getElem?_getD, h1]; rfl
  have e2 : as.getD j (0, 0, 0) = b := by rw [List.getD_eq_getElem?_getD, h2]; rfl
  show decide (κ (as.getD i (0, 0, 0)) < κ (as.getD j (0, 0, 0))) = _
  rw [e1, e2]
end Mine
end PartK0

section PartG3
open PySem PySem.W PyProof.Rows PySem.Calls
set_option Elab.async false
set_option maxRecDepth 100000
set_option maxHeartbeats 4000000
set_option linter.unusedVariables false
set_option rowWalk.seconds 0
namespace Mine
theorem start_G3 {M : Model} {A : Around} {env : Env} {E : Value → Shared → Prop} {s : Shared} {Q : Flow → Shared → Prop} (h : Q .next s) : wpAny M A (execs [] env) Q E s := by
  w_top off
  walk1
  exact h
open TI (Frs SameUp)
open SeqAt
noncomputable def ownB (rows1 rows2 : List (List Int)) (p : Nat) : Bool := !decide (rows1.getD p [] ∈ rows2) && (!decide (rows1.getD p [] ∈ rows1.take p) || (rows2.filter fun o => lexLt (rows1.getD p []) o).isEmpty)
noncomputable def ownL (rows1 rows2 : List (List Int)) (n : Nat) : List Int := ((List.range n).filter (ownB rows1 rows2)).map Int.ofNat
local macro_rules | `(tactic| walk_at "exec For") => `(tactic| (k_here; (with_reducible show wpAny _ _ (exec (Stmt.For _ _ _ _ _) _) _ _ _); refine wpAny_For ?_ (fun _ => rfl)))
local macro_rules | `(tactic| walk_at "pyIter ref") => `(tactic| ((with_reducible show wpAny _ _ (pyIter (Value.ref _)) _ _ _); isplit))
local macro_rules | `(tactic| walk_at "eval ListComp") => `(tactic| isplit)
local macro_rules | `(tactic| walk_at "exec Assign cons ListComp") => `(tactic| isplit)
local macro_rules | `(tactic| walk_at "compareOp NotIn ref ref") => `(tactic| isplit)
local macro_rules | `(tactic| walk_at "subscriptTail Name Name ref int") => `(tactic| isplit)
local macro_rules | `(tactic| walk_at "And") => `(tactic| isplit)
theorem pick_upto {bs : List Addr} {i : Nat} : slicePick (bs.map Value.ref).toArray none (some (i : Int)) none = ((bs.take i).map Value.ref).toArray := by
  rw [kms_pick_eq]
  unfold kms_pick kms_lo kms_hi
  have h : ¬ ((i : Int) < 0) := by omega
  simp only [if_neg h, List.drop_zero, Nat.sub_zero, Int.toNat_natCast, List.length_map]
  rw [List.map_take]
  congr 1
  apply List.ext_getElem?
  intro j
  rw [List.getElem?_take, List.getElem?_take]
  by_cases hj : j < i
  · by_cases hl : j < bs.length
    · rw [if_pos (by omega), if_pos hj]
    · rw [if_pos hj]
      simp [Nat.le_of_not_lt hl]
  · rw [if_neg hj, if_neg (by omega)]
theorem ownL_no {rows1 rows2 : List (List Int)} {i : Nat} (h : ownB rows1 rows2 i = false) : ownL rows1 rows2 (i + 1) = ownL rows1 rows2 i := by
  unfold ownL; rw [List.range_succ, List.filter_append]; simp [h]
theorem ownL_yes {rows1 rows2 : List (List Int)} {i : Nat} (h : ownB rows1 rows2 i = true) : ownL rows1 rows2 (i + 1) = ownL rows1 rows2 i ++ [(i : Int)] := by
  unfold ownL; rw [List.range_succ, List.filter_append]; simp [h]
theorem IntsAre.push {n : Int} {t : Tok} : ∀ {vs : List Value} {ns : List Int}, IntsAre vs ns → IntsAre (vs ++ [.int n t]) (ns ++ [n])
  | _, _, .nil => .cons n t .nil
  | _, _, .cons m u h => .cons m u (IntsAre.push h)
theorem c_own {w : World} {A : Around} {s : Shared} {l1 l2 : Addr} {bs1 bs2 : List Addr} {rows1 rows2 : List (List Int)} {k : Nat} (H : Here w A [] s.heap) (hh : A.handled = none) (hd : A.depth + 30 < recursionLimit) (hu : A.units + 200 < cLine)
    (R1 : RankRow (view A [] s.heap) l1 bs1 rows1) (R2 : RankRow (view A [] s.heap) l2 bs2 rows2) (z1 : rows1.length ≤ 1000) (z2 : rows2.length ≤ 1000) (k1 : ∀ r ∈ rows1, r.length = k) (k2 : ∀ r ∈ rows2, r.length = k) :
    Quiet w A (call (.ref 96) [.ref l1, .ref l2]) s (fun r v => ∃ a vs, r = .ref a ∧ v.IsList a vs.toArray ∧ IntsAre vs (ownL rows1 rows2 rows1.length) ∧ s.heap.get? a = none) := by
  intro Q E ret
  have X := H.frag
  have XS := X.keeps view_le
  revert XS X; k_fill; intro X XS
  refine wpAny_call ?_
  k_dflt (refine' enter_c (hid := []) (news := []) H ?hN (XS 96 _ (by k_is)) ?hd (codeRec_of XS ?hc) ?hr ?hb ?hl ?hnd ?_ ?hco ?hg ?hk; (case hN => exact fun _ h => nomatch h); (case hd => exact rfl); (case hc => k_is); (case hr => omega); (case hb => exact BindsTo.of_eq rfl); (case hl => exact rfl); (case hnd => decide); (case hco => exact rfl); (case hg => exact rfl); (case hk => exact rfl))
  clear XS X
  intro l frs p loose mean mg mb L' h' tk cells I' X' T' F' N' lt' Y'
  have hl := I'.hl
  have Fs := I'.fs
  (obtain q91 := CellsAre.two Y'
   with_reducible refine x2_3 q91 fun o1 o2 r92 d1' d2' => ?_
   clear q91
   obtain rfl := r92)
  have d1 : o1.data = .cell none := d1'
  have d2 : o2.data = .cell (some (.ref l1)) := d2'
  clear d1' d2' Y'
  (obtain q81 : ∃ m0, Fr (view A [] s.heap) L' h' m0 ∧ m0 (Str.ofString "others") = some (.ref l2) := ⟨_, F', rfl⟩
   with_reducible refine x1_2 q81 fun m0 F0 hm0 => ?_
   clear q81)
  clear F'
  generalize hg : view A [] s.heap = g at *
  simp only [List.nil_append, List.cons_append] at N'
  (try dsimp only); (try k_fold)
  have hlen : (bs1.map Value.ref).toArray.size = rows1.length := by simp [R1.len]
  have hl1 := R1.list
  k_steps
  refine id ?_
  rename_i P' t1 u1 v1 lt1 h1 F1 a1 a2 a3 a4 hr1 a6 N1 a8
  rw [hlen] at hr1
  refine iter_range a6 N1 hr1 z1 ?_
  intro I F1' hIr FI NI gI hLI lLI hlI hoff
  have hPI : @LT.lt Nat _ P' I := hlI _ (List.Mem.head _)
  have oA : ∀ p ∈ frs, p.1 ≠ L' + 1 + 1 := fun p hp => Nat.ne_of_lt (Nat.lt_succ_of_lt (Nat.lt_succ_of_lt (I'.lt p hp)))
  have oB : ∀ p ∈ frs, p.1 ≠ L' + 1 := fun p hp => Nat.ne_of_lt (Nat.lt_succ_of_lt (I'.lt p hp))
  have oP : ∀ p ∈ frs, p.1 ≠ P' := fun p hp => Nat.ne_of_lt (Nat.lt_trans (Nat.lt_succ_of_lt (I'.lt p hp)) u1.2.1)
  have oI : ∀ p ∈ frs, p.1 ≠ I := fun p hp => hoff p (List.Mem.tail _ (List.Mem.tail _ (List.Mem.tail _ hp)))
  (with_reducible refine x0_3 u1 fun lP1 lP2 c82 => ?_
   try clear u1
   clear c82)
  dsimp only
  clear hr1 a6 N1 a8
  refine for_range hh (fun i h => ∃ m vs c oc q, Fr g L' h m ∧ News g L' h ((P', W.listOf vs.toArray c) :: (L' + 1 + 1, oc) :: (L' + 1, o2) :: frs) ∧ m (Str.ofString "others") = some (.ref l2) ∧ m (Str.ofString "places") = some (.ref P') ∧ IntsAre vs (ownL rows1 rows2 i) ∧ oc.data = .cell q) hIr ?h0 ?step ?done
  case h0 => exact (i5_6 _ [] _ _ _ FI NI (by kd_p) (by kd_p) .nil d1)
  case done =>
    (rintro h h1 tk' h9q; (with_reducible refine x5_1 h9q fun m vs c oc q q9z => x0_6 q9z fun F2 N2 mo mp hv hoc => ?_
                           clear q9z
                           try clear h9q); rintro hk)
    have F3 := LCg.fr_but F2 hk hLI gI
    have N3 := LCg.news_but N2 hk fun p hp => by
      refine mc1 hp ?_ fun hp => ?_
      · exact Nat.ne_of_lt hPI
      · refine mc1 hp ?_ fun hp => ?_
        · exact hoff (L' + 1 + 1, o1) (List.Mem.tail _ (List.Mem.head _))
        · exact hoff p (List.Mem.tail _ (List.Mem.tail _ hp))
    clear F2 N2 hk FI NI
    dsimp only
    k_steps
    show Q _ _
    dsimp only
    have hLP : L' < P' := Nat.lt_trans (Nat.lt_succ_self _) lP2
    have e1 := (N3 _ (List.Mem.head _)).1
    subst hg
    refine ret _ _ _ (ext_of I'.hl I'.fs I'.fr F3 N3 (SameUp.refl _) (by kwd_rel) I'.above) (i2_4 P' vs rfl (i1_3 _ (made_view I' (fun _ h => nomatch h) e1 hLP) rfl ⟨_, rfl⟩) hv ?_)
    exact Heap.get?_none_of_le (Nat.le_trans I'.above (Nat.le_of_lt hLP))
  case step =>
    (rintro i ti OI h h1 tk' E' hlt h9q; (with_reducible refine x5_1 h9q fun m vs c oc q q9z => x0_6 q9z fun F2 N2 mo mp hv hoc => ?_
                                          clear q9z
                                          try clear h9q); rintro hst hk)
    have F3 := LCg.fr_but F2 hk hLI gI
    have N3 := LCg.news_but N2 hk fun p hp => by
      refine mc1 hp ?_ fun hp => ?_
      · exact Nat.ne_of_lt hPI
      · refine mc1 hp ?_ fun hp => ?_
        · exact hoff (L' + 1 + 1, o1) (List.Mem.tail _ (List.Mem.head _))
        · exact hoff p (List.Mem.tail _ (List.Mem.tail _ hp))
    have N4 : News g L' h1 ((I, OI) :: _) := fun p hp => (List.mem_cons.mp hp).elim (fun e => e ▸ ⟨hst, Ne.symm hLI, gI⟩) (N3 p)
    clear F2 N2 N3 hk
    refine wpAny_assign_Name ?_
    refine' storeX_C ?F ?N ?c ?U ?d ?_ ?a ?b
    (case a => rfl)
    (case b => rfl)
    (case F => k_asm)
    (case N => k_asm)
    (case c => rfl)
    (case U => k_updF)
    (case d => k_asm)
    intro h' o' F' N' d'
    (try dsimp only at N')
    k_steps
    refine id ?_
    obtain ⟨b, hb⟩ : ∃ b, bs1[i]? = some b := ⟨bs1[i]'(by rw [R1.len]; exact hlt), List.getElem?_eq_getElem _⟩
    have hr : rows1[i]? = some rows1[i] := List.getElem?_eq_getElem hlt
    have Rb := R1.at_ i b _ hb hr
    have hlr : rows1[i].length = k := k1 _ (List.mem_of_getElem? hr)
    refine LCt.Assign_ListComp_T (F₀ := F') (by rfl) (by with_unfolding_all rfl) (by with_unfolding_all rfl) (by decide) (by rfl) (by decide) (by rfl) (by rfl) (by rfl) ?_
    refine nameX_L F' mo ?_
    refine LCt.CompSrcT.base hh F' N' R2.list (by simp [R2.len]; rw [sizeLine_eq]; omega) ?_
    intro g'
    refine compT_ind (fun j ys news => news = (I, OI) :: (P', W.listOf vs.toArray c) :: (L' + 1 + 1, o') :: (L' + 1, o2) :: frs ∧ ys.length = ((rows2.take j).filter fun o => lexLt rows1[i] o).length) ⟨rfl, rfl⟩ ?fin ?turn
    case fin =>
      rintro ys news' ⟨rfl, hys⟩
      clear F' N' F3 N4
      unfold LCg.FinA
      intro D h2 tk2 F2 N2 o2'
      k_steps
      unfold Stop
      have R1l := IsList.ext R1.list F2.keep
      refine item_in (v := .ref b) R1l (Int.natCast_nonneg _) (by omega) (by simp [hb]) ?_
      k_steps
      refine id ?_
      refine row_notIn (R2.ext F2.keep) (Rb.ext F2.keep) (by show A.units + 3 + 70 < _; omega) ?_
      have hyse : ys = [] ↔ (rows2.filter fun o => lexLt rows1[i] o) = [] := by
        rw [← List.length_eq_zero_iff, hys, ← List.length_eq_zero_iff]
        simp [R2.len]
      have hgd : rows1.getD i [] = rows1[i] := by rw [List.getD_eq_getElem?_getD, hr]; rfl
      by_cases hin : rows1[i] ∈ rows2
      · rw [decide_eq_true hin, Bool.not_true]
        have hown : ownB rows1 rows2 i = false := by unfold ownB; rw [hgd, decide_eq_true hin]; rfl
        k_steps
        refine id ?_
        exact ⟨rfl, (i2_3 h2 _ rfl (i5_6 _ vs c o' _ F2 (fun p hp => N2 p (List.Mem.tail _ (List.Mem.tail _ hp))) (by kd_p) (by kd_p) ((ownL_no hown).symm ▸ hv) d') ((N2 _ (List.Mem.tail _ (List.Mem.head _))).1))⟩
      · rw [decide_eq_false hin, Bool.not_false]
        k_steps
        unfold Stop
        refine item_in (v := .ref b) R1l (Int.natCast_nonneg _) (by omega) (by simp [hb]) ?_
        k_steps
        refine id ?_
        rename Fr _ _ _ _ => F7
        rename News _ _ _ _ => N7
        dsimp only at N7 ⊢
        have RT : RankRow _ _ (bs1.take i) (rows1.take i) := ⟨(i1_3 _ ((N7 _ (List.Mem.head _)).1) rfl ⟨_, by rw [pick_upto]⟩), by simp [R1.len], fun j b r e1 e2 => ?hh9⟩
        case hh9 =>
          rw [List.getElem?_take] at e1 e2
          by_cases hj : j < i
          · rw [if_pos hj] at e1 e2
            exact (R1.at_ j b r e1 e2).ext F7.keep
          · rw [if_neg hj] at e1; cases e1
        refine row_notIn RT (Rb.ext F7.keep) (by show A.units + 3 + 70 < _; omega) ?_
        clear F2
        have lim : vs.length ≤ 1000 := by
          have e := hv.length
          have e2 : (ownL rows1 rows2 i).length ≤ i := by unfold ownL; rw [List.length_map]; exact Nat.le_trans (List.length_filter_le _ _) (by simp)
          omega
        by_cases hm : rows1[i] ∈ rows1.take i
        · rw [decide_eq_true hm, Bool.not_true]
          k_steps
          refine wpAny_truthy_list (i1_3 _ ((N7 _ (List.Mem.tail _ (List.Mem.head _))).1) rfl ⟨_, rfl⟩) ?_ ?_
          · rw [List.size_toArray, hys]
            have := List.length_filter_le (fun o => lexLt rows1[i] o) (List.take (List.map Value.ref bs2).toArray.size rows2)
            rw [List.length_take] at this
            omega
          by_cases hy : ys = []
          · have hown : ownB rows1 rows2 i = true := by
              unfold ownB
              rw [hgd, decide_eq_false hin, hyse.mp hy]; simp
            rw [show (!ys.toArray.isEmpty) = false by rw [hy]; rfl]
            k_steps
            refine append_L (P := P') F7 (news := (I, OI) :: (L' + 1 + 1, o') :: (L' + 1, o2) :: frs) (fun p hp => N7 p ?_) (N7 (P', _) (List.Mem.tail _ (List.Mem.tail _ (List.Mem.tail _ (List.Mem.head _))))) (fun p hp => ?_) (by rw [List.size_toArray, sizeLine_eq]; omega) ?_
            · refine mc1 hp ?_ fun hp => ?_
              · exact List.Mem.tail _ (List.Mem.tail _ (List.Mem.head _))
              · exact List.Mem.tail _ (List.Mem.tail _ (List.Mem.tail _ (List.Mem.tail _ hp)))
            · refine mc1 hp ?_ fun hp => ?_
              · exact Nat.ne_of_gt hPI
              · refine mc1 hp ?_ fun hp => ?_
                · exact Nat.ne_of_lt lP1
                · refine mc1 hp ?_ fun hp => ?_
                  · exact Nat.ne_of_lt lP2
                  · exact oP p hp
            intro h3 c3 F8 N8
            clear F7 N7 RT
            k_steps
            refine id ?_
            refine ⟨rfl, (i2_3 h3 _ rfl (i5_6 _ (vs ++ [.int (i : Int) ti]) c3 o' _ F8 (fun p hp => ?_) (by kd_p) (by kd_p) ((ownL_yes hown).symm ▸ IntsAre.push hv) d') ((N8 _ (List.Mem.tail _ (List.Mem.head _))).1))⟩
            refine mc1 hp ?_ fun hp => ?_
            · have e : (vs.toArray.push (Value.int (i : Int) ti)) = (vs ++ [Value.int (i : Int) ti]).toArray := by simp
              exact e ▸ N8 _ (List.Mem.head _)
            · exact N8 p (List.Mem.tail _ (List.Mem.tail _ hp))
          · have hown : ownB rows1 rows2 i = false := by
              unfold ownB
              rw [hgd, decide_eq_false hin, decide_eq_true hm]
              have hne : (rows2.filter fun o => lexLt rows1[i] o) ≠ [] := fun q => hy (hyse.mpr q)
              cases hq : rows2.filter fun o => lexLt rows1[i] o with
              | nil => exact absurd hq hne
              | cons _ _ => rfl
            rw [show (!ys.toArray.isEmpty) = true by simp [hy]]
            k_steps
            refine id ?_
            exact ⟨rfl, (i2_3 _ _ rfl (i5_6 _ vs c o' _ F7 (fun p hp => N7 p (List.Mem.tail _ (List.Mem.tail _ (List.Mem.tail _ hp)))) (by kd_p) (by kd_p) ((ownL_no hown).symm ▸ hv) d') ((N7 _ (List.Mem.tail _ (List.Mem.tail _ (List.Mem.head _)))).1))⟩
        · have hown : ownB rows1 rows2 i = true := by
            unfold ownB
            rw [hgd, decide_eq_false hin, decide_eq_false hm]; simp
          rw [decide_eq_false hm, Bool.not_false]
          k_steps
          refine append_L (P := P') F7 (news := (I, OI) :: (L' + 1 + 1, o') :: (L' + 1, o2) :: frs) (fun p hp => N7 p ?_) (N7 (P', _) (List.Mem.tail _ (List.Mem.tail _ (List.Mem.tail _ (List.Mem.head _))))) (fun p hp => ?_) (by rw [List.size_toArray, sizeLine_eq]; omega) ?_
          · refine mc1 hp ?_ fun hp => ?_
            · exact List.Mem.tail _ (List.Mem.tail _ (List.Mem.head _))
            · exact List.Mem.tail _ (List.Mem.tail _ (List.Mem.tail _ (List.Mem.tail _ hp)))
          · refine mc1 hp ?_ fun hp => ?_
            · exact Nat.ne_of_gt hPI
            · refine mc1 hp ?_ fun hp => ?_
              · exact Nat.ne_of_lt lP1
              · refine mc1 hp ?_ fun hp => ?_
                · exact Nat.ne_of_lt lP2
                · exact oP p hp
          intro h3 c3 F8 N8
          clear F7 N7 RT
          k_steps
          refine id ?_
          refine ⟨rfl, (i2_3 h3 _ rfl (i5_6 _ (vs ++ [.int (i : Int) ti]) c3 o' _ F8 (fun p hp => ?_) (by kd_p) (by kd_p) ((ownL_yes hown).symm ▸ IntsAre.push hv) d') ((N8 _ (List.Mem.tail _ (List.Mem.head _))).1))⟩
          refine mc1 hp ?_ fun hp => ?_
          · have e : (vs.toArray.push (Value.int (i : Int) ti)) = (vs ++ [Value.int (i : Int) ti]).toArray := by simp
            exact e ▸ N8 _ (List.Mem.head _)
          · exact N8 p (List.Mem.tail _ (List.Mem.tail _ hp))
    case turn =>
      rintro j ys news' hj ⟨rfl, hys⟩ v I2 oI2 C oC D m2 h2 tk2 E2 hP hC hx F2 N2 off ne
      have hj' : j < rows2.length := by simpa [R2.len] using hj
      have hv2 : ∃ b2, v = .ref b2 ∧ IntRow g b2 rows2[j] := by
        simp only [List.getElem?_toArray, List.getElem?_map, Option.map_eq_some_iff] at hP
        (with_reducible refine x1_2 hP fun b2 e r83 => ?_
         try clear hP
         obtain rfl := r83)
        exact ⟨b2, rfl, R2.at_ j b2 _ e (List.getElem?_eq_getElem hj')⟩
      (with_reducible refine x1_2 hv2 fun b2 r84 Rb2 => ?_
       try clear hv2
       obtain rfl := r84)
      clear F' N' F3 N4
      k_steps
      unfold Stop
      refine item_in (v := .ref b) (IsList.ext R1.list F2.keep) (Int.natCast_nonneg _) (by omega) (by simp [hb]) ?_
      refine row_gt (Rb2.ext F2.keep) (Rb.ext F2.keep) ((k2 _ (List.getElem_mem _)).trans hlr.symm) (by show A.units + 3 < _; omega) ?_
      refine wpAny_truthy_bool ?_
      have hys' : ∀ q, lexLt rows1[i] rows2[j] = q → ((rows2.take (j + 1)).filter fun o => lexLt rows1[i] o).length = ((rows2.take j).filter fun o => lexLt rows1[i] o).length + (if q = true then 1 else 0) := fun q hq => by
        rw [List.take_succ, List.getElem?_eq_getElem hj', List.filter_append, List.length_append]
        subst hq
        by_cases h9 : lexLt rows1[i] rows2[j] = true <;> simp [h9]
      cases hq : lexLt rows1[i] rows2[j] with
      | true =>
        simp only [if_true]
        refine LCgL.ld_own N2 (List.Mem.tail _ (List.Mem.head _)) hC hx ?_
        refine CompEnd.same F2 N2 off (Or.inl R2.list) ⟨rfl, ?_⟩
        rw [hys' _ hq, List.length_append, hys]; rfl
      | false =>
        simp only [Bool.false_eq_true, if_false]
        refine CompEnd.same F2 N2 off (Or.inl R2.list) ⟨rfl, ?_⟩
        rw [hys' _ hq, hys]; rfl
end Mine
end PartG3

section PartH1
open PySem PySem.W PyProof.Rows PySem.Calls
set_option Elab.async false
set_option maxRecDepth 100000
set_option maxHeartbeats 4000000
set_option linter.unusedVariables false
set_option rowWalk.seconds 0
namespace Mine
theorem start_H1 {M : Model} {A : Around} {env : Env} {E : Value → Shared → Prop} {s : Shared} {Q : Flow → Shared → Prop} (h : Q .next s) : wpAny M A (execs [] env) Q E s := by
  w_top off
  walk1
  exact h
open TI (Frs SameUp)
open SeqAt
local macro_rules | `(tactic| walk_at "eval ListComp") => `(tactic| isplit)
local macro_rules | `(tactic| walk_at "compareOp NotEq int int") => `(tactic| isplit)
local macro_rules | `(tactic| walk_at "subscriptTail Name Name ref int") => `(tactic| isplit)
theorem c_are {w : World} {A : Around} {s : Shared} {l1 l2 l3 : Addr} {kv : List Addr} {ps : List Nat} {vs : List Value} (H : Here w A [] s.heap) (hh : A.handled = none) (hd : A.depth + 30 < recursionLimit) (hu : A.units + 200 < cLine)
    (R1 : (view A [] s.heap).IsList l1 (ps.map fun p => Value.ref (kv.getD p 0)).toArray) (R2 : (view A [] s.heap).IsList l2 (kv.map Value.ref).toArray) (R3 : (view A [] s.heap).IsList l3 vs.toArray) (hi : IntsAre vs (ps.map Int.ofNat)) (hz : ps.length ≤ 1000) (hz2 : kv.length ≤ 1000) (hlt : ∀ p ∈ ps, p < kv.length) :
    Quiet w A (call (.ref 101) [.ref l1, .ref l2, .ref l3]) s (fun r v => r = .bool true) := by
  intro Q E ret
  have X := H.frag
  have XS := X.keeps view_le
  revert XS X; k_fill; intro X XS
  refine wpAny_call ?_
  k_dflt (refine' enter_c (hid := []) (news := []) H ?hN (XS 101 _ (by k_is)) ?hd (codeRec_of XS ?hc) ?hr ?hb ?hl ?hnd ?_ ?hco ?hg ?hk; (case hN => exact fun _ h => nomatch h); (case hd => exact rfl); (case hc => k_is); (case hr => omega); (case hb => exact BindsTo.of_eq rfl); (case hl => exact rfl); (case hnd => decide); (case hco => exact rfl); (case hg => exact rfl); (case hk => exact rfl))
  clear XS X
  intro l frs p loose mean mg mb L' h' tk cells I' X' T' F' N' lt' Y'
  have hl := I'.hl
  have Fs := I'.fs
  (obtain q91 := CellsAre.three Y'
   with_reducible refine x3_4 q91 fun o1 o2 o3 r92 d1' d2' d3' => ?_
   clear q91
   obtain rfl := r92)
  have d1 : o1.data = .cell (some (.ref l3)) := d1'
  have d2 : o2.data = .cell (some (.ref l2)) := d2'
  have d3 : o3.data = .cell (some (.ref l1)) := d3'
  clear d1' d2' d3' Y'
  obtain ⟨m0, F0⟩ : ∃ m0, Fr (view A [] s.heap) L' h' m0 := ⟨_, F'⟩
  clear F'
  simp only [List.nil_append, List.cons_append] at N'
  generalize hg : view A [] s.heap = g at *
  (try dsimp only); (try k_fold)
  have hget := IntsAre.get hi
  have hv := hi.length
  rw [List.length_map] at hv
  have e1 : (ps.map fun p => Value.ref (kv.getD p 0)).toArray.size = ps.length := by simp
  have e3 : vs.toArray.size = ps.length := by simp [hv]
  k_steps
  refine id ?_
  simp only [List.size_toArray, List.length_map, hv]
  refine PyProof.Rows.ne_int ?_
  rw [bne_self_eq_false]
  k_steps
  refine id ?_
  refine LCt.ListComp_T (F₀ := F0) (by with_unfolding_all rfl) (by decide) (by rfl) (by decide) (by rfl) ?_
  k_steps
  rename Fr _ _ _ _ => F1
  rename News _ _ _ _ => N1
  rename IsRange _ _ _ _ _ _ _ _ => hr1
  rw [List.length_map] at hr1
  refine LCt.CompSrcT.range (n := ps.length) hh F1 N1 hr1 (small_nat hz) (by simp [rangeSize_nat]) (by first | (rw [sizeLine_eq]; omega) | exact Nat.le_trans hz (by decide)) ?_
  intro g'
  refine compT_ind (n := ps.length) (fun j ys news => ys = [] ∧ news = (L' + 1 + 1 + 1, o1) :: (L' + 1 + 1, o2) :: (L' + 1, o3) :: frs) ⟨rfl, rfl⟩ ?fin ?turn
  case fin =>
    rintro ys news' ⟨rfl, rfl⟩
    clear F1 N1 hr1
    unfold LCg.FinE
    intro D h2 tk2 F2 N2 o2'
    k_steps
    exact ret _ _ _ (ext_ofg hg I'.hl I'.fs I'.fr F2 N2 (SameUp.refl _) (by kwd_rel) I'.above) rfl
  case turn =>
    rintro j ys news' hj ⟨rfl, rfl⟩ v I2 oI2 C oC D m2 h2 tk2 E2 ⟨tj, rfl⟩ hC hx F2 N2 off ne
    rw [Int.zero_add] at hx
    obtain ⟨q, hq⟩ : ∃ q, ps[j]? = some q := ⟨ps[j], List.getElem?_eq_getElem hj⟩
    obtain ⟨kq, hkq⟩ : ∃ kq, kv[q]? = some kq := ⟨kv[q]'(hlt q (List.mem_of_getElem? hq)), List.getElem?_eq_getElem _⟩
    have hkd : kv.getD q 0 = kq := by rw [List.getD_eq_getElem?_getD, hkq]; rfl
    obtain ⟨vj, hvj⟩ : ∃ vj, vs[j]? = some vj := ⟨vs[j]'(by omega), List.getElem?_eq_getElem _⟩
    obtain ⟨tq, rfl⟩ := hget j vj (Int.ofNat q) hvj (by rw [List.getElem?_map, hq]; rfl)
    have hqz : q < kv.length := hlt q (List.mem_of_getElem? hq)
    clear F1 N1 hr1
    k_steps
    refine id ?_
    refine item_in (v := .ref kq) (IsList.ext R1 F2.keep) (Int.natCast_nonneg _) (by omega) (by simp [hq]; rw [← hkd, List.getD_eq_getElem?_getD]) ?_
    k_steps
    refine id ?_
    refine item_in (v := .int (Int.ofNat q) tq) (IsList.ext R3 F2.keep) (Int.natCast_nonneg _) (by omega) (by simpa using hvj) ?_
    refine item_in (v := .ref kq) (IsList.ext R2 F2.keep) (Int.natCast_nonneg _) (show (q : Int) < 2 ^ 63 by omega) (by simp [hkq]) ?_
    k_steps
    exact CompEnd.same F2 N2 off trivial ⟨rfl, rfl⟩
end Mine
end PartH1

section PartH2
open PySem PySem.W PyProof.Rows PySem.Calls
set_option Elab.async false
set_option maxRecDepth 100000
set_option maxHeartbeats 4000000
set_option linter.unusedVariables false
set_option rowWalk.seconds 0
namespace Mine
theorem start_H2 {M : Model} {A : Around} {env : Env} {E : Value → Shared → Prop} {s : Shared} {Q : Flow → Shared → Prop} (h : Q .next s) : wpAny M A (execs [] env) Q E s := by
  w_top off
  walk1
  exact h
open TI (Frs SameUp)
open SeqAt
noncomputable def num27 (ns : List Int) (p : Nat) : Int := Int.fmod (ns.getD p 0) 27
noncomputable def recAt (ns : List Int) (p : Nat) : Rec := (Int.fmod (Int.fdiv (num27 ns p) 3) 3, Int.fdiv (num27 ns p) 9, (p : Int))
noncomputable def recsOf (q : Int) (ns : List Int) (i : Nat) : List Rec := ((List.range i).filter fun p => decide (Int.fmod (num27 ns p) 3 ≠ q)).map (recAt ns)
local macro_rules | `(tactic| walk_at "exec For") => `(tactic| (k_here; (with_reducible show wpAny _ _ (exec (Stmt.For _ _ _ _ _) _) _ _ _); refine wpAny_For ?_ (fun _ => rfl)))
local macro_rules | `(tactic| walk_at "exec For Name Call cons nil") => `(tactic| (k_here; (with_reducible show wpAny _ _ (exec (Stmt.For _ _ _ _ _) _) _ _ _); refine wpAny_For ?_ (fun _ => rfl)))
local macro_rules | `(tactic| walk_at "pyIter ref") => `(tactic| ((with_reducible show wpAny _ _ (pyIter (Value.ref _)) _ _ _); isplit))
local macro_rules | `(tactic| walk_at "compareOp NotEq int int") => `(tactic| isplit)
local macro_rules | `(tactic| walk_at "call builtin:list.append") => `(tactic| isplit)
local macro_rules | `(tactic| walk_at "And") => `(tactic| isplit)
local macro_rules | `(tactic| walk_at "subscriptTail Name Name ref int") => `(tactic| isplit)
local macro_rules | `(tactic| walk_at "exec If") => `(tactic| ((with_reducible show wpAny _ _ (exec (Stmt.If _ _ _ _) _) _ _ _); isplit))
theorem recsOf_yes {q : Int} {ns : List Int} {i : Nat} (h : Int.fmod (num27 ns i) 3 ≠ q) : recsOf q ns (i + 1) = recsOf q ns i ++ [recAt ns i] := by
  unfold recsOf; rw [List.range_succ, List.filter_append]; simp [h]
theorem recsOf_no {q : Int} {ns : List Int} {i : Nat} (h : Int.fmod (num27 ns i) 3 = q) : recsOf q ns (i + 1) = recsOf q ns i := by
  unfold recsOf; rw [List.range_succ, List.filter_append]; simp [h]
theorem recsOf_len {q : Int} {ns : List Int} {i : Nat} : (recsOf q ns i).length ≤ i := by
  unfold recsOf; rw [List.length_map]; exact Nat.le_trans (List.length_filter_le _ _) (by simp)
theorem snoc_ok {α β : Type} {rs : List α} {xs : List β} {r : α} {x : β} {P P' : α → β → Prop} (hl : rs.length = xs.length) (h : ∀ (j : Nat) r x, rs[j]? = some r → xs[j]? = some x → P r x) (hPQ : ∀ r x, P r x → P' r x) (hr : P' r x) : ∀ (j : Nat) r' x', (rs ++ [r])[j]? = some r' → (xs ++ [x])[j]? = some x' → P' r' x' := by
  intro j r' x' e1 e2
  by_cases hj : j < rs.length
  · rw [List.getElem?_append_left hj] at e1
    rw [List.getElem?_append_left (by omega)] at e2
    exact hPQ _ _ (h j r' x' e1 e2)
  · rw [List.getElem?_append_right (by omega)] at e1
    rw [List.getElem?_append_right (by omega)] at e2
    rw [hl] at e1
    cases hq : j - xs.length with
    | zero => rw [hq] at e1 e2; cases e1; cases e2; exact hr
    | succ q => rw [hq] at e1; simp at e1
theorem c_records {w : World} {A : Around} {s : Shared} {l1 : Addr} {ns : List Int} {vs : List Value} (H : Here w A [] s.heap) (hh : A.handled = none) (hd : A.depth + 30 < recursionLimit) (hu : A.units + 200 < cLine)
    (R1 : (view A [] s.heap).IsList l1 vs.toArray) (hi : IntsAre vs ns) (hz : ns.length ≤ 1000) :
    Quiet w A (call (.ref 86) [.ref l1]) s (fun r v => ∃ t a b rs1 rs2, r = .ref t ∧ IsTup v t #[.ref a, .ref b] ∧ RecRow v a rs1 (recsOf 1 ns ns.length) ∧ RecRow v b rs2 (recsOf 0 ns ns.length)) := by
  intro Q E ret
  have X := H.frag
  have XS := X.keeps view_le
  revert XS X; k_fill; intro X XS
  refine wpAny_call ?_
  k_dflt (refine' enter_m (cl := []) (hid := []) (news := []) H ?hN (XS 86 _ (by k_is)) ?hd (codeRec_of XS ?hc) ?hr ?hb ?hl ?_ ?hcell ?hco ?hg ?hk; (case hN => exact fun _ h => nomatch h); (case hd => exact rfl); (case hc => k_is); (case hr => omega); (case hb => exact BindsTo.of_eq rfl); (case hl => exact locs rfl); (case hcell => decide); (case hco => exact rfl); (case hg => exact rfl); (case hk => exact rfl))
  clear XS X
  intro l frs p loose mean mg mb L' h' I' X' T' F' N'
  have hl := I'.hl
  have Fs := I'.fs
  (obtain q81 : ∃ m0, Fr (view A [] s.heap) L' h' m0 ∧ m0 (Str.ofString "numbers") = some (.ref l1) := ⟨_, F', rfl⟩
   with_reducible refine x1_2 q81 fun m0 F0 hm0 => ?_
   clear q81)
  clear F'
  generalize hg : view A [] s.heap = g at *
  simp only [List.nil_append, List.cons_append] at N'
  (try dsimp only); (try k_fold)
  have hget := IntsAre.get hi
  have hv := hi.length
  generalize s.toks + List.length _ = tk0
  k_steps
  refine id ?_
  rename Fr _ _ _ _ => F1
  rename News _ _ _ _ => N1
  rename IsRange _ _ _ _ _ _ _ _ => hr1
  rename _ ∧ _ ∧ AllLt _ frs => q3
  rename _ ∧ AllLt _ frs => q2
  rename ∀ p ∈ frs, p.1 < _ => q1
  (obtain q91 : ∃ a b m1, Fr g L' _ m1 ∧ News g L' _ ((a, W.listOf #[] 0) :: (b, W.listOf #[] 0) :: frs) ∧ m1 (Str.ofString "numbers") = some (.ref l1) ∧ m1 (Str.ofString "first") = some (.ref a) ∧ m1 (Str.ofString "second") = some (.ref b) ∧ @LT.lt Nat _ a b ∧ ∀ p ∈ frs, @LT.lt Nat _ p.1 a :=
    (i3_7 _ _ _ F1 (fun p hp => N1 p (by
      refine mc1 hp ?_ fun hp => ?_
      · exact List.Mem.tail _ (List.Mem.tail _ (List.Mem.head _))
      · refine mc1 hp ?_ fun hp => ?_
        · exact List.Mem.tail _ (List.Mem.head _)
        · exact List.Mem.tail _ (List.Mem.tail _ (List.Mem.tail _ hp)))) (by kd_p) (by kd_p) (by kd_p) q2.1 q1)
   with_reducible refine x3_1 q91 fun a b m1 q9z => x0_7 q9z fun F1 N1 hn1 ha1 hb1 lab la => ?_
   clear q9z
   clear q91)
  clear q1 q2 q3
  refine iter_range F1 N1 hr1 hz ?_
  intro I h1 hIr F2 N2 gI hLI lLI hlI hoff
  have hbI : @LT.lt Nat _ b I := hlI _ (List.Mem.tail _ (List.Mem.head _))
  clear hr1 hlI hoff F1 N1
  dsimp only
  refine for_range hh (fun i h => ∃ m, ∃ rs1 rs2 : List Addr, ∃ c1 c2 things, Fr g L' h m ∧ News g L' h ((a, W.listOf (rs1.map Value.ref).toArray c1) :: (b, W.listOf (rs2.map Value.ref).toArray c2) :: (things ++ frs)) ∧ m (Str.ofString "numbers") = some (.ref l1) ∧ m (Str.ofString "first") = some (.ref a) ∧ m (Str.ofString "second") = some (.ref b) ∧
      (∀ p ∈ things, @LT.lt Nat _ I p.1 ∧ ∀ es n, p.2.data ≠ .dict es n) ∧ rs1.length = (recsOf 1 ns i).length ∧ rs2.length = (recsOf 0 ns i).length ∧
      (∀ (j : Nat) r x, rs1[j]? = some r → (recsOf 1 ns i)[j]? = some x → ∃ t0 t1 t2 n, (r, W.listOf #[.int x.1 t0, .int x.2.1 t1, .int x.2.2 t2] n) ∈ things) ∧
      (∀ (j : Nat) r x, rs2[j]? = some r → (recsOf 0 ns i)[j]? = some x → ∃ t0 t1 t2 n, (r, W.listOf #[.int x.1 t0, .int x.2.1 t1, .int x.2.2 t2] n) ∈ things)) hIr ?h0 ?step ?done
  case h0 => exact (i6_10 m1 [] [] _ _ [] F2 N2 hn1 ha1 hb1 (fun p hp => nomatch hp) rfl rfl (fun j r x e => by simp at e) (fun j r x e => by simp at e))
  case done =>
    (rintro h h1 tk' h9q; (with_reducible refine x6_1 h9q fun m rs1 rs2 c1 c2 things q9z => x0_10 q9z fun F3 N3 hn ha hb ht e1 e2 f1 f2 => ?_
                           clear q9z
                           try clear h9q); rintro hk)
    have F4 := LCg.fr_but F3 hk hLI gI
    have N4 := LCg.news_but N3 hk fun p hp => by
      refine mc1 hp ?_ fun hp => ?_
      · exact Nat.ne_of_lt (Nat.lt_trans lab hbI)
      · refine mc1 hp ?_ fun hp => ?_
        · exact Nat.ne_of_lt hbI
        · rcases List.mem_append.mp hp with hp | hp
          · exact Nat.ne_of_gt (ht p hp).1
          · exact Nat.ne_of_lt (Nat.lt_trans (la p hp) (Nat.lt_trans lab hbI))
    clear F3 N3 hk F2 N2
    dsimp only
    k_steps
    show Q _ _
    rename Fr _ _ _ _ => F9
    rename News _ _ _ _ => N9
    have vw := view_news hl Fs N9 (Split.cons (Split.cons (Split.cons Split.append)))
    have et := vw _ _ (List.Mem.head _) (fun _ _ q => by cases q)
    have ea := vw a _ (List.Mem.tail _ (List.Mem.head _)) (fun _ _ q => by cases q)
    have eb := vw b _ (List.Mem.tail _ (List.Mem.tail _ (List.Mem.head _))) (fun _ _ q => by cases q)
    have eth : ∀ p ∈ things, _ := fun p hp => vw p.1 p.2 (List.Mem.tail _ (List.Mem.tail _ (List.Mem.tail _ (List.mem_append_left _ hp)))) (ht p hp).2
    subst hg
    refine ret _ _ _ (ext_of I'.hl I'.fs I'.fr F9 N9 (SameUp.refl _) (Split.cons (Split.cons (Split.cons Split.append))) I'.above) ⟨_, a, b, rs1, rs2, rfl, i1_3 _ et rfl ⟨_, rfl⟩, ⟨(i1_3 _ ea rfl ⟨_, rfl⟩), e1, fun j r x q1 q2 => ?_⟩, ⟨(i1_3 _ eb rfl ⟨_, rfl⟩), e2, fun j r x q1 q2 => ?_⟩⟩
    · (obtain q92 := f1 j r x q1 q2
       with_reducible refine x4_1 q92 fun t0 t1 t2 n hm => ?_
       clear q92)
      exact (i4_3 t0 t1 t2 _ (eth _ hm) rfl ⟨_, rfl⟩)
    · (obtain q93 := f2 j r x q1 q2
       with_reducible refine x4_1 q93 fun t0 t1 t2 n hm => ?_
       clear q93)
      exact (i4_3 t0 t1 t2 _ (eth _ hm) rfl ⟨_, rfl⟩)
  case step =>
    (rintro i ti OI h h1 tk' E' hlt h9q; (with_reducible refine x6_1 h9q fun m rs1 rs2 c1 c2 things q9z => x0_10 q9z fun F3 N3 hn ha hb ht e1 e2 f1 f2 => ?_
                                          clear q9z
                                          try clear h9q); rintro hst hk)
    have F4 := LCg.fr_but F3 hk hLI gI
    have N4 := LCg.news_but N3 hk fun p hp => by
      refine mc1 hp ?_ fun hp => ?_
      · exact Nat.ne_of_lt (Nat.lt_trans lab hbI)
      · refine mc1 hp ?_ fun hp => ?_
        · exact Nat.ne_of_lt hbI
        · rcases List.mem_append.mp hp with hp | hp
          · exact Nat.ne_of_gt (ht p hp).1
          · exact Nat.ne_of_lt (Nat.lt_trans (la p hp) (Nat.lt_trans lab hbI))
    have N5 : News g L' h1 ((I, OI) :: _) := fun p hp => (List.mem_cons.mp hp).elim (fun e => e ▸ ⟨hst, Ne.symm hLI, gI⟩) (N4 p)
    clear F3 N3 N4 hk F2 N2
    obtain ⟨vj, hvj⟩ : ∃ vj, vs[i]? = some vj := ⟨vs[i]'(by omega), List.getElem?_eq_getElem _⟩
    have hnj : ns[i]? = some (ns.getD i 0) := by rw [List.getD_eq_getElem?_getD, List.getElem?_eq_getElem hlt]; rfl
    obtain ⟨tq, rfl⟩ := hget i vj _ hvj hnj
    refine wpAny_assign_Name ?_
    k_steps
    refine id ?_
    refine item_in (v := .int (ns.getD i 0) tq) (IsList.ext R1 (Fr.keep (by k_asm))) (Int.natCast_nonneg _) (by omega) (by simpa using hvj) ?_
    k_steps
    refine id ?_
    (obtain q94 : ∃ r u0 u1 m6, Fr g L' _ m6 ∧ News g L' _ ((r, W.listOf #[.int (recAt ns i).1 u0, .int (recAt ns i).2.1 u1, .int (recAt ns i).2.2 ti] 0) :: (I, OI) :: (a, W.listOf (rs1.map Value.ref).toArray c1) :: (b, W.listOf (rs2.map Value.ref).toArray c2) :: (things ++ frs)) ∧
        m6 (Str.ofString "numbers") = some (.ref l1) ∧ m6 (Str.ofString "first") = some (.ref a) ∧ m6 (Str.ofString "second") = some (.ref b) ∧ m6 (Str.ofString "record") = some (.ref r) ∧ (∃ tn, m6 (Str.ofString "n") = some (.int (num27 ns i) tn)) ∧ @LT.lt Nat _ I r := by
      rename Fr _ _ _ _ => F6
      rename News _ _ _ _ => N6
      rename _ ∧ _ ∧ _ ∧ AllLt _ _ => q4
      exact (i4_8 _ _ _ _ F6 N6 (by kd_p) (by kd_p) (by kd_p) (by kd_p) ⟨_, by kd_p⟩ q4.1)
     with_reducible refine x4_1 q94 fun r u0 u1 m6 q9z => x0_8 q9z fun F6 N6 hn6 ha6 hb6 hr6 q95 lr => ?_
     clear q9z
     clear q94
     obtain ⟨tn, hn7⟩ := q95)
    have N6 : News g L' _ ((I, OI) :: (a, W.listOf (rs1.map Value.ref).toArray c1) :: (b, W.listOf (rs2.map Value.ref).toArray c2) :: (((r, W.listOf #[.int (recAt ns i).1 u0, .int (recAt ns i).2.1 u1, .int (recAt ns i).2.2 ti] 0) :: things) ++ frs)) := fun p hp => N6 p (by
      refine mc1 hp ?_ fun hp => ?_
      · exact List.Mem.tail _ (List.Mem.head _)
      · refine mc1 hp ?_ fun hp => ?_
        · exact List.Mem.tail _ (List.Mem.tail _ (List.Mem.head _))
        · refine mc1 hp ?_ fun hp => ?_
          · exact List.Mem.tail _ (List.Mem.tail _ (List.Mem.tail _ (List.Mem.head _)))
          · refine mc1 hp ?_ fun hp => ?_
            · exact List.Mem.head _
            · exact List.Mem.tail _ (List.Mem.tail _ (List.Mem.tail _ (List.Mem.tail _ hp))))
    have ht' : ∀ p ∈ (r, W.listOf #[.int (recAt ns i).1 u0, .int (recAt ns i).2.1 u1, .int (recAt ns i).2.2 ti] 0) :: things, @LT.lt Nat _ I p.1 ∧ ∀ es n, p.2.data ≠ .dict es n := fun p hp => by
      refine mc1 hp ?_ fun hp => ?_
      · exact ⟨lr, fun _ _ q => by cases q⟩
      · exact ht p hp
    have hmR : (r, W.listOf #[.int (recAt ns i).1 u0, .int (recAt ns i).2.1 u1, .int (recAt ns i).2.2 ti] 0) ∈ (r, W.listOf #[.int (recAt ns i).1 u0, .int (recAt ns i).2.1 u1, .int (recAt ns i).2.2 ti] 0) :: things := List.Mem.head _
    have hsub : ∀ p ∈ things, p ∈ (r, W.listOf #[.int (recAt ns i).1 u0, .int (recAt ns i).2.1 u1, .int (recAt ns i).2.2 ti] 0) :: things := fun p hp => List.mem_cons_of_mem _ hp
    generalize (r, W.listOf #[.int (recAt ns i).1 u0, .int (recAt ns i).2.1 u1, .int (recAt ns i).2.2 ti] 0) :: things = things' at *
    have offa : ∀ p ∈ (b, W.listOf (rs2.map Value.ref).toArray c2) :: (things' ++ frs), p.1 ≠ a := fun p hp => by
      refine mc1 hp ?_ fun hp => ?_
      · exact Nat.ne_of_gt lab
      · rcases List.mem_append.mp hp with hp | hp
        · exact Nat.ne_of_gt (Nat.lt_trans lab (Nat.lt_trans hbI (ht' p hp).1))
        · exact Nat.ne_of_lt (la p hp)
    have hz1 := @recsOf_len 1 ns i
    have hz2 := @recsOf_len 0 ns i
    refine id ?_
    refine wpAny_mono (Q := fun f s' => f = .next ∧ ∃ h tk, ∃ rs1' : List Addr, ∃ c1', s' = { s with heap := h, toks := tk } ∧ Fr g L' h m6 ∧ News g L' h ((I, OI) :: (a, W.listOf (rs1'.map Value.ref).toArray c1') :: (b, W.listOf (rs2.map Value.ref).toArray c2) :: (things' ++ frs)) ∧ rs1' = (if (num27 ns i).fmod 3 = 1 then rs1 else rs1 ++ [r])) ?if1 ?rest1 (fun _ _ e => e)
    case if1 =>
      refine wpAny_If ?_
      k_steps
      refine id ?_
      refine PyProof.Rows.ne_int ?_
      by_cases hq : (num27 ns i).fmod 3 = 1
      · rw [show ((num27 ns i).fmod 3 != 1) = false by rw [hq]; rfl]
        k_steps
        refine id ?_
        exact ⟨rfl, (i4_4 _ _ rs1 c1 rfl F6 N6 ((if_pos hq).symm))⟩
      · rw [show ((num27 ns i).fmod 3 != 1) = true by simpa using hq]
        k_steps
        refine id ?_
        refine append_L F6 (news := (I, OI) :: (b, W.listOf (rs2.map Value.ref).toArray c2) :: (things' ++ frs)) (fun p hp => N6 p ?_) (N6 (a, _) (List.Mem.tail _ (List.Mem.head _))) (fun p hp => ?_) (by rw [List.size_toArray, List.length_map, sizeLine_eq]; omega) ?_
        · refine mc1 hp ?_ fun hp => ?_
          · exact List.Mem.head _
          · exact List.Mem.tail _ (List.Mem.tail _ hp)
        · refine mc1 hp ?_ fun hp => ?_
          · exact Nat.ne_of_gt (Nat.lt_trans lab hbI)
          · exact offa p hp
        intro h3 c3 F8 N8
        clear F6 N6
        k_steps
        refine id ?_
        refine ⟨rfl, (i4_4 h3 _ (rs1 ++ [r]) c3 rfl F8 (fun p hp => ?_) ((if_neg hq).symm))⟩
        refine mc1 hp ?_ fun hp => ?_
        · exact N8 _ (List.Mem.tail _ (List.Mem.head _))
        · refine mc1 hp ?_ fun hp => ?_
          · have e : ((rs1.map Value.ref).toArray.push (Value.ref r)) = ((rs1 ++ [r]).map Value.ref).toArray := by simp
            exact e ▸ N8 _ (List.Mem.head _)
          · exact N8 p (List.Mem.tail _ (List.Mem.tail _ hp))
    case rest1 =>
      (rintro f s7 h9q; (with_reducible refine x0_2 h9q fun r96 q97 => ?_
                         try clear h9q
                         obtain rfl := r96
                         with_reducible refine x4_4 q97 fun h7 tk7 rs1' c1' r98 F7 N7 hrs1 => ?_
                         clear q97
                         obtain rfl := r98))
      clear F6 N6
      dsimp only
      k_steps
      refine id ?_
      refine wpAny_mono (Q := fun f s' => f = .next ∧ ∃ h tk, ∃ rs2' : List Addr, ∃ c2', s' = { s with heap := h, toks := tk } ∧ Fr g L' h m6 ∧ News g L' h ((I, OI) :: (a, W.listOf (rs1'.map Value.ref).toArray c1') :: (b, W.listOf (rs2'.map Value.ref).toArray c2') :: (things' ++ frs)) ∧ rs2' = (if (num27 ns i).fmod 3 = 0 then rs2 else rs2 ++ [r])) ?if2 ?rest2 (fun _ _ e => e)
      case if2 =>
        refine wpAny_If ?_
        k_steps
        refine id ?_
        refine PyProof.Rows.ne_int ?_
        by_cases hq : (num27 ns i).fmod 3 = 0
        · rw [show ((num27 ns i).fmod 3 != 0) = false by rw [hq]; rfl]
          k_steps
          refine id ?_
          exact ⟨rfl, (i4_4 _ _ rs2 c2 rfl F7 N7 ((if_pos hq).symm))⟩
        · rw [show ((num27 ns i).fmod 3 != 0) = true by simpa using hq]
          k_steps
          refine id ?_
          refine append_L F7 (news := (I, OI) :: (a, W.listOf (rs1'.map Value.ref).toArray c1') :: (things' ++ frs)) (fun p hp => N7 p ?_) (N7 (b, _) (List.Mem.tail _ (List.Mem.tail _ (List.Mem.head _)))) (fun p hp => ?_) (by rw [List.size_toArray, List.length_map, sizeLine_eq]; omega) ?_
          · refine mc1 hp ?_ fun hp => ?_
            · exact List.Mem.head _
            · refine mc1 hp ?_ fun hp => ?_
              · exact List.Mem.tail _ (List.Mem.head _)
              · exact List.Mem.tail _ (List.Mem.tail _ (List.Mem.tail _ hp))
          · refine mc1 hp ?_ fun hp => ?_
            · exact Nat.ne_of_gt hbI
            · refine mc1 hp ?_ fun hp => ?_
              · exact Nat.ne_of_lt lab
              · rcases List.mem_append.mp hp with hp | hp
                · exact Nat.ne_of_gt (Nat.lt_trans hbI (ht' p hp).1)
                · exact Nat.ne_of_lt (Nat.lt_trans (la p hp) lab)
          intro h3 c3 F8 N8
          clear F7 N7
          k_steps
          refine id ?_
          refine ⟨rfl, (i4_4 h3 _ (rs2 ++ [r]) c3 rfl F8 (fun p hp => ?_) ((if_neg hq).symm))⟩
          refine mc1 hp ?_ fun hp => ?_
          · exact N8 _ (List.Mem.tail _ (List.Mem.head _))
          · refine mc1 hp ?_ fun hp => ?_
            · exact N8 _ (List.Mem.tail _ (List.Mem.tail _ (List.Mem.head _)))
            · refine mc1 hp ?_ fun hp => ?_
              · have e : ((rs2.map Value.ref).toArray.push (Value.ref r)) = ((rs2 ++ [r]).map Value.ref).toArray := by simp
                exact e ▸ N8 _ (List.Mem.head _)
              · exact N8 p (List.Mem.tail _ (List.Mem.tail _ (List.Mem.tail _ hp)))
      case rest2 =>
        (rintro f s8 h9q; (with_reducible refine x0_2 h9q fun r99 q910 => ?_
                           try clear h9q
                           obtain rfl := r99
                           with_reducible refine x4_4 q910 fun h8 tk8 rs2' c2' r911 F8 N8 hrs2 => ?_
                           clear q910
                           obtain rfl := r911))
        clear F7 N7
        dsimp only
        k_steps
        refine id ?_
        refine ⟨rfl, (i2_3 h8 _ rfl (i6_10 m6 rs1' rs2' c1' c2' things' F8 (fun p hp => N8 p (List.Mem.tail _ hp)) hn6 ha6 hb6 ht' ?_ ?_ ?_ ?_) ((N8 _ (List.Mem.head _)).1))⟩
        · by_cases hq : (num27 ns i).fmod 3 = 1
          · rw [hrs1, if_pos hq, recsOf_no hq]; exact e1
          · rw [hrs1, if_neg hq, recsOf_yes hq]; simp [e1]
        · by_cases hq : (num27 ns i).fmod 3 = 0
          · rw [hrs2, if_pos hq, recsOf_no hq]; exact e2
          · rw [hrs2, if_neg hq, recsOf_yes hq]; simp [e2]
        · by_cases hq : (num27 ns i).fmod 3 = 1
          · rw [hrs1, if_pos hq, recsOf_no hq]
            exact fun j r x q1 q2 => let ⟨t0, t1, t2, n, hm⟩ := f1 j r x q1 q2; (i4_1 t0 t1 t2 n (hsub _ hm))
          · rw [hrs1, if_neg hq, recsOf_yes hq]
            exact snoc_ok e1 f1 (fun r x ⟨t0, t1, t2, n, hm⟩ => (i4_1 t0 t1 t2 n (hsub _ hm))) (i4_1 _ _ _ _ hmR)
        · by_cases hq : (num27 ns i).fmod 3 = 0
          · rw [hrs2, if_pos hq, recsOf_no hq]
            exact fun j r x q1 q2 => let ⟨t0, t1, t2, n, hm⟩ := f2 j r x q1 q2; (i4_1 t0 t1 t2 n (hsub _ hm))
          · rw [hrs2, if_neg hq, recsOf_yes hq]
            exact snoc_ok e2 f2 (fun r x ⟨t0, t1, t2, n, hm⟩ => (i4_1 t0 t1 t2 n (hsub _ hm))) (i4_1 _ _ _ _ hmR)
end Mine
end PartH2

section PartL0
open PySem PySem.W PyProof.Rows PySem.Calls
set_option Elab.async false
set_option maxRecDepth 100000
set_option maxHeartbeats 4000000
set_option linter.unusedVariables false
set_option rowWalk.seconds 0
namespace Mine
open TI (Frs SameUp)
open SeqAt
structure Scn (A : Around) (l : List Env) (frs things : List (Addr × Obj)) (g V : Heap) (L : Addr) : Prop where
  hl : A.frames = some l
  Fs : Frs l frs
  hap : ∀ p ∈ things, p.1 ∉ frs.map (·.1)
  cl : ∀ v, g.StaysIn v → (∀ p ∈ things, v.get? p.1 = some p.2) → V.StaysIn v
  gv : g.StaysIn V
  tv : ∀ p ∈ things, V.get? p.1 = some p.2
section
variable {w : World} {A : Around} {l : List Env} {frs things news new : List (Addr × Obj)} {g V h h' : Heap} {L : Addr} {m : Str → Option Value} {p : Program} {loose : List Str} {mean : ExcName → Option Value} {mg mb : Str → Option Value} {env : Env}
theorem Scn.heap (S : Scn A l frs things g V L) (F : Fr g L h m) (N : News g L h news) (hm : ∀ p ∈ things, p ∈ news) : V.StaysIn h := S.cl h F.keep fun p hp => (N p (hm p hp)).1
theorem Scn.seen (S : Scn A l frs things g V L) (F : Fr g L h m) (N : News g L h (new ++ frs)) (hm : ∀ p ∈ things, p ∈ new) (hf : env.frame = some L) : V.StaysIn (Mine.view (A.deeper env) [] h) :=
  S.cl _ (in_view F N Split.append S.Fs S.hl hf) fun p hp => by
    have z := N p (List.mem_append_left _ (hm p hp))
    refine view_of ?_ z.1
    rw [List.nil_append, fsA_deeper S.hl hf, show fsA A = frs.map (·.1) by unfold fsA; rw [S.hl]; exact S.Fs.addrs]
    intro q
    rcases List.mem_cons.mp q with q | q
    · exact z.2.1 q
    · exact S.hap p hp q
theorem new_view {a : Addr} {o : Obj} (S : Scn A l frs things g V L) (N : News g L h (new ++ frs)) (hn : (a, o) ∈ new) (na : a ∉ frs.map (·.1)) (hf : env.frame = some L) : (PySem.Heap.get? (Mine.view (A.deeper env) [] h) a) = some o := by
  have z := N _ (List.mem_append_left _ hn)
  refine view_of ?_ z.1
  rw [List.nil_append, fsA_deeper S.hl hf, show fsA A = frs.map (·.1) by unfold fsA; rw [S.hl]; exact S.Fs.addrs]
  intro q
  rcases List.mem_cons.mp q with q | q
  · exact z.2.1 q
  · exact na q
theorem Scn.here (S : Scn A l frs things g V L) (F : Fr g L h m) (N : News g L h (new ++ frs)) (X : (Mine.hd.heap_1 w.params).In g) (T : Top p loose mean mg mb g) (hf : env.frame = some L := by rfl) (hk : env.scope.kind = .function := by rfl) : Here w (A.deeper env) [] h :=
  here_of S.hl S.Fs F N Split.append X T hf hk
theorem Scn.make (env : Env) (hl : A.frames = some l) (Fs : Frs l frs) (F : Fr g L h m) (N : News g L h (new ++ frs)) (ha : ∀ p ∈ new, p.1 ∉ frs.map (·.1)) (hf : env.frame = some L) :
    ∃ things, Scn A l frs things g (Mine.view (A.deeper env) [] h) L ∧ News g L h (things ++ frs) ∧ ∀ p ∈ new, p ∈ things := by
  (obtain q91 := settle hl Fs F N
   with_reducible refine x1_4 q91 fun things N' ap all cl => ?_
   clear q91)
  exact (i1_3 things ⟨hl, Fs, ap, fun v h1 h2 => cl v h1 h2 env hf, in_view F N Split.append Fs hl hf, fun p hp => by
    have z := N' p (List.mem_append_left _ hp)
    refine view_of ?_ z.1
    rw [List.nil_append, fsA_deeper hl hf, show fsA A = frs.map (·.1) by unfold fsA; rw [hl]; exact Fs.addrs]
    intro q
    rcases List.mem_cons.mp q with q | q
    · exact z.2.1 q
    · exact ap p hp q⟩ N' (fun p hp => all p hp (ha p hp)))
theorem Scn.back (S : Scn A l frs things g V L) (F : Fr g L h m) (N : News g L h (new ++ frs)) (hm : ∀ p ∈ things, p ∈ new) (ha : ∀ p ∈ new, p.1 ∉ frs.map (·.1)) (hf : env.frame = some L) (e : Ext (A.deeper env) [] h h') :
    ∃ frs' things', SameUp frs frs' ∧ Scn A l frs' things' g (Mine.view (A.deeper env) [] h') L ∧ Fr g L h' m ∧ News g L h' (things' ++ frs') ∧ (∀ p ∈ new, p ∈ things') ∧ V.StaysIn (Mine.view (A.deeper env) [] h') := by
  (obtain q92 := Mine.back S.hl S.Fs F N Split.append hf ha e
   with_reducible refine x1_4 q92 fun frs' SU Fs' F' N' => ?_
   clear q92)
  (obtain q93 := Scn.make env S.hl Fs' F' N' (fun p hp q => ha p hp (sameUp_map SU q)) hf
   with_reducible refine x1_3 q93 fun things' S' N2 all => ?_
   clear q93)
  exact ⟨frs', things', SU, S', F', N2, all, StaysIn.trans (S.seen F N hm hf) e.keep⟩
end
theorem range_told (ks : List Addr) : ∀ (n i : Nat), i + n = ks.length → ((List.range' i n).map fun p => Value.ref (ks.getD p 0)) = (ks.map Value.ref).drop i := by
  intro n
  induction n with
  | zero => intro i h; rw [List.drop_eq_nil_of_le (by simp; omega)]; rfl
  | succ n ih =>
    intro i h
    have hi : i < ks.length := by omega
    rw [List.range'_succ, List.map_cons, ih (i + 1) (by omega), List.getD_eq_getElem?_getD, List.getElem?_eq_getElem hi]
    rw [show (ks.map Value.ref).drop i = (ks.map Value.ref)[i]'(by simpa using hi) :: (ks.map Value.ref).drop (i + 1) from (List.drop_eq_getElem_cons _)]
    simp
theorem told_places {ks : List Addr} {ms : List Nat} {i : Nat} (h : ∀ j ∈ ms, j < ks.length) (hi : i ≤ ks.length) : told ks ms i = (ms ++ List.range' i (ks.length - i)).map fun p => Value.ref (ks.getD p 0) := by
  unfold told
  rw [List.map_append, range_told ks _ _ (by omega)]
  congr 1
  induction ms with
  | nil => rfl
  | cons m ms ih =>
    have hm : m < ks.length := h m (List.Mem.head _)
    rw [List.filterMap_cons, List.getElem?_eq_getElem hm]
    simp only [Option.map_some]
    rw [List.map_cons, ih fun j hj => h j (List.Mem.tail _ hj), List.getD_eq_getElem?_getD, List.getElem?_eq_getElem hm]
    rfl
theorem row_range (ks : List Addr) : (ks.map Value.ref) = (List.range ks.length).map fun p => Value.ref (ks.getD p 0) := by
  rw [List.range_eq_range', range_told ks _ _ (by omega), List.drop_zero]
end Mine
end PartL0

section PartG4
open PySem PySem.W PyProof.Rows PySem.Calls
set_option Elab.async false
set_option maxRecDepth 100000
set_option maxHeartbeats 4000000
set_option linter.unusedVariables false
set_option rowWalk.seconds 0
namespace Mine
theorem start_G4 {M : Model} {A : Around} {env : Env} {E : Value → Shared → Prop} {s : Shared} {Q : Flow → Shared → Prop} (h : Q .next s) : wpAny M A (execs [] env) Q E s := by
  w_top off
  walk1
  exact h
open SeqAt AutoSeq1 MeetsSeq MeetsSeq2 MeetsSeq3 SeqRoads2
theorem ne_loop (l b : Addr) (items items2 : Array Value) (n n2 : Nat) (dd dd2 : Option Addr) (sl sl2 : Array (Option Value)) (hsz : items.size = items2.size) (k : Nat) :
    ∀ i : Nat, items.size - i = k → Meets (Builtin.«list.__eq__.loop» ⟨[.ref l, .ref b, rawInt i, rawInt 3], []⟩)
      (fun A R s => s.heap.get? l = some { cls := .type "list", dict := dd, data := .seq items n, slots := sl } ∧ s.heap.get? b = some { cls := .type "list", dict := dd2, data := .seq items2 n2, slots := sl2 } ∧
        (∀ j (h1 : j < items.size) (h2 : j < items2.size), EqAt A.in1 s items[j] items2[j] true) ∧
        R (.ok (.ret (.bool false))) s) := by
  induction k with
  | zero =>
    intro i hk prog w A R s h
    obtain ⟨hp, g, d, tk, os⟩ := s; (have q91 := h
                                     clear h
                                     with_reducible refine x0_4 q91 fun hl hb he h => ?_
                                     clear q91)
    have hi1 : items[((i : Nat) : Int).toNat]? = none := by simp; omega
    have hi2 : items2[((i : Nat) : Int).toNat]? = none := by simp; omega
    wp_walk using wpAny_loadPart' hl, wpAny_loadPart' hb
    rw [hi1, hi2]
    wp_walk using wpAny_loadPart' hl, wpAny_loadPart' hb
    show R (.ok (.ret (.bool (items.size != items2.size)))) _
    rw [hsz]; simpa using h
  | succ k ih =>
    intro i hk prog w A R s h
    obtain ⟨hp, g, d, tk, os⟩ := s; (have q92 := h
                                     clear h
                                     with_reducible refine x0_4 q92 fun hl hb he h => ?_
                                     clear q92)
    have hlt : i < items.size := by omega
    have hlt2 : i < items2.size := by omega
    have hi1 : items[((i : Nat) : Int).toNat]? = some items[i] := by simp [hlt]
    have hi2 : items2[((i : Nat) : Int).toNat]? = some items2[i] := by simp [hlt2]
    have hc : ((i : Int) + 1) = ((i + 1 : Nat) : Int) := by push_cast; rfl
    wp_walk using wpAny_loadPart' hl, wpAny_loadPart' hb
    rw [hi1, hi2]
    refine wpAny_bind (he i hlt hlt2 prog w _ _ ?_)
    wp_walk
    rw [hc]
    exact ⟨plainId_quiet plain_eq_loop _, codeAny_builtin entry_eq_loop (by
      rw [Around.under_plainId plain_eq_loop _]
      exact ih (i + 1) (by omega) prog w A R _ ⟨hl, hb, he, h⟩)⟩
theorem list_ne_all (l b : Addr) (items items2 : Array Value) (n n2 : Nat) (dd dd2 : Option Addr) (sl sl2 : Array (Option Value)) (hsz : items.size = items2.size) :
    Meets (Builtin.«list.__ne__» ⟨[.ref l, .ref b], []⟩)
      (fun A R s => s.heap.get? l = some { cls := .type "list", dict := dd, data := .seq items n, slots := sl } ∧ s.heap.get? b = some { cls := .type "list", dict := dd2, data := .seq items2 n2, slots := sl2 } ∧
        (∀ j (h1 : j < items.size) (h2 : j < items2.size), EqAt A.in1 s items[j] items2[j] true) ∧
        R (.ok (.ret (.bool false))) s) := by
  intro prog w A R s h
  have k := ne_loop l b items items2 n n2 dd dd2 sl sl2 hsz _ 0 rfl prog w A R s h
  obtain ⟨hp, g, d, tk, os⟩ := s; (have q93 := h
                                   clear h
                                   with_reducible refine x0_4 q93 fun hl hb he h => ?_
                                   clear q93)
  have f3 := AutoSeq1.sub_list_list
  have hne : ¬ (items.size != items2.size) = true := by simp [hsz]
  wp_walk using wpAny_loadPart' hl, wpAny_loadPart' hb
  exact ⟨plainId_quiet plain_eq_loop _, codeAny_builtin entry_eq_loop (by
    rw [Around.under_plainId plain_eq_loop _]
    exact k)⟩
theorem ne_all {prog : Program} {w : World} {A : Around} {E : Value → Shared → Prop} {s : Shared} {l b : Addr} {items items2 : Array Value} {Q : Value → Shared → Prop} (hl : s.heap.IsList l items) (hb : s.heap.IsList b items2) (hsz : items.size = items2.size) (hu : A.units < cLine)
    (he : ∀ j (h1 : j < items.size) (h2 : j < items2.size), EqAt A.in1 s items[j] items2[j] true) (h : Q (.bool false) s) : wpAny (model prog w) A (compareOp .NotEq (.ref l) (.ref b)) Q E s := by
  (obtain q94 := id hl
   refine x1_3 q94 fun q95 ho hc q96 => ?_
   clear q94
   obtain ⟨cls, dd, data, sl⟩ := q95
   with_reducible refine x1_1 q96 fun n hd => ?_
   clear q96)
  (obtain q97 := id hb
   refine x1_3 q97 fun q98 ho2 hc2 q99 => ?_
   clear q97
   obtain ⟨cls2, dd2, data2, sl2⟩ := q98
   with_reducible refine x1_1 q99 fun n2 hd2 => ?_
   clear q99)
  simp only at hc hd hc2 hd2
  subst hc hd hc2 hd2
  exact richCompare_meets_room (op := .NotEq) ⟨_, ho, rfl⟩ ⟨_, ho2, rfl⟩ F.slot_list_ne F.entry_list_ne (F.args_list_ne_2 _ _) (list_ne_all l b items items2 n n2 dd dd2 sl sl2 hsz)
      ⟨ho, ho2, he, show Value.bool false ≠ Value.notImplemented ∧ Q (.bool false) s from ⟨(fun x => nomatch x), h⟩⟩ hu
theorem same_lists {A : Around} {s : Shared} {a b : Addr} {xs : Array Value} (ha : s.heap.IsList a xs) (hb : s.heap.IsList b xs) (hu : A.units < cLine) : EqAt A s (.ref a) (.ref b) true := by
  by_cases hne : a = b
  · subst hne; exact EqAt.same _
  · have K := RcAt.lists (e := fun _ => true) ha hb rfl hu (fun j _ _ => EqAt.same _)
    have e : ((List.range xs.size).all fun _ => true) = true := by simp
    rw [e] at K
    exact EqAt.of_refs hne K
theorem ne_rows {prog : Program} {w : World} {A : Around} {E : Value → Shared → Prop} {s : Shared} {l b a1 a2 b1 b2 : Addr} {xs ys : Array Value} {Q : Value → Shared → Prop} (hl : s.heap.IsList l #[.ref a1, .ref a2]) (hb : s.heap.IsList b #[.ref b1, .ref b2])
    (h1 : s.heap.IsList a1 xs) (h2 : s.heap.IsList a2 ys) (k1 : s.heap.IsList b1 xs) (k2 : s.heap.IsList b2 ys) (hu : A.units + 1 < cLine) (h : Q (.bool false) s) : wpAny (model prog w) A (compareOp .NotEq (.ref l) (.ref b)) Q E s :=
  ne_all hl hb rfl (by omega) (fun j q1 q2 => by
    match j, q1, q2 with
    | 0, _, _ => exact same_lists h1 k1 (by show A.units + 1 < _; omega)
    | 1, _, _ => exact same_lists h2 k2 (by show A.units + 1 < _; omega)
    | j + 2, q1, _ => exact absurd (show j + 2 < 2 from q1) (by omega)) h
end Mine
end PartG4

section MacD
open PySem PySem.W PyProof.Rows PySem.Calls in
local macro_rules | `(tactic| k_mem) => `(tactic| first | exact Mine.mem_deep (by assumption) | exact List.mem_append_left _ (by assumption) | (refine List.Mem.tail _ ?_; k_mem))
open PySem PySem.W PyProof.Rows PySem.Calls in
local macro_rules | `(tactic| walk_at "call type:list") => `(tactic| isplit)
open PySem PySem.W PyProof.Rows PySem.Calls in
local macro_rules | `(tactic| walk_at "call ref") => `(tactic| ((with_reducible show wpAny _ _ (call (Value.ref _) _) _ _ _); isplit))
open PySem PySem.W PyProof.Rows PySem.Calls in
local macro_rules | `(tactic| walk_at "subscriptTail Name Constant ref int") => `(tactic| isplit)
open PySem PySem.W PyProof.Rows PySem.Calls in
local macro_rules | `(tactic| walk_at "call builtin:isinstance") => `(tactic| isplit)
open PySem PySem.W PyProof.Rows PySem.Calls in
local macro_rules | `(tactic| walk_at "call builtin:len") => `(tactic| isplit)
section PartK2
open PySem PySem.W PyProof.Rows PySem.Calls
set_option Elab.async false
set_option maxRecDepth 100000
set_option maxHeartbeats 4000000
set_option linter.unusedVariables false
set_option rowWalk.seconds 0
namespace Mine
theorem start_K2 {M : Model} {A : Around} {env : Env} {E : Value → Shared → Prop} {s : Shared} {Q : Flow → Shared → Prop} (h : Q .next s) : wpAny M A (execs [] env) Q E s := by
  w_top off
  walk1
  exact h
open TI (Frs SameUp)
open SeqAt
noncomputable def lsBody : List Stmt := match theDef "_law_sorted" with | .FunctionDef _ _ b .. => b | _ => []
noncomputable def lsScope : Scope := match theDef "_law_sorted" with | .FunctionDef _ _ _ _ _ _ sc .. => sc | _ => default
noncomputable def ownN (rows1 rows2 : List (List Int)) : List Nat := (List.range rows1.length).filter (ownB rows1 rows2)
noncomputable def ToldOk (c : Rec → Rec → Int) (xs ys : List Rec) (rows1 rows2 : List (List Int)) : Prop := ∀ i j ms us, Reach c xs ys i j ms us true → (∀ p ∈ ms, p < xs.length) ∧ (∀ p ∈ us, p < ys.length) ∧ i ≤ xs.length ∧ j ≤ ys.length ∧ ms ++ List.range' i (xs.length - i) = ownN rows1 rows2 ∧ us ++ List.range' j (ys.length - j) = ownN rows2 rows1
theorem KeyCls.ext {w : World} {v v' : Heap} {C : Addr} {c : Rec → Rec → Int} (x : KeyCls w v C c) (e : v.StaysIn v') : KeyCls w v' C c :=
  ⟨fun A s r hv => x.make A s r (StaysIn.trans e hv), fun A s k1 k2 a b hv => x.lt A s k1 k2 a b (StaysIn.trans e hv), fun A s k1 k2 a b hv => x.gt A s k1 k2 a b (StaysIn.trans e hv), fun A s k1 k2 a b hv => x.eq A s k1 k2 a b (StaysIn.trans e hv)⟩
theorem rangeKs_zero (n : Nat) : rangeKs 0 n = (List.range n).map Int.ofNat := by unfold rangeKs; simp
theorem AllLt.mem {D : Addr} : ∀ {l : List (Addr × Obj)}, AllLt D l → ∀ p ∈ l, p.1 < D
  | [], _, _, h => nomatch h
  | _ :: _, x, p, h => by
    refine mc1 h ?_ fun h => ?_
    · exact x.1
    · exact AllLt.mem x.2 p h
theorem lt_notin {a : Addr} {frs : List (Addr × Obj)} (h : ∀ q ∈ frs, q.1 < a) : a ∉ frs.map (·.1) := fun q => by
  (obtain q81 := List.mem_map.mp q
   with_reducible refine x1_2 q81 fun x hx e => ?_
   clear q81)
  exact Nat.ne_of_lt (h x hx) e
theorem ls_rest {w : World} {A : Around} {s : Shared} {l : List Env} {frs things : List (Addr × Obj)} {g V : Heap} {L DR D1 D2 KR K1 K2 rules C : Addr} {m : Str → Option Value} {o2 : Obj} {ks1 ks2 rs1 rs2 : List Addr} {xs ys : List Rec} {ru : List (Int × Int)} {c : Rec → Rec → Int} {p : Program} {loose : List Str} {mean : ExcName → Option Value} {mg mb : Str → Option Value} {Q : Flow → Shared → Prop} {E : Value → Shared → Prop}
    (S : Scn A l frs things g V L) (hh : A.handled = none) (hd : A.depth + 80 < recursionLimit) (hu : A.units + 1000 < cLine) (X' : (Mine.hd.heap_1 w.params).In g) (T' : Top p loose mean mg mb g) (F : Fr g L s.heap m) (N : News g L s.heap (things ++ frs))
    (tR : (L + 1, o2) ∈ things) (d2 : o2.data = .cell (some (.ref rules))) (hm1 : m (Str.ofString "rows") = some (.ref DR)) (hm2 : m (Str.ofString "keys") = some (.ref KR))
    (tDR : V.IsList DR #[.ref D1, .ref D2]) (tKR : V.IsList KR #[.ref K1, .ref K2]) (R1 : RecRow V D1 rs1 xs) (R2 : RecRow V D2 rs2 ys) (Q1 : KeyRow V C K1 ks1 xs) (Q2 : KeyRow V C K2 ks2 ys)
    (z1 : xs.length < 60) (z2 : ys.length < 60) (P : PairRow V rules ru) (hr2 : ru.length ≤ 2) (hru : ∀ r ∈ ru, r.1 = 0 ∨ r.1 = 1) (KC : KeyCls w V C c) (told_ok : ToldOk c xs ys (xs.map (rankOf ru)) (ys.map (rankOf ru)))
    (ret : ∀ h tk frs' m', SameUp frs frs' → Frs l frs' → Fr g L h m' → News g L h frs' → V.StaysIn h → Q (.ret (.bool true)) { s with heap := h, toks := tk }) :
    wpAny (model Challenge.rw_mg0030_01.row.prog w) (A.deeper (envOfC (Str.ofString "_law_sorted") lsScope L 106 (.ref 105))) (execs (lsBody.drop 4) (envOfC (Str.ofString "_law_sorted") lsScope L 106 (.ref 105))) Q E s := by
  generalize hb : lsBody.drop 4 = body
  generalize hs : lsScope = scope
  conv at hb => lhs; whnf
  conv at hs => lhs; whnf
  subst hb hs
  revert X'
  k_fill
  intro X'
  k_steps
  unfold Stop
  refine item_in (IsList.ext tKR (S.heap F N fun p hp => List.mem_append_left _ hp)) (by decide) (by decide) (show _ = some (Value.ref K1) from rfl) ?_
  k_steps
  unfold Stop
  refine list_copyK F N (IsList.ext Q1.list (S.heap F N fun p hp => List.mem_append_left _ hp)) (fun O1 q1 h1 F1 N1 lt1 => ?_) (by rw [sizeLine_eq]; simp [Q1.len]; omega)
  k_steps
  unfold Stop
  have sub1 : ∀ p ∈ things, p ∈ (O1, listOf (ks1.map Value.ref).toArray q1) :: (things ++ frs) := fun p hp => List.Mem.tail _ (List.mem_append_left _ hp)
  refine item_in (IsList.ext tKR (S.heap F1 N1 sub1)) (by decide) (by decide) (show _ = some (Value.ref K2) from rfl) ?_
  k_steps
  unfold Stop
  refine list_copyK F1 N1 (IsList.ext Q2.list (S.heap F1 N1 sub1)) (fun O2 q2 h2 F2 N2 lt2 => ?_) (by rw [sizeLine_eq]; simp [Q2.len]; omega)
  k_steps
  unfold Stop
  rename_i T3 h31 l3 h32 h33 h3 F3_0 N3_0
  (obtain q91 : ∃ m3, Fr g L h3 m3 ∧ m3 (Str.ofString "rows") = some (.ref DR) ∧ m3 (Str.ofString "keys") = some (.ref KR) ∧ m3 (Str.ofString "one") = some (.ref O1) ∧ m3 (Str.ofString "two") = some (.ref O2) := ⟨_, F3_0, by kd_p, by kd_p, by kd_p, by kd_p⟩
   with_reducible refine x1_5 q91 fun m3 F3 p1 p2 p3 p4 => ?_
   clear q91)
  have N3 : News g L h3 (((T3, { cls := Value.type "tuple", data := Data.seq #[Value.ref O1, Value.ref O2] }) :: (O2, W.listOf (List.map Value.ref ks2).toArray q2) :: (O1, W.listOf (List.map Value.ref ks1).toArray q1) :: things) ++ frs) := N3_0
  clear F3_0 N3_0
  have n1 := lt_notin (fun q hq => lt1 q (List.mem_append_right _ hq))
  have n2 := lt_notin (fun q hq => lt2 q (List.Mem.tail _ (List.mem_append_right _ hq)))
  have n3 : T3 ∉ frs.map (·.1) := lt_notin (fun q hq => AllLt.mem l3.2.2 q (List.mem_append_right _ hq))
  have st3 := S.seen F3 N3 (fun p hp => List.Mem.tail _ (List.Mem.tail _ (List.Mem.tail _ hp))) (env := envOfC (Str.ofString "_law_sorted") lsScope L 106 (.ref 105)) rfl
  refine c_sld (A := A.deeper _) (S.here F3 N3 X' T') hh (by show A.depth + 1 + 40 < _; omega) (by show A.units + 3 + 700 < _; omega) (KC.ext st3)
    ⟨(i1_3 _ (new_view S N3 (List.Mem.tail _ (List.Mem.tail _ (List.Mem.head _))) n1 rfl) rfl ⟨_, rfl⟩), Q1.len, Q1.small, fun i k a e1 e2 => (Q1.at_ i k a e1 e2).ext st3⟩
    ⟨(i1_3 _ (new_view S N3 (List.Mem.tail _ (List.Mem.head _)) n2 rfl) rfl ⟨_, rfl⟩), Q2.len, Q2.small, fun i k a e1 e2 => (Q2.at_ i k a e1 e2).ext st3⟩ _ _ ?_
  (rintro y h4 tk4 X4 h9q; (with_reducible refine x7_1 h9q fun t a b i j ms us q9z => x0_5 q9z fun r92 t1 t2 t3 RE => ?_
                            clear q9z
                            try clear h9q
                            obtain rfl := r92))
  (obtain q93 := S.back F3 N3 (fun p hp => List.Mem.tail _ (List.Mem.tail _ (List.Mem.tail _ hp))) (List.forall_mem_cons.mpr ⟨n3, List.forall_mem_cons.mpr ⟨n2, List.forall_mem_cons.mpr ⟨n1, S.hap⟩⟩⟩) rfl X4
   with_reducible refine x2_6 q93 fun frs4 th4 SU4 S4 F4 N4 all4 st4 => ?_
   clear q93)
  generalize view (A.deeper _) [] h4 = V4 at t1 t2 t3 S4 st4
  have tR4 := all4 _ (List.Mem.tail _ (List.Mem.tail _ (List.Mem.tail _ tR)))
  have o1 : V4.IsList O1 (ks1.map Value.ref).toArray := (i1_3 _ (S4.tv _ (all4 _ (List.Mem.tail _ (List.Mem.tail _ (List.Mem.head _))))) rfl ⟨_, rfl⟩)
  have o2' : V4.IsList O2 (ks2.map Value.ref).toArray := (i1_3 _ (S4.tv _ (all4 _ (List.Mem.tail _ (List.Mem.head _)))) rfl ⟨_, rfl⟩)
  clear N3 F3 st3 X4 all4 lt1 lt2 sub1 l3 n1 n2 n3 tR hm1 hm2
  k_steps
  unfold Stop
  rename Fr _ _ _ _ => F5
  rename News _ _ _ _ => N5
  have st5 := S4.heap F5 N5 (fun p hp => List.mem_append_left _ hp)
  (obtain q94 := id t1
   refine x1_3 q94 fun ot et ct q95 => ?_
   clear q94
   with_reducible refine x1_1 q95 fun nt dt => ?_
   clear q95)
  refine IsiPair.tuple_tuple (st5 _ _ et) ct ?_
  k_steps
  unfold Stop
  rename Fr _ _ _ _ => F6
  rename News _ _ _ _ => N6
  refine PySem.W.kun_lenT (i1_3 ot ((S4.heap F6 N6 (fun p hp => List.mem_append_left _ hp)) _ _ et) ct ⟨nt, dt⟩) (k := 2) rfl (by decide) ?_
  k_steps
  unfold Stop
  clear st5
  rename Fr _ _ _ _ => F7_0
  rename News _ _ _ _ => N7
  (obtain q96 : ∃ m7, Fr g L _ m7 ∧ m7 (Str.ofString "rows") = some (.ref DR) ∧ m7 (Str.ofString "keys") = some (.ref KR) ∧ m7 (Str.ofString "one") = some (.ref O1) ∧ m7 (Str.ofString "two") = some (.ref O2) ∧ m7 (Str.ofString "told") = some (.ref t) := ⟨_, F7_0, by kd_p, by kd_p, by kd_p, by kd_p, by kd_p⟩
   with_reducible refine x1_6 q96 fun m7 F7 r1 r2 r3 r4 r5 => ?_
   clear q96)
  clear F7_0 p1 p2 p3 p4
  refine item_in (IsList.ext tDR (StaysIn.trans st4 (S4.heap F7 N7 fun p hp => List.mem_append_left _ hp))) (by decide) (by decide) (show _ = some (Value.ref D1) from rfl) ?_
  k_steps
  unfold Stop
  refine c_ranks (A := A.deeper _) (S4.here F7 N7 X' T') hh (by show A.depth + 1 + 30 < _; omega) ((R1.ext st4).ext (S4.seen F7 N7 (fun p hp => hp) rfl)) (by omega) ((P.ext st4).ext (S4.seen F7 N7 (fun p hp => hp) rfl)) hr2 hru _ _ ?_
  (rintro y h8 tk8 X8 h9q; (with_reducible refine x2_4 h9q fun a1 bs1 r97 W1 c98 c99 => ?_
                            try clear h9q
                            obtain rfl := r97
                            clear c98
                            clear c99))
  (obtain q910 := S4.back F7 N7 (fun p hp => hp) S4.hap rfl X8
   with_reducible refine x2_6 q910 fun frs8 th8 SU8 S8 F8 N8 all8 st8 => ?_
   clear q910)
  generalize view (A.deeper _) [] h8 = V8 at W1 S8 st8
  have tR8 := all8 _ tR4
  clear N7 F7 X8 all8
  k_steps
  unfold Stop
  refine item_in (IsList.ext tDR (StaysIn.trans st4 (StaysIn.trans st8 (S8.heap F8 N8 fun p hp => List.mem_append_left _ hp)))) (by decide) (by decide) (show _ = some (Value.ref D2) from rfl) ?_
  k_steps
  unfold Stop
  refine c_ranks (A := A.deeper _) (S8.here F8 N8 X' T') hh (by show A.depth + 1 + 30 < _; omega) ((R2.ext (StaysIn.trans st4 st8)).ext (S8.seen F8 N8 (fun p hp => hp) rfl)) (by omega) ((P.ext (StaysIn.trans st4 st8)).ext (S8.seen F8 N8 (fun p hp => hp) rfl)) hr2 hru _ _ ?_
  (rintro y h9 tk9 X9 h9q; (with_reducible refine x2_4 h9q fun a2 bs2 r911 W2 c912 c913 => ?_
                            try clear h9q
                            obtain rfl := r911
                            clear c912
                            clear c913))
  (obtain q914 := S8.back F8 N8 (fun p hp => hp) S8.hap rfl X9
   with_reducible refine x2_6 q914 fun frs9 th9 SU9 S9 F9 N9 all9 st9 => ?_
   clear q914)
  generalize view (A.deeper _) [] h9 = V9 at W2 S9 st9
  clear N8 F8 X9 all9
  k_steps
  unfold Stop
  rename_i T9 h91 l9 h92 h93 h10 F10_0 N10_0
  (obtain q915 : ∃ m10, Fr g L h10 m10 ∧ m10 (Str.ofString "rows") = some (.ref DR) ∧ m10 (Str.ofString "keys") = some (.ref KR) ∧ m10 (Str.ofString "one") = some (.ref O1) ∧ m10 (Str.ofString "two") = some (.ref O2) ∧ m10 (Str.ofString "told") = some (.ref t) ∧ m10 (Str.ofString "ranks") = some (.ref a1) ∧ m10 (Str.ofString "others") = some (.ref a2) := ⟨_, F10_0, by kd_p, by kd_p, by kd_p, by kd_p, by kd_p, by kd_p, by kd_p⟩
   with_reducible refine x1_1 q915 fun m10 q9z => x0_8 q9z fun F10 r1 r2 r3 r4 r5 r6 r7 => ?_
   clear q9z
   clear q915)
  have N10 : News g L h10 (th9 ++ frs9) := fun p hp => N10_0 p (List.Mem.tail _ hp)
  clear F10_0 N10_0 l9
  have e48 := StaysIn.trans st8 st9
  have e9 := StaysIn.trans st4 e48
  have hVV : V.StaysIn V9 := e9
  replace t1 := t1.keeps e48
  replace t2 := IsList.ext t2 e48
  replace t3 := IsList.ext t3 e48
  replace o1 := IsList.ext o1 e48
  replace o2' := IsList.ext o2' e48
  replace W1 := W1.ext st9
  replace tKR := IsList.ext tKR e9
  replace Q1 := Q1.ext e9
  replace Q2 := Q2.ext e9
  have SU9' := ((SU4.trans SU8).trans SU9)
  clear e48 e9 st4 st8 st9 tDR R1 R2 P KC tR4 tR8
  (obtain q916 := told_ok i j ms us RE
   with_reducible refine x0_6 q916 fun q1' q2' q3 q4 q5 q6 => ?_
   clear q916)
  refine item_tuple (t1.keeps (S9.heap F10 N10 fun p hp => List.mem_append_left _ hp)) (by decide) (by decide) (j := 0) rfl (show _ = some (Value.ref a) from rfl) ?_
  k_steps
  unfold Stop
  refine item_in (IsList.ext tKR (S9.heap F10 N10 fun p hp => List.mem_append_left _ hp)) (by decide) (by decide) (show _ = some (Value.ref K1) from rfl) ?_
  k_steps
  unfold Stop
  have len1 : ∀ r ∈ xs.map (rankOf ru), r.length = ru.length := fun r hr => by
    (obtain q82 := List.mem_map.mp hr
     with_reducible refine x1_2 q82 fun x _ r83 => ?_
     clear q82
     obtain rfl := r83)
    simp [rankOf]
  have len2 : ∀ r ∈ ys.map (rankOf ru), r.length = ru.length := fun r hr => by
    (obtain q84 := List.mem_map.mp hr
     with_reducible refine x1_2 q84 fun x _ r85 => ?_
     clear q84
     obtain rfl := r85)
    simp [rankOf]
  have zz1 : (xs.map (rankOf ru)).length ≤ 1000 := by rw [List.length_map]; omega
  have zz2 : (ys.map (rankOf ru)).length ≤ 1000 := by rw [List.length_map]; omega
  refine c_own (A := A.deeper _) (S9.here F10 N10 X' T') hh (by show A.depth + 1 + 30 < _; omega) (by show A.units + 3 + 200 < _; omega) (W1.ext (S9.seen F10 N10 (fun p hp => hp) rfl)) (W2.ext (S9.seen F10 N10 (fun p hp => hp) rfl)) zz1 zz2 len1 len2 _ _ ?_
  (rintro y h11 tk11 X11 h9q; (with_reducible refine x2_4 h9q fun w1 vs1 r917 U1 I1 c918 => ?_
                               try clear h9q
                               obtain rfl := r917
                               clear c918))
  (obtain q919 := S9.back F10 N10 (fun p hp => hp) S9.hap rfl X11
   with_reducible refine x2_6 q919 fun frs11 th11 SU11 S11 F11 N11 all11 st11 => ?_
   clear q919)
  generalize view (A.deeper _) [] h11 = V11 at U1 S11 st11
  clear N10 F10 X11 all11
  have SU11' := SU9'.trans SU11
  k_steps
  unfold Stop
  refine c_are (A := A.deeper _) (kv := ks1) (ps := ownN (xs.map (rankOf ru)) (ys.map (rankOf ru))) (vs := vs1) (S11.here F11 N11 X' T') hh (by show A.depth + 1 + 30 < _; omega) (by show A.units + 3 + 200 < _; omega) ?are1 (IsList.ext Q1.list (StaysIn.trans st11 (S11.seen F11 N11 (fun p hp => hp) rfl))) (IsList.ext U1 (S11.seen F11 N11 (fun p hp => hp) rfl)) I1 ?z1 ?z2 ?z3 _ _ ?_
  case are1 =>
    have z := IsList.ext t2 st11
    rw [told_places (fun j hj => by have := q1' j hj; have := Q1.len; omega) (by have := Q1.len; omega), Q1.len, q5] at z
    exact IsList.ext z (S11.seen F11 N11 (fun p hp => hp) rfl)
  case z1 => exact Nat.le_trans (List.length_filter_le _ _) (by simpa using zz1)
  case z2 => have := Q1.len; omega
  case z3 =>
    intro p hp
    have := List.mem_range.mp (List.mem_filter.mp hp).1
    rw [List.length_map] at this
    have := Q1.len
    omega
  rintro y h12 tk12 X12 rfl
  (obtain q920 := S11.back F11 N11 (fun p hp => hp) S11.hap rfl X12
   with_reducible refine x2_6 q920 fun frs12 th12 SU12 S12 F12 N12 all12 st12 => ?_
   clear q920)
  generalize view (A.deeper _) [] h12 = V12 at S12 st12
  clear N11 F11 X12 all12 U1 I1
  have SU12' := SU11'.trans SU12
  k_steps
  unfold Stop
  replace t1 := t1.keeps (StaysIn.trans st11 st12)
  replace t3 := IsList.ext t3 (StaysIn.trans st11 st12)
  replace o1 := IsList.ext o1 (StaysIn.trans st11 st12)
  replace o2' := IsList.ext o2' (StaysIn.trans st11 st12)
  replace W1 := W1.ext (StaysIn.trans st11 st12)
  replace W2 := W2.ext (StaysIn.trans st11 st12)
  replace tKR := IsList.ext tKR (StaysIn.trans st11 st12)
  replace Q1 := Q1.ext (StaysIn.trans st11 st12)
  replace Q2 := Q2.ext (StaysIn.trans st11 st12)
  replace hVV := StaysIn.trans hVV (StaysIn.trans st11 st12)
  clear t2 st11 st12
  refine item_tuple (t1.keeps (S12.heap F12 N12 fun p hp => List.mem_append_left _ hp)) (by decide) (by decide) (j := 1) rfl (show _ = some (Value.ref b) from rfl) ?_
  k_steps
  unfold Stop
  refine item_in (IsList.ext tKR (S12.heap F12 N12 fun p hp => List.mem_append_left _ hp)) (by decide) (by decide) (show _ = some (Value.ref K2) from rfl) ?_
  k_steps
  unfold Stop
  refine c_own (A := A.deeper _) (S12.here F12 N12 X' T') hh (by show A.depth + 1 + 30 < _; omega) (by show A.units + 3 + 200 < _; omega) (W2.ext (S12.seen F12 N12 (fun p hp => hp) rfl)) (W1.ext (S12.seen F12 N12 (fun p hp => hp) rfl)) zz2 zz1 len2 len1 _ _ ?_
  (rintro y h13 tk13 X13 h9q; (with_reducible refine x2_4 h9q fun w2 vs2 r921 U2 I2 c922 => ?_
                               try clear h9q
                               obtain rfl := r921
                               clear c922))
  (obtain q923 := S12.back F12 N12 (fun p hp => hp) S12.hap rfl X13
   with_reducible refine x2_6 q923 fun frs13 th13 SU13 S13 F13 N13 all13 st13 => ?_
   clear q923)
  generalize view (A.deeper _) [] h13 = V13 at U2 S13 st13
  clear N12 F12 X13 all13
  have SU13' := SU12'.trans SU13
  k_steps
  unfold Stop
  refine c_are (A := A.deeper _) (kv := ks2) (ps := ownN (ys.map (rankOf ru)) (xs.map (rankOf ru))) (vs := vs2) (S13.here F13 N13 X' T') hh (by show A.depth + 1 + 30 < _; omega) (by show A.units + 3 + 200 < _; omega) ?are2 (IsList.ext Q2.list (StaysIn.trans st13 (S13.seen F13 N13 (fun p hp => hp) rfl))) (IsList.ext U2 (S13.seen F13 N13 (fun p hp => hp) rfl)) I2 ?z4 ?z5 ?z6 _ _ ?_
  case are2 =>
    have z := IsList.ext t3 st13
    rw [told_places (fun j hj => by have := q2' j hj; have := Q2.len; omega) (by have := Q2.len; omega), Q2.len, q6] at z
    exact IsList.ext z (S13.seen F13 N13 (fun p hp => hp) rfl)
  case z4 => exact Nat.le_trans (List.length_filter_le _ _) (by simpa using zz2)
  case z5 => have := Q2.len; omega
  case z6 =>
    intro p hp
    have := List.mem_range.mp (List.mem_filter.mp hp).1
    rw [List.length_map] at this
    have := Q2.len
    omega
  rintro y h14 tk14 X14 rfl
  (obtain q924 := S13.back F13 N13 (fun p hp => hp) S13.hap rfl X14
   with_reducible refine x2_6 q924 fun frs14 th14 SU14 S14 F14 N14 all14 st14 => ?_
   clear q924)
  generalize view (A.deeper _) [] h14 = V14 at S14 st14
  clear N13 F13 X14 all14 U2 I2
  have SU14' := SU13'.trans SU14
  replace o1 := IsList.ext o1 (StaysIn.trans st13 st14)
  replace o2' := IsList.ext o2' (StaysIn.trans st13 st14)
  replace W1 := W1.ext (StaysIn.trans st13 st14)
  replace W2 := W2.ext (StaysIn.trans st13 st14)
  replace tKR := IsList.ext tKR (StaysIn.trans st13 st14)
  replace Q1 := Q1.ext (StaysIn.trans st13 st14)
  replace Q2 := Q2.ext (StaysIn.trans st13 st14)
  replace hVV := StaysIn.trans hVV (StaysIn.trans st13 st14)
  clear t1 t3 st13 st14
  k_steps
  unfold Stop
  refine item_in (IsList.ext tKR (S14.heap F14 N14 fun p hp => List.mem_append_left _ hp)) (by decide) (by decide) (show _ = some (Value.ref K1) from rfl) ?_
  k_steps
  unfold Stop
  have lx1 : bs1.length = xs.length := by rw [W1.len, List.length_map]
  have lx2 : bs2.length = ys.length := by rw [W2.len, List.length_map]
  refine PySem.W.kun_lenL (IsList.ext W1.list (S14.heap F14 N14 fun p hp => List.mem_append_left _ hp)) (k := (xs.length : Int)) (by simp [lx1]) (by omega) ?_
  k_steps
  unfold Stop
  rename IsRange _ _ _ _ _ _ _ _ => hr1
  rename Fr _ _ _ _ => F15
  rename News _ _ _ _ => N15
  refine PySem.W.kll_range (n := xs.length) hh F15 N15 hr1 (small_nat (by omega)) (by simp [rangeSize_nat]) (by omega) ?_
  intro D16 us16 q16 h16 tk16 F16 N16' l16 I16
  have N16 : News g L h16 (((D16, listOf us16.toArray q16) :: th14) ++ frs14) := N16'
  have n16 : D16 ∉ frs14.map (·.1) := lt_notin fun q hq => l16 q (List.mem_append_right _ hq)
  rw [rangeKs_zero] at I16
  clear N16' l16 hr1 F15 N15
  k_steps
  unfold Stop
  refine c_are (A := A.deeper _) (kv := ks1) (ps := List.range xs.length) (vs := us16) (S14.here F16 N16 X' T') hh (by show A.depth + 1 + 30 < _; omega) (by show A.units + 3 + 200 < _; omega) ?are3 (IsList.ext Q1.list (S14.seen F16 N16 (fun p hp => List.Mem.tail _ hp) rfl)) (i1_3 _ (new_view S14 N16 (List.Mem.head _) n16 rfl) rfl ⟨_, rfl⟩) I16 ?z7 ?z8 ?z9 _ _ ?_
  case are3 =>
    have z := o1
    rw [row_range, Q1.len] at z
    exact IsList.ext z (S14.seen F16 N16 (fun p hp => List.Mem.tail _ hp) rfl)
  case z7 => rw [List.length_range]; omega
  case z8 => have := Q1.len; omega
  case z9 => intro p hp; rw [Q1.len]; exact List.mem_range.mp hp
  rintro y h17 tk17 X17 rfl
  (obtain q925 := S14.back F16 N16 (fun p hp => List.Mem.tail _ hp) (List.forall_mem_cons.mpr ⟨n16, S14.hap⟩) rfl X17
   with_reducible refine x2_6 q925 fun frs17 th17 SU17 S17 F17 N17 all17 st17 => ?_
   clear q925)
  generalize view (A.deeper _) [] h17 = V17 at S17 st17
  clear N16 F16 X17 all17 I16 n16
  have SU17' := SU14'.trans SU17
  k_steps
  unfold Stop
  refine item_in (IsList.ext tKR (StaysIn.trans st17 (S17.heap F17 N17 fun p hp => List.mem_append_left _ hp))) (by decide) (by decide) (show _ = some (Value.ref K2) from rfl) ?_
  k_steps
  unfold Stop
  refine PySem.W.kun_lenL (IsList.ext W2.list (StaysIn.trans st17 (S17.heap F17 N17 fun p hp => List.mem_append_left _ hp))) (k := (ys.length : Int)) (by simp [lx2]) (by omega) ?_
  k_steps
  unfold Stop
  rename IsRange _ _ _ _ _ _ _ _ => hr2'
  rename Fr _ _ _ _ => F18
  rename News _ _ _ _ => N18
  refine PySem.W.kll_range (n := ys.length) hh F18 N18 hr2' (small_nat (by omega)) (by simp [rangeSize_nat]) (by omega) ?_
  intro D19 us19 q19 h19 tk19 F19 N19' l19 I19
  have N19 : News g L h19 (((D19, listOf us19.toArray q19) :: th17) ++ frs17) := N19'
  have n19 : D19 ∉ frs17.map (·.1) := lt_notin fun q hq => l19 q (List.mem_append_right _ hq)
  rw [rangeKs_zero] at I19
  clear N19' l19 hr2' F18 N18
  k_steps
  unfold Stop
  refine c_are (A := A.deeper _) (kv := ks2) (ps := List.range ys.length) (vs := us19) (S17.here F19 N19 X' T') hh (by show A.depth + 1 + 30 < _; omega) (by show A.units + 3 + 200 < _; omega) ?are4 (IsList.ext Q2.list (StaysIn.trans st17 (S17.seen F19 N19 (fun p hp => List.Mem.tail _ hp) rfl))) (i1_3 _ (new_view S17 N19 (List.Mem.head _) n19 rfl) rfl ⟨_, rfl⟩) I19 ?z10 ?z11 ?z12 _ _ ?_
  case are4 =>
    have z := IsList.ext o2' st17
    rw [row_range, Q2.len] at z
    exact IsList.ext z (S17.seen F19 N19 (fun p hp => List.Mem.tail _ hp) rfl)
  case z10 => rw [List.length_range]; omega
  case z11 => have := Q2.len; omega
  case z12 => intro p hp; rw [Q2.len]; exact List.mem_range.mp hp
  rintro y h20 tk20 X20 rfl
  (obtain q926 := S17.back F19 N19 (fun p hp => List.Mem.tail _ hp) (List.forall_mem_cons.mpr ⟨n19, S17.hap⟩) rfl X20
   with_reducible refine x2_6 q926 fun frs20 th20 SU20 S20 F20 N20 c927 st20 => ?_
   clear q926
   clear c927)
  k_steps
  exact ret _ _ _ _ (SU17'.trans SU20) S20.Fs F20 (fun p hp => N20 p (List.mem_append_right _ hp)) (StaysIn.trans hVV (StaysIn.trans st17 (StaysIn.trans st20 view_le)))
end Mine
end PartK2

section PartM0
open PySem PySem.W PyProof.Rows PySem.Calls
set_option Elab.async false
set_option maxRecDepth 100000
set_option maxHeartbeats 4000000
set_option linter.unusedVariables false
set_option rowWalk.seconds 0
namespace Mine
theorem start_M0 {M : Model} {A : Around} {env : Env} {E : Value → Shared → Prop} {s : Shared} {Q : Flow → Shared → Prop} (h : Q .next s) : wpAny M A (execs [] env) Q E s := by
  w_top off
  walk1
  exact h
open TI (Frs SameUp)
open SeqAt LCt LCg
section
variable {prog : Program} {w : World} {A : Around} {E : Value → Shared → Prop} {s : Shared} {h₀ : Heap} {L : Addr} {m : Str → Option Value} {env : Env}
theorem down_walks {I : Addr} (hh : A.handled = none) (a : Int) (n : Nat) : Walks prog w A I [I] [I] n (fun i v => ∃ t, v = .int (a - (i : Int)) t) (fun i h => IsRangeIter h I (a + (i : Nat) * (-1)) ((n : Int) - (i : Nat)) (-1)) :=
  let W : Walks prog w A I [I] [I] n (fun i v => i < n ∧ ∃ t, v = .int (a + i * (-1)) t) (fun i h => IsRangeIter h I (a + (i : Nat) * (-1)) ((n : Int) - (i : Nat)) (-1)) := (Walks.range hh I a (-1) n).bound
  { sub := W.sub, frame := W.frame, done := W.done, self := W.self,
    item := fun i s Q E hi st hQ => W.item i s Q E hi st fun v h' tk hP => hQ v h' tk (by (with_reducible refine x0_2 hP fun _ q81 => ?_
                                                                                           try clear hP
                                                                                           with_reducible refine x1_1 q81 fun t r82 => ?_
                                                                                           clear q81
                                                                                           obtain rfl := r82); exact ⟨t, by congr 1; omega⟩) }
noncomputable def CompSrcD (prog : Program) (w : World) (A : Around) (h₀ : Heap) (L : Addr) (m : Str → Option Value) (env : Env) (ct elt : Expr) (x : Str) (scope : Scope) (cl : List (Str × Addr)) (Fin : Shared → List Value → List (Addr × Obj) → Prop) (xv : Value) (s₁ : Shared) : Prop :=
  ∃ r a b t u v n news, xv = .ref r ∧ A.handled = none ∧ Fr h₀ L s₁.heap m ∧ News h₀ L s₁.heap news ∧ IsRange s₁.heap r a b (-1) t u v ∧ Builtin.Range.small a b (-1) = true ∧ Builtin.Range.rangeSize a b (-1) = ((n : Nat) : Int) ∧ n ≤ sizeLine ∧
      ∀ g, CompRestT prog w A h₀ L m env ct elt x scope cl { s₁ with heap := g } (fun _ => True) (fun i v => ∃ t, v = .int (a - (i : Int)) t) (Fin { s₁ with heap := g }) n 0 [] news
theorem Assign_ListComp_D {ct elt iter : Expr} {x y : Str} {px py : Pos} {scope : Scope} {cl : List (Str × Addr)} {pos spos : Pos} {Q : Flow → Shared → Prop} (F₀ : Fr h₀ L s.heap m) (hLe : env.locals = L)
    (hsw : swapsWith (.ListComp elt [⟨.Name x px, iter, [ct], 0⟩] scope pos) (some (.Name y py)) spos.line env = pure true)
    (hclos : closureFor scope env = pure cl) (hcell : ∀ z ∈ scope.names, z.2 ≠ .cell) (hkind : scope.kind = .function)
    (hnames : ∀ z ∈ scope.names, z.2 = .local → scope.names.lookup z.1 = some .local) (hx : scope.names.lookup x = some .local)
    (hy : env.kindOf y = some .local) (hp : (env.scope.kind == .class || (env.scope.kind == .module && env.locals != env.globals)) = false)
    (h : wpAny (model prog w) A (eval iter env) (CompSrcD prog w A h₀ L m env ct elt x scope cl (fun s₂ => FinA h₀ L m s₂ y Q)) E s)
    (hs : ∀ x, foldedSetIterable iter env x = pure x := by intro _; rfl) :
    wpAny (model prog w) A (exec (.Assign [.Name y py] (.ListComp elt [⟨.Name x px, iter, [ct], 0⟩] scope pos) spos) env) Q E s := by
  subst hLe
  rw [exec_Assign_Name_used _ _ _ _ hsw]
  refine wpAny_bind (wpAny_standAt (wpAny_bind ?_))
  show wpAny _ A (do let _ ← comprehension (.ListComp elt [⟨.Name x px, iter, [ct], 0⟩] scope pos) scope env _ (newList []) false (eval iter env) (some (assign (.Name y py) env))) _ _ s
  refine wpAny_bind (wpAny_mono (wpAny_comprehension_free (use := some (assign (.Name y py) env)) (Q := fun _ s' => Q .next s') rfl hs hclos hkind hnames
    (wpAny_mono h (fun xv s₁ h₁ => ?_) fun _ _ e => e)) (fun _ s' hq => wpAny_pure (wpAny_pure hq)) fun _ _ e => e)
  (refine x8_1 h₁ fun r a b t u v n news q9z => x0_9 q9z fun r91 hh F N hr hsm hn hsz R => ?_
   clear q9z
   try clear h₁
   obtain rfl := r91)
  refine wpAny_pyIter_range hr hsm ?_
  refine block_T (down_walks hh a n) hsz (fun i h st => ⟨_, st⟩) (fun i h h' o nw st e e' _ _ _ => by
      have st' : h.get? _ = some _ := st
      show h'.get? _ = some _
      rw [e', ← e]; exact st') hcell hkind hx (by show IsRangeIter _ _ _ _ _; rw [hn]; simpa using Heap.get?_push_size _ rfl) (fun b hb => ?_)
    (F.keeps fun _ _ e => Heap.get?_push_of_some _ e) (N.grown fun _ _ e => Heap.get?_push_of_some _ e) (Nat.ne_of_lt F.ns.lt) (next_is_new F) (fun p hp => Nat.ne_of_lt (Heap.lt_size (N p hp).1)) trivial (R _) ?_
  · rw [List.mem_singleton.mp hb]
    show s₁.heap.objs.size < (s₁.heap.push _).objs.size
    rw [Heap.size_push]; exact Nat.lt_succ_self _
  · intro D C h' tk m' ys news' F' N' o1 hn hC₀ hD₀ hCL hDL hCD offC fin
    show wpAny _ A (assign (.Name y py) env (.ref D)) _ _ _
    refine wpAny_assign_Name (wpAny_storeName_local hy F'.ns (fun h₂ hn₂ hs₂ => ?_) hp)
    have hL₀ : h₀.get? env.locals = none := Heap.get?_none_of_le F'.above
    have F₂ : Fr h₀ env.locals h₂ (fun z => if z = y then some (.ref D) else m z) := ⟨hn₂, fun b o e => hs₂.extBut b o (fun q => by rw [q, hL₀] at e; cases e) (F'.keep b o e), F'.above⟩
    refine ⟨m', hn.sameBut hs₂ hCL, fun h'' hs'' => fin D h'' _ (F₂.change hs'' hCL hC₀) (fun p hp => ?_) o1⟩
    have z : h₂.get? p.1 = some p.2 := hs₂.extBut _ _ (N' p hp).2.1 (N' p hp).1
    refine ⟨hs''.extBut _ _ ?_ z, (N' p hp).2⟩
    refine mc1 hp ?_ fun hp => ?_
    · exact Ne.symm hCD
    · exact offC p hp
end
section
variable {w : World} {A : Around} {l : List Env} {frs things news new : List (Addr × Obj)} {g V h h' : Heap} {L : Addr} {m : Str → Option Value} {p : Program} {loose : List Str} {mean : ExcName → Option Value} {mg mb : Str → Option Value} {env : Env}
theorem Scn.makeC (env : Env) (cs : List Addr) (hcs : ∀ b ∈ cs, g.get? b = none) (hl : A.frames = some l) (Fs : Frs l frs) (F : Fr g L h m) (N : News g L h (new ++ frs)) (ha : ∀ p ∈ new, p.1 ∉ frs.map (·.1)) (hf : env.frame = some L) :
    ∃ things, Scn A l frs things g (Mine.view (A.deeper env) cs h) L ∧ News g L h (things ++ frs) ∧ (∀ p ∈ things, p.1 ∉ cs) ∧ ∀ p ∈ new, p.1 ∉ cs → p ∈ things := by
  have hA : fsA A = frs.map (·.1) := by unfold fsA; rw [hl]; exact Fs.addrs
  (obtain q92 : ∃ things, News g L h (things ++ frs) ∧ (∀ p ∈ things, p.1 ∉ frs.map (·.1)) ∧ (∀ p ∈ things, p.1 ∉ cs) ∧ (∀ p ∈ new, p.1 ∉ cs → p ∈ things) ∧ ∀ v, g.StaysIn v → (∀ p ∈ things, v.get? p.1 = some p.2) → (Mine.view (A.deeper env) cs h).StaysIn v := by
    refine ⟨(List.range h.objs.size).filterMap fun a => if g.get? a = none ∧ a ≠ L ∧ a ∉ frs.map (·.1) ∧ a ∉ cs then (h.get? a).map (Prod.mk a) else none, ?_, ?_, ?_, ?_, ?_⟩
    · intro p hp
      rcases List.mem_append.mp hp with hp | hp
      · (obtain q83 := List.mem_filterMap.mp hp
         with_reducible refine x1_2 q83 fun a _ e => ?_
         clear q83)
        split at e
        · rename_i q
          (obtain q84 := Option.map_eq_some_iff.mp e
           with_reducible refine x1_2 q84 fun o ho r85 => ?_
           clear q84
           obtain rfl := r85)
          exact ⟨ho, q.2.1, q.1⟩
        · cases e
      · exact N p (List.mem_append_right _ hp)
    · intro p hp
      (obtain q86 := List.mem_filterMap.mp hp
       with_reducible refine x1_2 q86 fun a _ e => ?_
       clear q86)
      split at e
      · rename_i q
        (obtain q87 := Option.map_eq_some_iff.mp e
         with_reducible refine x1_2 q87 fun o ho r88 => ?_
         clear q87
         obtain rfl := r88)
        exact q.2.2.1
      · cases e
    · intro p hp
      (obtain q89 := List.mem_filterMap.mp hp
       with_reducible refine x1_2 q89 fun a _ e => ?_
       clear q89)
      split at e
      · rename_i q
        (obtain q810 := Option.map_eq_some_iff.mp e
         with_reducible refine x1_2 q810 fun o ho r811 => ?_
         clear q810
         obtain rfl := r811)
        exact q.2.2.2
      · cases e
    · intro p hp hc
      have z := N p (List.mem_append_left _ hp)
      refine List.mem_filterMap.mpr ⟨p.1, List.mem_range.mpr (Heap.lt_size z.1), ?_⟩
      rw [if_pos ⟨z.2.2, z.2.1, ha p hp, hc⟩, z.1]
      rfl
    · intro v hg hv b o e
      obtain ⟨n, e⟩ := view_get e
      rw [fsA_deeper hl hf, hA] at n
      by_cases hb : g.get? b = none
      · refine hv (b, o) (List.mem_filterMap.mpr ⟨b, List.mem_range.mpr (Heap.lt_size e), ?_⟩)
        rw [if_pos ⟨hb, fun q => n (q ▸ List.mem_append_right _ (List.Mem.head _)), fun q => n (List.mem_append_right _ (List.Mem.tail _ q)), fun q => n (List.mem_append_left _ q)⟩, e]
        rfl
      · obtain ⟨o', ho'⟩ := Option.ne_none_iff_exists'.mp hb
        have := F.keep _ _ ho'
        rw [e] at this
        cases this
        exact hg _ _ ho'
   with_reducible refine x1_5 q92 fun things N' ap off all cl => ?_
   clear q92)
  refine (i1_4 things ⟨hl, Fs, ap, cl, in_viewB F N Split.append Fs hl hf hcs, fun p hp => ?_⟩ N' off all)
  have z := N' p (List.mem_append_left _ hp)
  refine view_of (fun q => ?_) z.1
  rw [fsA_deeper hl hf, hA] at q
  rcases List.mem_append.mp q with q | q
  · exact off p hp q
  · rcases List.mem_cons.mp q with q | q
    · exact z.2.1 q
    · exact ap p hp q
theorem Scn.backC (cs : List Addr) (hcs : ∀ b ∈ cs, g.get? b = none) (S : Scn A l frs things g V L) (F : Fr g L h m) (N : News g L h (new ++ frs)) (hm : ∀ p ∈ things, p ∈ new) (ha : ∀ p ∈ new, p.1 ∉ frs.map (·.1)) (hf : env.frame = some L) (hV : ∀ b ∈ cs, V.get? b = none) (e : Ext (A.deeper env) [] h h') :
    ∃ frs' things', SameUp frs frs' ∧ Scn A l frs' things' g (Mine.view (A.deeper env) cs h') L ∧ Fr g L h' m ∧ News g L h' (new ++ (things' ++ frs')) ∧ (∀ p ∈ things', p.1 ∉ cs) ∧ (∀ p ∈ new, p.1 ∉ cs → p ∈ things') ∧ V.StaysIn (Mine.view (A.deeper env) cs h') ∧ ∀ b ∈ cs, (Mine.view (A.deeper env) cs h').get? b = none := by
  (obtain q93 := Mine.back S.hl S.Fs F N Split.append hf ha e
   with_reducible refine x1_4 q93 fun frs' SU Fs' F' N' => ?_
   clear q93)
  (obtain q94 := Scn.makeC env cs hcs S.hl Fs' F' N' (fun p hp q => ha p hp (sameUp_map SU q)) hf
   with_reducible refine x1_4 q94 fun things' S' N2 off all => ?_
   clear q94)
  refine (i2_8 frs' things' SU S' F' (fun p hp => ?_) off all (fun b o q => ?_) (fun b hb => ?_))
  · rcases List.mem_append.mp hp with hp | hp
    · exact N' p (List.mem_append_left _ hp)
    · exact N2 p hp
  · have z := e.keep _ _ (S.seen F N hm hf b o q)
    obtain ⟨n, z⟩ := view_get z
    refine view_of (fun r => ?_) z
    rcases List.mem_append.mp r with r | r
    · rw [hV b r] at q; cases q
    · exact n (List.mem_append_right _ r)
  · cases q : (Mine.view (A.deeper env) cs h').get? b with
    | none => rfl
    | some o => exact absurd (List.mem_append_left _ hb) (view_get q).1
theorem view_cells {A : Around} {cs : List Addr} {h : Heap} {b : Addr} {o : Obj} (e : (view A [] h).get? b = some o) (n : b ∉ cs) : (view A cs h).get? b = some o := by
  obtain ⟨m, e⟩ := view_get e
  exact view_of (fun q => (List.mem_append.mp q).elim n fun q => m (List.mem_append_right _ q)) e
theorem IsList.off {v v' : Heap} {cs : List Addr} {a : Addr} {xs : Array Value} (x : v.IsList a xs) (e : ∀ b o, v.get? b = some o → b ∉ cs → v'.get? b = some o) (hc : ∀ b ∈ cs, ∃ o q, v.get? b = some o ∧ o.data = .cell q) : v'.IsList a xs := by
  (refine x1_3 x fun o ho c q95 => ?_
   try clear x
   with_reducible refine x1_1 q95 fun n d => ?_
   clear q95)
  refine (i1_3 o (e a o ho fun q => ?_) c ⟨n, d⟩)
  (obtain q96 := hc a q
   with_reducible refine x2_2 q96 fun o' q' h1 h2 => ?_
   clear q96)
  rw [ho] at h1
  cases h1
  rw [d] at h2
  cases h2
theorem RankRow.off {v v' : Heap} {cs : List Addr} {a : Addr} {bs : List Addr} {rows : List (List Int)} (x : RankRow v a bs rows) (e : ∀ b o, v.get? b = some o → b ∉ cs → v'.get? b = some o) (hc : ∀ b ∈ cs, ∃ o q, v.get? b = some o ∧ o.data = .cell q) : RankRow v' a bs rows :=
  ⟨IsList.off x.list e hc, x.len, fun i b r h1 h2 => let ⟨vs, i1, i2⟩ := x.at_ i b r h1 h2; ⟨vs, IsList.off i1 e hc, i2⟩⟩
end
end Mine
end PartM0

section PartM1
open PySem PySem.W PyProof.Rows PySem.Calls
set_option Elab.async false
set_option maxRecDepth 100000
set_option maxHeartbeats 4000000
set_option linter.unusedVariables false
set_option rowWalk.seconds 0
namespace Mine
theorem start_M1 {M : Model} {A : Around} {env : Env} {E : Value → Shared → Prop} {s : Shared} {Q : Flow → Shared → Prop} (h : Q .next s) : wpAny M A (execs [] env) Q E s := by
  w_top off
  walk1
  exact h
open TI (Frs SameUp)
open SeqAt
local macro_rules | `(tactic| walk_at "exec Assign cons ListComp") => `(tactic| isplit)
local macro_rules | `(tactic| walk_at "subscriptTail Name Name ref int") => `(tactic| isplit)
local macro_rules | `(tactic| walk_at "subscriptTail Name Slice ref ref") => `(tactic| isplit)
local macro_rules | `(tactic| walk_at "getMethod ref") => `(tactic| isplit)
local macro_rules | `(tactic| walk_at "compareOp NotEq ref ref") => `(tactic| isplit)
local macro_rules | `(tactic| walk_at "call builtin:list.count") => `(tactic| isplit)
noncomputable def lbScope : Scope := match theDef "_law_bags" with | .FunctionDef _ _ _ _ _ _ sc .. => sc | _ => default
noncomputable def lbBody : List Stmt := match theDef "_law_bags" with | .FunctionDef _ _ b .. => b | _ => []
noncomputable def lackB (rows1 rows2 : List (List Int)) (p : Nat) : Bool := decide (rows2.count (rows1.getD p []) < (rows1.drop p).count (rows1.getD p []))
noncomputable def leftB (rows1 rows2 : List (List Int)) (p : Nat) : Bool := decide (rows1.count (rows2.getD p []) < (rows2.take (p + 1)).count (rows2.getD p []))
noncomputable def lackN (rows1 rows2 : List (List Int)) : List Nat := ((List.range rows1.length).map fun t => rows1.length - 1 - t).filter (lackB rows1 rows2)
noncomputable def leftN (rows1 rows2 : List (List Int)) : List Nat := (List.range rows2.length).filter (leftB rows1 rows2)
noncomputable def BagsOk (c : Rec → Rec → Int) (xs ys : List Rec) (rows1 rows2 : List (List Int)) : Prop := ∀ ms ids, UReach c xs ys 0 ms ids → ms = lackN rows1 rows2 ∧ ids = leftN rows1 rows2
theorem keysAt_places {ks : List Addr} {ms : List Nat} : keysAt ks ms = ms.map fun p => Value.ref (ks.getD p 0) := by
  unfold keysAt
  rw [List.map_map]
  rfl
theorem pick_from {bs : List Addr} {i : Nat} (hi : i ≤ bs.length) : slicePick (bs.map Value.ref).toArray (some (i : Int)) none none = ((bs.drop i).map Value.ref).toArray := by
  rw [kms_pick_eq]
  unfold kms_pick kms_lo kms_hi
  have h : ¬ ((i : Int) < 0) := by omega
  simp only [if_neg h, Int.toNat_natCast, List.length_map]
  rw [Nat.min_eq_left hi, List.map_drop, List.take_of_length_le (by simp)]
theorem RankRow.drop {v : Heap} {D : Addr} {bs : List Addr} {rows : List (List Int)} {i : Nat} (x : ∀ (i : Nat) (b : Addr) (r : List Int), bs[i]? = some b → rows[i]? = some r → IntRow v b r) (hl : bs.length = rows.length) (hD : v.IsList D ((bs.drop i).map Value.ref).toArray) : RankRow v D (bs.drop i) (rows.drop i) :=
  ⟨hD, by simp [hl], fun j b r h1 h2 => by
    rw [List.getElem?_drop] at h1 h2
    exact x _ b r h1 h2⟩
theorem RankRow.take {v : Heap} {D : Addr} {bs : List Addr} {rows : List (List Int)} {i : Nat} (x : ∀ (i : Nat) (b : Addr) (r : List Int), bs[i]? = some b → rows[i]? = some r → IntRow v b r) (hl : bs.length = rows.length) (hD : v.IsList D ((bs.take i).map Value.ref).toArray) : RankRow v D (bs.take i) (rows.take i) :=
  ⟨hD, by simp [hl], fun j b r h1 h2 => by
    rw [List.getElem?_take] at h1 h2
    by_cases hj : j < i
    · rw [if_pos hj] at h1 h2
      exact x _ b r h1 h2
    · rw [if_neg hj] at h1; cases h1⟩
theorem rangeSize_down (n : Nat) : Builtin.Range.rangeSize ((n : Int) - 1) (-1) (-1) = (n : Int) := by
  unfold Builtin.Range.rangeSize
  by_cases h : n = 0
  · subst h; rfl
  · simp; omega
theorem small_down {n : Nat} (h : n ≤ 1000) : Builtin.Range.small ((n : Int) - 1) (-1) (-1) = true := by
  unfold Builtin.Range.small
  rw [rangeSize_down]
  simp [Builtin.Range.rangeFitsLong]
  omega
theorem lackN_step {rows1 rows2 : List (List Int)} (j : Nat) : (((List.range (j + 1)).map fun t => rows1.length - 1 - t).filter (lackB rows1 rows2)).map Int.ofNat = (((List.range j).map fun t => rows1.length - 1 - t).filter (lackB rows1 rows2)).map Int.ofNat ++ (if lackB rows1 rows2 (rows1.length - 1 - j) = true then [((rows1.length - 1 - j : Nat) : Int)] else []) := by
  rw [List.range_succ, List.map_append, List.filter_append, List.map_append]
  by_cases h : lackB rows1 rows2 (rows1.length - 1 - j) = true <;> simp [h]
theorem leftN_step {rows1 rows2 : List (List Int)} (j : Nat) : ((List.range (j + 1)).filter (leftB rows1 rows2)).map Int.ofNat = ((List.range j).filter (leftB rows1 rows2)).map Int.ofNat ++ (if leftB rows1 rows2 j = true then [(j : Int)] else []) := by
  rw [List.range_succ, List.filter_append, List.map_append]
  by_cases h : leftB rows1 rows2 j = true <;> simp [h]
theorem lb_rest {w : World} {A : Around} {s : Shared} {l : List Env} {frs things : List (Addr × Obj)} {g V : Heap} {L KR K1 K2 C a1 a2 : Addr} {m : Str → Option Value} {oR oO : Obj} {ks1 ks2 bs1 bs2 : List Addr} {xs ys : List Rec} {rows1 rows2 : List (List Int)} {k : Nat} {c : Rec → Rec → Int} {p : Program} {loose : List Str} {mean : ExcName → Option Value} {mg mb : Str → Option Value} {Q : Flow → Shared → Prop} {E : Value → Shared → Prop}
    (S : Scn A l frs things g V L) (hh : A.handled = none) (hd : A.depth + 80 < recursionLimit) (hu : A.units + 1000 < cLine) (X' : (Mine.hd.heap_1 w.params).In g) (T' : Top p loose mean mg mb g) (F : Fr g L s.heap m) (N : News g L s.heap (things ++ frs))
    (tR : (L + 1 + 1, oR) ∈ things) (dR : oR.data = .cell (some (.ref a1))) (tO : (L + 1 + 1 + 1, oO) ∈ things) (dO : oO.data = .cell (some (.ref a2))) (hm2 : m (Str.ofString "keys") = some (.ref KR))
    (tKR : V.IsList KR #[.ref K1, .ref K2]) (Q1 : KeyRow V C K1 ks1 xs) (Q2 : KeyRow V C K2 ks2 ys) (W1 : RankRow V a1 bs1 rows1) (W2 : RankRow V a2 bs2 rows2) (nd1 : ∃ n, V.get? a1 = some (W.listOf (bs1.map Value.ref).toArray n)) (nd2 : ∃ n, V.get? a2 = some (W.listOf (bs2.map Value.ref).toArray n)) (lr1 : rows1.length = xs.length) (lr2 : rows2.length = ys.length)
    (z1 : xs.length < 60) (z2 : ys.length < 60) (KC : KeyCls w V C c) (crefl : ∀ a, c a a = 0) (bags_ok : BagsOk c xs ys rows1 rows2)
    (ret : ∀ h tk frs' m', SameUp frs frs' → Frs l frs' → Fr g L h m' → News g L h frs' → Q (.ret (.bool true)) { s with heap := h, toks := tk }) :
    wpAny (model Challenge.rw_mg0030_01.row.prog w) (A.deeper (envOfC (Str.ofString "_law_bags") lbScope L 111 (.ref 110))) (execs (lbBody.drop 2) (envOfC (Str.ofString "_law_bags") lbScope L 111 (.ref 110))) Q E s := by
  obtain ⟨nn1, nd1⟩ := nd1
  obtain ⟨nn2, nd2⟩ := nd2
  generalize hb : lbBody.drop 2 = body
  generalize hs : lbScope = scope
  conv at hb => lhs; whnf
  conv at hs => lhs; whnf
  subst hb hs
  revert X'
  k_fill
  intro X'
  k_steps
  unfold Stop
  refine Assign_ListComp_D (F₀ := F) (by rfl) (by with_unfolding_all rfl) (by with_unfolding_all rfl) (by decide) (by rfl) (by decide) (by rfl) (by rfl) (by rfl) ?_
  k_steps
  unfold Stop
  have lx1 : bs1.length = xs.length := by rw [W1.len, lr1]
  have lx2 : bs2.length = ys.length := by rw [W2.len, lr2]
  refine PySem.W.kun_lenL (IsList.ext W1.list (S.heap F N fun p hp => List.mem_append_left _ hp)) (k := (xs.length : Int)) (by simp [lx1]) (by omega) ?_
  k_steps
  rename IsRange _ _ _ _ _ _ _ _ => hr1
  rename Fr _ _ _ _ => F1
  rename News _ _ _ _ => N1
  refine (i8_9 _ _ _ _ _ _ xs.length _ rfl hh F1 N1 hr1 (small_down (by omega)) (rangeSize_down _) (by rw [sizeLine_eq]; omega) ?_)
  intro g'
  refine compT_ind (n := xs.length) (fun j ys' news => news = things ++ frs ∧ IntsAre ys' ((((List.range j).map fun t => rows1.length - 1 - t).filter (lackB rows1 rows2)).map Int.ofNat)) ⟨rfl, .nil⟩ ?fin1 ?turn1
  case fin1 =>
    rintro vsL news ⟨rfl, iL⟩
    clear F1 N1 hr1
    unfold LCg.FinA
    intro DL h2 tk2 F2 N2 oL
    have off2 := off1_mem oL
    have N3 : News g L h2 (((DL, LCg.lst vsL) :: things) ++ frs) := N2
    have nDL : DL ∉ frs.map (·.1) := fun q => by
      (obtain q81 := List.mem_map.mp q
       with_reducible refine x1_2 q81 fun x hx e => ?_
       clear q81)
      exact off2 x (List.mem_append_right _ hx) e
    (obtain q91 : ∃ m3, Fr g L h2 m3 ∧ m3 (Str.ofString "keys") = some (.ref KR) ∧ m3 (Str.ofString "lacks") = some (.ref DL) := (i1_3 _ F2 (by kd_p) (by kd_p))
     with_reducible refine x1_3 q91 fun m3 F3 p1 p2 => ?_
     clear q91)
    clear F2 N2 oL off2
    dsimp only
    k_steps
    unfold Stop
    refine LCt.Assign_ListComp_T (F₀ := F3) (by rfl) (by with_unfolding_all rfl) (by with_unfolding_all rfl) (by decide) (by rfl) (by decide) (by rfl) (by rfl) (by rfl) ?_
    k_steps
    unfold Stop
    refine PySem.W.kun_lenL (IsList.ext W2.list (S.heap F3 N3 fun p hp => List.Mem.tail _ (List.mem_append_left _ hp))) (k := (ys.length : Int)) (by simp [lx2]) (by omega) ?_
    k_steps
    rename IsRange _ _ _ _ _ _ _ _ => hr2
    rename Fr _ _ _ _ => F4
    rename News _ _ _ _ => N4
    refine LCt.CompSrcT.range (n := ys.length) hh F4 N4 hr2 (small_nat (by omega)) (by simp [rangeSize_nat]) (by rw [sizeLine_eq]; omega) ?_
    intro g2'
    refine compT_ind (n := ys.length) (fun j ys' news => news = ((DL, LCg.lst vsL) :: things) ++ frs ∧ IntsAre ys' (((List.range j).filter (leftB rows1 rows2)).map Int.ofNat)) ⟨rfl, .nil⟩ ?fin2 ?turn2
    case fin2 =>
      rintro vsF news ⟨rfl, iF⟩
      clear F4 N4 hr2
      unfold LCg.FinA
      intro DF h5 tk5 F5 N5' oF
      have off5 := off1_mem oF
      have N5 : News g L h5 (((DF, LCg.lst vsF) :: (DL, LCg.lst vsL) :: things) ++ frs) := N5'
      have nDF : DF ∉ frs.map (·.1) := fun q => by
        (obtain q82 := List.mem_map.mp q
         with_reducible refine x1_2 q82 fun x hx e => ?_
         clear q82)
        exact off5 x (List.mem_append_right _ hx) e
      (obtain q92 : ∃ m6, Fr g L h5 m6 ∧ m6 (Str.ofString "keys") = some (.ref KR) ∧ m6 (Str.ofString "lacks") = some (.ref DL) ∧ m6 (Str.ofString "left") = some (.ref DF) := (i1_4 _ F5 (by kd_p) (by kd_p) (by kd_p))
       with_reducible refine x1_4 q92 fun m6 F6 p3 p4 p5 => ?_
       clear q92)
      clear F5 N5' oF off5
      dsimp only
      k_steps
      unfold Stop
      have hsub5 : ∀ p ∈ things, p ∈ (DF, LCg.lst vsF) :: (DL, LCg.lst vsL) :: (things ++ frs) := fun p hp => List.Mem.tail _ (List.Mem.tail _ (List.mem_append_left _ hp))
      rename Fr _ _ _ _ => F6'
      rename News _ _ _ _ => N6'
      refine item_in (IsList.ext tKR (S.heap F6' N6' hsub5)) (by decide) (by decide) (show _ = some (Value.ref K1) from rfl) ?_
      k_steps
      unfold Stop
      refine list_copyK F6' N6' (IsList.ext Q1.list (S.heap F6' N6' hsub5)) (fun O1 q1 h7 F7 N7 lt7 => ?_) (by rw [sizeLine_eq]; simp [Q1.len]; omega)
      clear F6' N6'
      k_steps
      unfold Stop
      refine item_in (IsList.ext tKR (S.heap F7 N7 fun p hp => List.Mem.tail _ (hsub5 p hp))) (by decide) (by decide) (show _ = some (Value.ref K2) from rfl) ?_
      k_steps
      unfold Stop
      refine list_copyK F7 N7 (IsList.ext Q2.list (S.heap F7 N7 fun p hp => List.Mem.tail _ (hsub5 p hp))) (fun O2 q2 h8 F8 N8 lt8 => ?_) (by rw [sizeLine_eq]; simp [Q2.len]; omega)
      clear F7 N7
      k_steps
      unfold Stop
      rename_i T9 h91 l9 h92 h93 h9 F9_0 N9_0
      have N9 : News g L h9 (((O2, W.listOf (List.map Value.ref ks2).toArray q2) :: (O1, W.listOf (List.map Value.ref ks1).toArray q1) :: (DF, LCg.lst vsF) :: (DL, LCg.lst vsL) :: things) ++ frs) := fun p hp => N9_0 p (List.Mem.tail _ hp)
      (obtain q93 : ∃ m9, Fr g L h9 m9 ∧ m9 (Str.ofString "keys") = some (.ref KR) ∧ m9 (Str.ofString "lacks") = some (.ref DL) ∧ m9 (Str.ofString "left") = some (.ref DF) ∧ m9 (Str.ofString "one") = some (.ref O1) ∧ m9 (Str.ofString "two") = some (.ref O2) := ⟨_, F9_0, by kd_p, by kd_p, by kd_p, by kd_p, by kd_p⟩
       with_reducible refine x1_6 q93 fun m9 F9 r1 r2 r3 r4 r5 => ?_
       clear q93)
      clear F9_0 N9_0 l9 p1 p2 p3 p4 p5
      have n1 : O1 ∉ frs.map (·.1) := lt_notin (fun q hq => lt7 q (List.Mem.tail _ (List.Mem.tail _ (List.mem_append_right _ hq))))
      have n2 : O2 ∉ frs.map (·.1) := lt_notin (fun q hq => lt8 q (List.Mem.tail _ (List.Mem.tail _ (List.Mem.tail _ (List.mem_append_right _ hq)))))
      have ne12 : O1 ≠ O2 := Nat.ne_of_lt (lt8 _ (List.Mem.head _))
      have offO : ∀ p ∈ (DF, LCg.lst vsF) :: (DL, LCg.lst vsL) :: things, p.1 ∉ [O1, O2] := fun p hp q => by
        have z1 : p.1 < O1 := lt7 p (List.mem_append_left _ hp)
        have z2 : p.1 < O2 := lt8 p (List.Mem.tail _ (List.mem_append_left _ hp))
        rcases List.mem_cons.mp q with q | q
        · exact Nat.ne_of_lt z1 q
        · exact Nat.ne_of_lt z2 (List.mem_singleton.mp q)
      have hcs : ∀ b ∈ [O1, O2], g.get? b = none ∧ b ≠ L := fun b hb => by
        refine mc1 hb ?_ fun hb => ?_
        · have z := N9 _ (List.mem_append_left _ (List.Mem.tail _ (List.Mem.head _))); exact ⟨z.2.2, z.2.1⟩
        · rw [List.mem_singleton.mp hb]; have z := N9 _ (List.mem_append_left _ (List.Mem.head _)); exact ⟨z.2.2, z.2.1⟩
      (obtain q94 := Scn.makeC (new := (O2, W.listOf (List.map Value.ref ks2).toArray q2) :: (O1, W.listOf (List.map Value.ref ks1).toArray q1) :: (DF, LCg.lst vsF) :: (DL, LCg.lst vsL) :: things) (envOfC (Str.ofString "_law_bags") lbScope L 111 (.ref 110)) [O1, O2] (fun b hb => (hcs b hb).1) S.hl S.Fs F9 N9 (List.forall_mem_cons.mpr ⟨n2, List.forall_mem_cons.mpr ⟨n1, List.forall_mem_cons.mpr ⟨nDF, List.forall_mem_cons.mpr ⟨nDL, S.hap⟩⟩⟩⟩) rfl
       with_reducible refine x1_4 q94 fun th9 S9 N9' off9 all9 => ?_
       clear q94)
      have put9 : ∀ p ∈ (DF, LCg.lst vsF) :: (DL, LCg.lst vsL) :: things, p ∈ th9 := fun p hp => all9 p (List.Mem.tail _ (List.Mem.tail _ hp)) (offO p hp)
      have e9 := S.cl _ S9.gv fun p hp => S9.tv p (put9 p (List.Mem.tail _ (List.Mem.tail _ hp)))
      have KC9 := KC.ext e9
      have RK1 : ∀ (i : Nat) (k : Addr) (a : Rec), ks1[i]? = some k → xs[i]? = some a → KeyRec _ C k a := fun i k a e1 e2 => (Q1.at_ i k a e1 e2).ext e9
      have RK2 : ∀ (i : Nat) (k : Addr) (a : Rec), ks2[i]? = some k → ys[i]? = some a → KeyRec _ C k a := fun i k a e1 e2 => (Q2.at_ i k a e1 e2).ext e9
      have H9 := here_ofB (env := envOfC (Str.ofString "_law_bags") lbScope L 111 (.ref 110)) S9.hl S9.Fs F9 N9' Split.append X' T' (fun b hb => (hcs b hb).1)
      have CU : ∀ gens drawn toks os, QuietB w (A.deeper (envOfC (Str.ofString "_law_bags") lbScope L 111 (.ref 110))) (call (.ref 28) [.ref O1, .ref O2]) ⟨h9, gens, drawn, toks, os⟩ [O1, O2] _ := fun _ _ _ _ =>
        c_uld H9 hh (by show A.depth + 1 + 40 < _; omega) (by show A.units + 3 + 700 < _; omega) KC9 crefl ne12 (N9 _ (List.mem_append_left _ (List.Mem.tail _ (List.Mem.head _)))).1 (N9 _ (List.mem_append_left _ (List.Mem.head _))).1 Q1.len Q2.len Q1.small Q2.small RK1 RK2
      refine CU _ _ _ _ _ _ ?_
      (rintro y h10 tk10 X10 h9q; (with_reducible refine x6_1 h9q fun t a ms ids n1' n2' q9z => x0_6 q9z fun r95 t1 t2 x1 x2 UR => ?_
                                   clear q9z
                                   try clear h9q
                                   obtain rfl := r95))
      obtain ⟨rfl, rfl⟩ := bags_ok ms ids UR
      (obtain q96 := backB S9.hl S9.Fs F9 N9' rfl (fun p hp q => (List.mem_append.mp q).elim (off9 p hp) (S9.hap p hp)) hcs X10
       with_reducible refine x1_4 q96 fun frs10 SU10 Fs10 F10 N10 => ?_
       clear q96)
      have N11 : News g L h10 (((O1, W.listOf #[] n1') :: (O2, W.listOf (keysAt ks2 (leftN rows1 rows2)).toArray n2') :: th9) ++ frs10) := fun p hp => by
        refine mc1 hp ?_ fun hp => ?_
        · exact ⟨x1, (hcs _ (List.Mem.head _)).2, (hcs _ (List.Mem.head _)).1⟩
        · refine mc1 hp ?_ fun hp => ?_
          · exact ⟨x2, (hcs _ (List.Mem.tail _ (List.Mem.head _))).2, (hcs _ (List.Mem.tail _ (List.Mem.head _))).1⟩
          · exact N10 p hp
      (obtain q97 := Scn.make (envOfC (Str.ofString "_law_bags") lbScope L 111 (.ref 110)) S9.hl Fs10 F10 N11 (List.forall_mem_cons.mpr ⟨fun q => n1 (sameUp_map SU10 q), List.forall_mem_cons.mpr ⟨fun q => n2 (sameUp_map SU10 q), fun p hp q => S9.hap p hp (sameUp_map SU10 q)⟩⟩) rfl
       with_reducible refine x1_3 q97 fun th11 S11 N11' all11 => ?_
       clear q97)
      have e11 := StaysIn.trans e9 (StaysIn.trans X10.keep view_drop)
      have o1 : (view (A.deeper (envOfC (Str.ofString "_law_bags") lbScope L 111 (.ref 110))) [] h10).IsList O1 #[] := (i1_3 _ (S11.tv _ (all11 _ (List.Mem.head _))) rfl ⟨_, rfl⟩)
      have o2 : (view (A.deeper (envOfC (Str.ofString "_law_bags") lbScope L 111 (.ref 110))) [] h10).IsList O2 (keysAt ks2 (leftN rows1 rows2)).toArray := (i1_3 _ (S11.tv _ (all11 _ (List.Mem.tail _ (List.Mem.head _)))) rfl ⟨_, rfl⟩)
      have oL : (view (A.deeper (envOfC (Str.ofString "_law_bags") lbScope L 111 (.ref 110))) [] h10).IsList DL vsL.toArray := (i1_3 _ (S11.tv _ (all11 _ (List.Mem.tail _ (List.Mem.tail _ (put9 _ (List.Mem.tail _ (List.Mem.head _))))))) rfl ⟨_, rfl⟩)
      have oF : (view (A.deeper (envOfC (Str.ofString "_law_bags") lbScope L 111 (.ref 110))) [] h10).IsList DF vsF.toArray := (i1_3 _ (S11.tv _ (all11 _ (List.Mem.tail _ (List.Mem.tail _ (put9 _ (List.Mem.head _)))))) rfl ⟨_, rfl⟩)
      replace t1 := t1.keeps view_drop
      replace t2 := IsList.ext t2 view_drop
      generalize view (A.deeper _) [] h10 = V11 at t1 t2 e11 o1 o2 oL oF S11
      clear N9 N9' F9 X10 N10 N11 all11 all9 put9 e9 offO hcs lt7 lt8 UR x1 x2 n1 n2 ne12
      k_steps
      unfold Stop
      have SU11 := SU10
      rename Fr _ _ _ _ => F12
      rename News _ _ _ _ => N12
      have st12 := S11.heap F12 N12 (fun p hp => List.mem_append_left _ hp)
      (obtain q98 := id t1
       refine x1_3 q98 fun ot et ct q99 => ?_
       clear q98
       with_reducible refine x1_1 q99 fun nt dt => ?_
       clear q99)
      refine IsiPair.tuple_tuple (st12 _ _ et) ct ?_
      clear st12
      k_steps
      unfold Stop
      rename Fr _ _ _ _ => F13
      rename News _ _ _ _ => N13
      refine PySem.W.kun_lenT (i1_3 ot ((S11.heap F13 N13 (fun p hp => List.mem_append_left _ hp)) _ _ et) ct ⟨nt, dt⟩) (k := 2) rfl (by decide) ?_
      k_steps
      unfold Stop
      rename Fr _ _ _ _ => F14_0
      rename News _ _ _ _ => N14
      (obtain q910 : ∃ m14, Fr g L _ m14 ∧ m14 (Str.ofString "keys") = some (.ref KR) ∧ m14 (Str.ofString "lacks") = some (.ref DL) ∧ m14 (Str.ofString "left") = some (.ref DF) ∧ m14 (Str.ofString "one") = some (.ref O1) ∧ m14 (Str.ofString "two") = some (.ref O2) ∧ m14 (Str.ofString "told") = some (.ref t) := ⟨_, F14_0, by kd_p, by kd_p, by kd_p, by kd_p, by kd_p, by kd_p⟩
       with_reducible refine x1_1 q910 fun m14 q9z => x0_7 q9z fun F14 s1 s2 s3 s4 s5 s6 => ?_
       clear q9z
       clear q910)
      clear F14_0
      refine item_tuple (t1.keeps (S11.heap F14 N14 fun p hp => List.mem_append_left _ hp)) (by decide) (by decide) (j := 1) rfl (show _ = some (Value.ref O2) from rfl) ?_
      k_steps
      unfold Stop
      rename_i lE hE FE NE ltE
      refine ne_all (IsList.ext o1 (S11.heap FE NE fun p hp => List.Mem.tail _ (List.mem_append_left _ hp))) (i1_3 _ (NE.get (List.Mem.head _)) rfl ⟨_, rfl⟩) rfl (by show A.units + 3 < _; omega) (fun j h1 => absurd h1 (Nat.not_lt_zero _)) ?_
      replace NE : News g L hE (th11 ++ frs10) := fun p hp => NE p (List.Mem.tail _ hp)
      clear ltE
      k_steps
      unfold Stop
      rename Fr _ _ _ _ => F15
      rename News _ _ _ _ => N15
      refine item_tuple (t1.keeps (S11.heap F15 N15 fun p hp => List.mem_append_left _ hp)) (by decide) (by decide) (j := 0) rfl (show _ = some (Value.ref a) from rfl) ?_
      k_steps
      unfold Stop
      refine item_in (IsList.ext tKR (StaysIn.trans e11 (S11.heap F15 N15 fun p hp => List.mem_append_left _ hp))) (by decide) (by decide) (show _ = some (Value.ref K1) from rfl) ?_
      k_steps
      unfold Stop
      have hL1 : ∀ p ∈ lackN rows1 rows2, p < ks1.length := fun p hp => by
        (obtain q83 := List.mem_map.mp (List.mem_filter.mp hp).1
         with_reducible refine x1_2 q83 fun q hq r84 => ?_
         clear q83
         obtain rfl := r84)
        have := List.mem_range.mp hq
        have := Q1.len
        omega
      have hL2 : ∀ p ∈ leftN rows1 rows2, p < ks2.length := fun p hp => by
        have := List.mem_range.mp (List.mem_filter.mp hp).1
        have := Q2.len
        omega
      have hz1 : (lackN rows1 rows2).length ≤ 1000 := Nat.le_trans (List.length_filter_le _ _) (by simp; omega)
      have hz2 : (leftN rows1 rows2).length ≤ 1000 := Nat.le_trans (List.length_filter_le _ _) (by simp; omega)
      have iL' : IntsAre vsL ((lackN rows1 rows2).map Int.ofNat) := by unfold lackN; rw [lr1] at iL ⊢; exact iL
      have iF' : IntsAre vsF ((leftN rows1 rows2).map Int.ofNat) := by unfold leftN; rw [lr2]; exact iF
      rw [keysAt_places] at t2 o2
      have kl1 : ks1.length ≤ 1000 := by have := Q1.len; omega
      have kl2 : ks2.length ≤ 1000 := by have := Q2.len; omega
      refine c_are (A := A.deeper _) (kv := ks1) (ps := lackN rows1 rows2) (vs := vsL) (S11.here F15 N15 X' T') hh (by show A.depth + 1 + 30 < _; omega) (by show A.units + 3 + 200 < _; omega) (IsList.ext t2 (S11.seen F15 N15 (fun p hp => hp) rfl)) (IsList.ext Q1.list (StaysIn.trans e11 (S11.seen F15 N15 (fun p hp => hp) rfl))) (IsList.ext oL (S11.seen F15 N15 (fun p hp => hp) rfl)) iL' hz1 kl1 hL1 _ _ ?_
      rintro y h16 tk16 X16 rfl
      (obtain q911 := S11.back F15 N15 (fun p hp => hp) S11.hap rfl X16
       with_reducible refine x2_6 q911 fun frs16 th16 SU16 S16 F16 N16 all16 st16 => ?_
       clear q911)
      generalize view (A.deeper _) [] h16 = V16 at S16 st16
      clear N15 F15 X16 all16
      k_steps
      unfold Stop
      refine item_in (IsList.ext tKR (StaysIn.trans e11 (StaysIn.trans st16 (S16.heap F16 N16 fun p hp => List.mem_append_left _ hp)))) (by decide) (by decide) (show _ = some (Value.ref K2) from rfl) ?_
      k_steps
      unfold Stop
      refine c_are (A := A.deeper _) (kv := ks2) (ps := leftN rows1 rows2) (vs := vsF) (S16.here F16 N16 X' T') hh (by show A.depth + 1 + 30 < _; omega) (by show A.units + 3 + 200 < _; omega) (IsList.ext o2 (StaysIn.trans st16 (S16.seen F16 N16 (fun p hp => hp) rfl))) (IsList.ext Q2.list (StaysIn.trans e11 (StaysIn.trans st16 (S16.seen F16 N16 (fun p hp => hp) rfl)))) (IsList.ext oF (StaysIn.trans st16 (S16.seen F16 N16 (fun p hp => hp) rfl))) iF' hz2 kl2 hL2 _ _ ?_
      rintro y h17 tk17 X17 rfl
      (obtain q912 := S16.back F16 N16 (fun p hp => hp) S16.hap rfl X17
       with_reducible refine x2_6 q912 fun frs17 th17 SU17 S17 F17 N17 c913 c914 => ?_
       clear q912
       clear c913
       clear c914)
      k_steps
      exact ret _ _ _ _ ((SU11.trans SU16).trans SU17) S17.Fs F17 (fun p hp => N17 p (List.mem_append_right _ hp))
    case turn2 =>
      rintro j ys' news' hj ⟨rfl, iY⟩ v I2 oI2 C2 oC2 D m2 h2 tk2 E2 ⟨tj, rfl⟩ hC hx F2 N2 off ne
      rw [Int.zero_add] at hx
      clear F4 N4 hr2
      k_steps
      unfold Stop
      have hsub : ∀ p ∈ things, p ∈ (I2, oI2) :: (C2, oC2) :: (D, LCg.lst ys') :: (((DL, LCg.lst vsL) :: things) ++ frs) := fun p hp => List.Mem.tail _ (List.Mem.tail _ (List.Mem.tail _ (List.mem_append_left _ (List.Mem.tail _ hp))))
      have st2 := S.heap F2 N2 hsub
      have hql : j < rows2.length := by omega
      obtain ⟨b, hb⟩ : ∃ b, bs2[j]? = some b := ⟨_, List.getElem?_eq_getElem (by omega)⟩
      have hr : rows2[j]? = some rows2[j] := List.getElem?_eq_getElem hql
      have hgd : rows2.getD j [] = rows2[j] := by rw [List.getD_eq_getElem?_getD, hr]; rfl
      have Rb := W2.at_ j b _ hb hr
      refine slice_list (s := ⟨h2, _, _, _, _⟩) F2 N2 (IsList.ext W2.list st2) .none (.int _ _) ?_ (hsz := by simp [lx2]; rw [sizeLine_eq]; omega)
      intro h3 F3 N3
      have st3 := S.heap F3 N3 (fun p hp => List.Mem.tail _ (hsub p hp))
      have RD : RankRow h3 _ (bs2.take (j + 1)) (rows2.take (j + 1)) := RankRow.take (fun i b r e1 e2 => (W2.at_ i b r e1 e2).ext st3) W2.len (i1_3 _ (N3.get (List.Mem.head _)) rfl ⟨_, by rw [show ((j : Int) + 1) = ((j + 1 : Nat) : Int) from rfl, pick_upto]⟩)
      clear st2
      have hl3 : h3.IsList a1 (bs1.map Value.ref).toArray := IsList.ext W1.list st3
      k_steps
      unfold Stop
      refine getMethod_list_of PySem.F.slot_list_count PySem.F.type_list_count RD.list ⟨_, N3.get (List.Mem.head _), rfl⟩ ?_
      k_steps
      unfold Stop
      refine item_in (v := .ref b) (IsList.ext W2.list st3) (Int.natCast_nonneg _) (by omega) (by simp [hb]) ?_
      k_steps
      unfold Stop
      refine row_count RD (Rb.ext st3) (by show A.units + 3 + 70 < _; omega) ?_
      k_steps
      unfold Stop
      refine getMethod_list_of PySem.F.slot_list_count PySem.F.type_list_count hl3 ⟨_, st3 _ _ nd1, rfl⟩ ?_
      k_steps
      unfold Stop
      refine item_in (v := .ref b) (IsList.ext W2.list st3) (Int.natCast_nonneg _) (by omega) (by simp [hb]) ?_
      k_steps
      unfold Stop
      refine row_count (W1.ext st3) (Rb.ext st3) (by show A.units + 3 + 70 < _; omega) ?_
      k_steps
      · rename_i hcmp
        have hB : leftB rows1 rows2 j = true := by
          unfold leftB; rw [hgd]; exact decide_eq_true (Int.ofNat_lt.mp hcmp)
        refine (i3_7 h3 _ _ rfl F3 (fun p hp => N3 p (List.Mem.tail _ hp)) off trivial rfl ?_)
        rw [leftN_step, if_pos hB]
        exact IntsAre.push iY
      · rename_i hcmp
        have hB : ¬ leftB rows1 rows2 j = true := by
          unfold leftB; rw [hgd]; exact fun h => hcmp (Int.ofNat_lt.mpr (of_decide_eq_true h))
        refine (i3_7 h3 _ _ rfl F3 (fun p hp => N3 p (List.Mem.tail _ hp)) off trivial rfl ?_)
        rw [leftN_step, if_neg hB, List.append_nil]
        exact iY
  case turn1 =>
    rintro j ys' news' hj ⟨rfl, iY⟩ v I2 oI2 C2 oC2 D m2 h2 tk2 E2 ⟨tj, rfl⟩ hC hx F2 N2 off ne
    clear F1 N1 hr1
    k_steps
    unfold Stop
    have hsub : ∀ p ∈ things, p ∈ (I2, oI2) :: (C2, oC2) :: (D, LCg.lst ys') :: (things ++ frs) := fun p hp => List.Mem.tail _ (List.Mem.tail _ (List.Mem.tail _ (List.mem_append_left _ hp)))
    have st2 := S.heap F2 N2 hsub
    have hpz : ((xs.length : Int) - 1 - (j : Int)) = ((xs.length - 1 - j : Nat) : Int) := by omega
    rw [hpz] at hx
    have hpl : xs.length - 1 - j < xs.length := by omega
    obtain ⟨q, hq9⟩ : ∃ q, q = xs.length - 1 - j := ⟨_, rfl⟩
    rw [← hq9] at hpz hx hpl
    have hql : q < rows1.length := by omega
    obtain ⟨b, hb⟩ : ∃ b, bs1[q]? = some b := ⟨_, List.getElem?_eq_getElem (by omega)⟩
    have hr : rows1[q]? = some rows1[q] := List.getElem?_eq_getElem hql
    have hgd : rows1.getD q [] = rows1[q] := by rw [List.getD_eq_getElem?_getD, hr]; rfl
    have Rb := W1.at_ q b _ hb hr
    refine slice_list (s := ⟨h2, _, _, _, _⟩) F2 N2 (IsList.ext W1.list st2) (.int _ _) .none ?_ (hsz := by simp [lx1]; rw [sizeLine_eq]; omega)
    intro h3 F3 N3
    have st3 := S.heap F3 N3 (fun p hp => List.Mem.tail _ (hsub p hp))
    have RD : RankRow h3 _ (bs1.drop q) (rows1.drop q) := RankRow.drop (fun i b r e1 e2 => (W1.at_ i b r e1 e2).ext st3) W1.len (i1_3 _ (N3.get (List.Mem.head _)) rfl ⟨_, by rw [hpz, pick_from (by omega)]⟩)
    clear st2
    have hl3 : h3.IsList a2 (bs2.map Value.ref).toArray := IsList.ext W2.list st3
    k_steps
    unfold Stop
    refine getMethod_list_of PySem.F.slot_list_count PySem.F.type_list_count RD.list ⟨_, N3.get (List.Mem.head _), rfl⟩ ?_
    k_steps
    unfold Stop
    refine item_in (v := .ref b) (IsList.ext W1.list st3) (Int.natCast_nonneg _) (by omega) (by simp [hb]) ?_
    k_steps
    unfold Stop
    refine row_count RD (Rb.ext st3) (by show A.units + 3 + 70 < _; omega) ?_
    k_steps
    unfold Stop
    refine getMethod_list_of PySem.F.slot_list_count PySem.F.type_list_count hl3 ⟨_, st3 _ _ nd2, rfl⟩ ?_
    k_steps
    unfold Stop
    refine item_in (v := .ref b) (IsList.ext W1.list st3) (Int.natCast_nonneg _) (by omega) (by simp [hb]) ?_
    k_steps
    unfold Stop
    refine row_count (W2.ext st3) (Rb.ext st3) (by show A.units + 3 + 70 < _; omega) ?_
    have hq8 : rows1.length - 1 - j = q := by rw [lr1]; exact hq9.symm
    k_steps
    · rename_i hcmp
      have hB : lackB rows1 rows2 (rows1.length - 1 - j) = true := by
        rw [hq8]; unfold lackB; rw [hgd]; exact decide_eq_true (Int.ofNat_lt.mp hcmp)
      refine (i3_7 h3 _ _ rfl F3 (fun p hp => N3 p (List.Mem.tail _ hp)) off trivial rfl ?_)
      rw [lackN_step, if_pos hB, hq8]
      exact IntsAre.push iY
    · rename_i hcmp
      have hB : ¬ lackB rows1 rows2 (rows1.length - 1 - j) = true := by
        rw [hq8]; unfold lackB; rw [hgd]; exact fun h => hcmp (Int.ofNat_lt.mpr (of_decide_eq_true h))
      refine (i3_7 h3 _ _ rfl F3 (fun p hp => N3 p (List.Mem.tail _ hp)) off trivial rfl ?_)
      rw [lackN_step, if_neg hB, List.append_nil]
      exact iY
end Mine
end PartM1

end MacD
section PartD2x
open PySem PySem.W PyProof.Rows PySem.Calls
set_option Elab.async false
set_option maxRecDepth 100000
set_option maxHeartbeats 4000000
set_option linter.unusedVariables false
set_option rowWalk.seconds 0
namespace Mine
theorem start_D2x {M : Model} {A : Around} {env : Env} {E : Value → Shared → Prop} {s : Shared} {Q : Flow → Shared → Prop} (h : Q .next s) : wpAny M A (execs [] env) Q E s := by
  w_top off
  walk1
  exact h
open TI (Frs SameUp)
set_option hygiene false in
local macro_rules | `(tactic| walk_at "call builtin:iter") => `(tactic| (k_here; (with_reducible show wpAny _ _ (call (Value.builtin "iter") [Value.ref _]) _ _ _); refine iter1_F (by k_asm) (by k_asm) (by assumption) ?_; intro I8 h8 F8 N8 lt8 lt7))
local macro_rules | `(tactic| walk_at "exec For") => `(tactic| ((with_reducible show wpAny _ _ (exec (Stmt.For _ _ _ _ _) _) _ _ _); isplit))
local macro_rules | `(tactic| walk_at "call ref") => `(tactic| ((with_reducible show wpAny _ _ (call (Value.ref 72) [_, _]) _ _ _); isplit))
theorem c_reduceX {w : World} {A : Around} {s : Shared} {ls : Addr} {xs : List Addr} (hxs : ∀ b ∈ xs, b < s.heap.objs.size) (HX : (Mine.hd.heap_1 w.params).In (view A (67 :: xs) s.heap)) {fs : List (Value × (Rec → Rec → Int))} (H : Here w A [67] s.heap) (hT : TabX A xs s.heap 67 93 11 (Str.ofString "_law_then.<locals>.<lambda>")) (hh : A.handled = none) (hd : A.depth + 50 < recursionLimit)
    (hls : (view A [67] s.heap).IsList ls (fs.map (·.1)).toArray) (hlen : fs.length ≤ 8) (hfs : ∀ p ∈ fs, CmpOk w (view A (67 :: xs) s.heap) p.1 3 p.2) :
    QuietB w A (call (.ref 51) [.ref 72, .ref ls, .ref 79]) s [67] (fun r h => CmpOk w (view A (67 :: xs) h) r (3 + fs.length) (chain (fs.map (·.2))) ∧ TabX A xs h 67 93 11 (Str.ofString "_law_then.<locals>.<lambda>")) := by
  intro Q E ret
  have X := H.frag
  have XS : (Mine.hd.heap_1 w.params).In s.heap := X.keeps view_le
  revert XS X HX; k_fill; intro HX X XS
  refine wpAny_call ?_
  obtain ⟨oT, hTo⟩ : ∃ o, s.heap.get? 67 = some o := by rcases hT with hT | ⟨_, _, _, _, hT, _⟩ <;> exact ⟨_, hT⟩
  k_dflt (refine' enter_m (cl := []) (hid := [67]) (news := [(67, oT)]) H ?hN (XS 51 _ (by k_is)) ?hd (codeRec_of XS ?hc) ?hr ?hb ?hl ?_ ?hcell ?hco ?hg ?hk; (case hN => intro p hp; rcases List.mem_singleton.mp hp with rfl; exact ⟨hTo, List.Mem.head _⟩); (case hd => exact rfl); (case hc => k_is); (case hr => omega); (case hb => exact BindsTo.of_defaults rfl (XS _ _ (by k_is)) rfl rfl rfl); (case hl => exact locs rfl); (case hcell => decide); (case hco => exact rfl); (case hg => exact rfl); (case hk => exact rfl))
  clear XS X
  intro l frs p loose mean mg mb L' h' I' X' T' F' N'
  have hl := I'.hl
  have Fs := I'.fs
  have SU := SameUp.refl frs
  obtain ⟨gx, hgx⟩ : ∃ gx, gx = view A (67 :: xs) s.heap := ⟨_, rfl⟩
  have gxg : ∀ b o, gx.get? b = some o → (view A [67] s.heap).get? b = some o ∧ b ∉ xs := fun b o e => by
    rw [hgx] at e
    obtain ⟨n, e⟩ := view_get e
    exact ⟨view_of (fun q => n ((List.mem_append.mp q).elim (fun q => List.mem_append_left _ (List.mem_singleton.mp q ▸ List.Mem.head _)) (List.mem_append_right _))) e, fun q => n (List.mem_append_left _ (List.Mem.tail _ q))⟩
  have gxv : ∀ (A' : Around) (I h), (view A [67] s.heap).StaysIn (view A' [67, I] h) → gx.StaysIn (view A' (67 :: I :: xs) h) := fun A' I h st b o e => by
    obtain ⟨e1, nx⟩ := gxg b o e
    obtain ⟨n, e2⟩ := view_get (st b o e1)
    refine view_of (fun q => n ?_) e2
    rcases List.mem_append.mp q with q | q
    · rcases List.mem_cons.mp q with q | q
      · exact q ▸ List.Mem.head _
      · rcases List.mem_cons.mp q with q | q
        · exact q ▸ List.Mem.tail _ (List.Mem.head _)
        · exact absurd q nx
    · exact List.mem_append_right _ q
  rw [← hgx] at HX hfs
  have hT : s.heap.get? 67 = some (tabObj #[]) ∨ ∃ c oc vs t, s.heap.get? 67 = some (tabObj #[rawInt 93, rawInt 11, .ref c]) ∧ gx.get? c = some oc ∧ oc.data = .fields vs ∧ vs[1]? = some (.str (Str.ofString "_law_then.<locals>.<lambda>") t) := hgx ▸ hT
  have hsz0 : ∀ b ∈ xs, b < L' := fun b hb => Nat.lt_of_lt_of_le (hxs b hb) I'.above
  clear hxs
  generalize hg : view A [67] s.heap = g at *
  (try dsimp only); (try k_fold)
  k_steps
  refine id ?_
  show wpAny _ _ _ _ _ _
  rename Fr _ _ _ _ => F9
  rename News _ _ _ _ => N9
  have hI67 : (67 : Nat) ≠ I8 := Nat.ne_of_lt (lt8 _ (List.Mem.head _))
  have hIf : ∀ p ∈ frs, p.1 ≠ I8 := fun p hp => Nat.ne_of_lt (lt8 p (List.Mem.tail _ hp))
  have gI : g.get? I8 = none := (N9 _ (List.Mem.head _)).2.2
  have g67 : g.get? 67 = none := (N9 _ (List.Mem.tail _ (List.Mem.head _))).2.2
  have hL67 : (67 : Nat) ≠ L' := (N9 _ (List.Mem.tail _ (List.Mem.head _))).2.1
  have f67 : 67 ∉ frs.map (·.1) := fun q => by
    (obtain q81 := List.mem_map.mp q
     with_reducible refine x1_2 q81 fun p hp e => ?_
     clear q81)
    exact frs_ne I' hTo (by rcases hT with hT | ⟨_, _, _, _, hT, _⟩ <;> (rw [hTo] at hT; cases hT; exact fun _ _ q => by cases q)) p hp e
  refine for_lit (I := I8) (l := ls) (vs := (fs.map (·.1)).toArray) (J := fun A2 i h => ∃ frs' m vacc, SameUp frs frs' ∧ Frs l frs' ∧ Fr g L' h m ∧ News g L' h frs' ∧
      TabX A2 (I8 :: xs) h 67 93 11 (Str.ofString "_law_then.<locals>.<lambda>") ∧ m (Str.ofString "function") = some (.ref 72) ∧ m (Str.ofString "value") = some vacc ∧
      CmpOk w (view A2 (67 :: I8 :: xs) h) vacc (3 + i) (chain ((fs.map (·.2)).take i))) hh (fun _ => rfl) ?hi ?h0 ?hI ?hl ?step ?hlI ?done
  case hi => k_steps
  case h0 =>
    have hvB : ∀ env : Env, env.frame = some L' → g.StaysIn (view (A.deeper env) [67, I8] _) := fun env hf => in_viewB (hid := [67, I8]) F9 N9 (Split.cons (Split.cons Split.nil)) Fs hl hf (fun b hb => by
      refine mc1 hb ?_ fun hb => ?_
      · exact g67
      · rcases List.mem_singleton.mp hb with rfl; exact gI)
    refine (i3_8 frs _ (.ref 79) SU Fs F9 (fun p hp => N9 p (List.Mem.tail _ (List.Mem.tail _ hp))) ?_ rfl rfl ((c_alike (HX.keeps (gxv _ _ _ (hvB _ rfl)))).mono (by omega)))
    have e67 := (N9 _ (List.Mem.tail _ (List.Mem.head _))).1
    rcases hT with hT | ⟨c, oc, vs, t, hT, ho, d1, d2⟩
    · rw [hTo] at hT; cases hT; exact Or.inl e67
    · rw [hTo] at hT; cases hT; exact Or.inr (i4_4 c oc vs t e67 (gxv _ _ _ (hvB _ rfl) _ _ ho) d1 d2)
  case hI => exact (i1_3 _ ((N9 _ (List.Mem.head _)).1) rfl rfl)
  case hl => exact (let ⟨o, ho, r⟩ := hls; ⟨o, F9.keep _ _ ho, r⟩)
  case hlI => exact fun q => by (refine x1_2 hls fun o ho _ => ?_
                                 try clear hls); rw [q, gI] at ho; cases ho
  case done =>
    (rintro h h1 tk h9q; (with_reducible refine x3_1 h9q fun frs' m vacc q9z => x0_8 q9z fun SU' Fs' F' N' T1 mf mv K => ?_
                          clear q9z
                          try clear h9q); rintro hx)
    have hLI : L' ≠ I8 := Nat.ne_of_lt lt7
    have hIf' : ∀ p ∈ frs', p.1 ≠ I8 := fun p hp => by
      (obtain q82 := SU'.fwd p hp
       with_reducible refine x1_2 q82 fun x hx' e => ?_
       clear q82)
      rw [e]; exact hIf x hx'
    have F1 : Fr g L' h1 m := ⟨F'.ns.extBut hx hLI, fun b o e => hx b o (fun q => by subst q; rw [gI] at e; cases e) (F'.keep b o e), F'.above⟩
    have N1 : News g L' h1 frs' := fun p hp => ⟨hx _ _ (hIf' p hp) (N' p hp).1, (N' p hp).2⟩
    clear F9 N9 F' N'
    (try dsimp only)
    k_steps
    show Q _ _
    have hup : ∀ env : Env, env.frame = some L' → (view (A.deeper env) (67 :: I8 :: xs) h).StaysIn (view A (67 :: xs) h1) := fun env hf => view_sub (fun b hb => by
      rw [fsA_deeper hl hf]
      rcases List.mem_append.mp hb with hb | hb
      · refine mc1 hb ?_ fun hb => ?_
        · exact List.mem_append_left _ (List.Mem.head _)
        · exact List.mem_append_left _ (List.Mem.tail _ (List.Mem.tail _ hb))
      · exact List.mem_append_right _ (List.Mem.tail _ hb)) fun b o n e => hx b o (fun q => n (q ▸ List.mem_append_left _ (List.Mem.tail _ (List.Mem.head _)))) e
    subst hg
    refine ret _ _ _ (ext_of I'.hl I'.fs I'.fr F1 N1 SU' Split.nil I'.above) ⟨?_, ?_⟩
    · have K' := K.ext (hup _ rfl)
      rw [List.take_of_length_le (by simp)] at K'
      simpa using K'
    · rcases T1 with T1 | ⟨c, oc, vs, t, T1, ho, d1, d2⟩
      · exact Or.inl (hx _ _ hI67 T1)
      · exact Or.inr (i4_4 c oc vs t (hx _ _ hI67 T1) (hup _ rfl _ _ ho) d1 d2)
  case step =>
    (rintro i v h h1 tk9 E' hv h9q; (with_reducible refine x3_1 h9q fun frs' m vacc q9z => x0_8 q9z fun SU' Fs' F' N' T1 mf mv K => ?_
                                     clear q9z
                                     try clear h9q); rintro hs1 hit1)
    have hLI : L' ≠ I8 := Nat.ne_of_lt lt7
    have hIf' : ∀ p ∈ frs', p.1 ≠ I8 := fun p hp => by
      (obtain q83 := SU'.fwd p hp
       with_reducible refine x1_2 q83 fun x hx' e => ?_
       clear q83)
      rw [e]; exact hIf x hx'
    have F1 := F'.change hs1 hLI.symm gI
    have N1 : News g L' h1 frs' := ksk_news N' hs1 hIf'
    clear F9 N9
    (obtain q84 : ∃ p, fs[i]? = some p ∧ p.1 = v := by
      simp only [List.getElem?_toArray, List.getElem?_map, Option.map_eq_some_iff] at hv
      exact hv
     with_reducible refine x1_2 q84 fun p hp hpe => ?_
     clear q84)
    have hpm : p ∈ fs := List.mem_of_getElem? hp
    have Kp := hfs p hpm
    rw [hpe] at Kp
    (obtain q85 := Kp.fn
     with_reducible refine x1_2 q85 fun q2 r86 f2 => ?_
     clear q85
     obtain rfl := r86)
    refine wpAny_assign_Name (wpAny_storeName_local rfl F1.ns (fun h2 hn2 hs2 => ?_) rfl)
    have F2 := F1.set hn2 hs2
    have N2 := N1.set hs2
    clear F' N' F1 N1
    k_steps
    refine id ?_
    show wpAny _ _ _ _ _ _
    have hil : i < fs.length := (List.getElem?_eq_some_iff.mp hp).1
    have g2 : ∀ b ∈ [67, I8], g.get? b = none := fun b hb => by
      refine mc1 hb ?_ fun hb => ?_
      · exact g67
      · rcases List.mem_singleton.mp hb with rfl; exact gI
    have up12 : ∀ b o, b ≠ I8 → b ≠ L' → h.get? b = some o → h2.get? b = some o := fun b o n1 n2 e => hs2.extBut b o n2 (hs1.extBut b o n1 e)
    have K1 : ∀ env : Env, env.frame = some L' → (view (A.deeper env) (67 :: I8 :: xs) h).StaysIn (view (A.deeper env) (67 :: I8 :: xs) h2) := fun env hf => view_sub (fun b hb => hb) fun b o n e => by
      rw [fsA_deeper hl hf] at n
      exact up12 b o (fun q => n (q ▸ List.mem_append_left _ (List.Mem.tail _ (List.Mem.head _)))) (fun q => n (q ▸ List.mem_append_right _ (List.Mem.head _))) e
    have hit2 : h2.IsListIter I8 ls (i + 1) := let ⟨o, ho, r⟩ := hit1; ⟨o, hs2.extBut _ _ hLI.symm ho, r⟩
    have hiz : I8 < h2.objs.size := by (refine x1_2 hit2 fun o ho _ => ?_
                                        try clear hit2); exact Heap.lt_size ho
    have T2 : ∀ env : Env, env.frame = some L' → TabX (A.deeper env) (I8 :: xs) h 67 93 11 (Str.ofString "_law_then.<locals>.<lambda>") → TabX (A.deeper env) (I8 :: xs) h2 67 93 11 (Str.ofString "_law_then.<locals>.<lambda>") := fun env hf T => by
      rcases T with T | ⟨c, oc, vs, t, T, ho, d1, d2⟩
      · exact Or.inl (up12 _ _ hI67 hL67 T)
      · exact Or.inr (i4_4 c oc vs t (up12 _ _ hI67 hL67 T) (K1 env hf _ _ ho) d1 d2)
    have N2' : News g L' h2 ([] ++ frs') := N2
    refine c_thenX (n := 3 + i) (c1 := chain ((fs.map (·.2)).take i)) (c2 := p.2) (xs := I8 :: xs) ?hxs ?hH ?hTx ?hdd ?hK1 ?hK2 _ _ ?hend
    case hxs => exact fun b hb => (List.mem_cons.mp hb).elim (fun e => e ▸ hiz) fun hb => Nat.lt_trans (hsz0 b hb) F2.ns.lt
    case hH => exact here_ofB (hid := [67]) hl Fs' F2 N2' Split.app X' T' (fun b hb => by rcases List.mem_singleton.mp hb with rfl; exact g67)
    case hTx => exact T2 _ rfl T1
    case hK1 => exact K.ext (K1 _ rfl)
    case hK2 => exact (Kp.mono (Nat.le_add_right 3 i)).ext (gxv _ _ _ (in_viewB (hid := [67, I8]) F2 N2' Split.app Fs' hl rfl g2))
    case hdd => show A.depth + 1 < _; omega
    intro r h3 tk3 e ⟨K3, T3⟩
    (obtain q91 := backB (hid := [67]) hl Fs' F2 N2' rfl (fun p hp => nomatch hp) (fun b hb => by rcases List.mem_singleton.mp hb with rfl; exact ⟨g67, hL67⟩) e
     with_reducible refine x1_4 q91 fun frs2 SU2 Fs2 F3 N3 => ?_
     clear q91)
    have SU3 := SU'.trans SU2
    have hit3 : h3.IsListIter I8 ls (i + 1) := by
      (refine x1_2 hit2 fun o ho r => ?_
       try clear hit2)
      refine ⟨o, of_hideAll _ (e.keep _ _ (view_of (fun q => ?_) ho)), r⟩
      rw [fsA_deeper hl rfl, show fsA A = frs'.map (·.1) by unfold fsA; rw [hl]; exact Fs'.addrs] at q
      rcases List.mem_append.mp q with q | q
      · rcases List.mem_singleton.mp q with q; exact hI67 q.symm
      · rcases List.mem_cons.mp q with q | q
        · exact hLI q.symm
        · (obtain q87 := List.mem_map.mp q
           with_reducible refine x1_2 q87 fun p hp e => ?_
           clear q87)
          exact hIf' p hp e
    clear F2 N2 N2'
    simp only [List.nil_append] at N3
    refine wpAny_storeName_local rfl F3.ns (fun h4 hn4 hs4 => ?_) rfl
    have F4 := F3.set hn4 hs4
    have N4 : News g L' h4 frs2 := N3.set hs4
    refine wpAny_execs_nil ?_
    refine ⟨rfl, (i2_4 h4 _ rfl (i3_8 frs2 _ r SU3 Fs2 F4 N4 ?_ ?_ look_eq ?_) ?_ ?_)⟩
    · rcases T3 with T | ⟨c, oc, vs, t, T, ho, d1, d2⟩
      · exact Or.inl (hs4.extBut _ _ hL67 T)
      · refine Or.inr (i4_4 c oc vs t (hs4.extBut _ _ hL67 T) (view_sub (fun b hb => hb) (fun b o n e => hs4.extBut b o (fun q => n ?_) e) _ _ ho) d1 d2)
        rw [fsA_deeper hl rfl]
        exact q ▸ List.mem_append_right _ (List.Mem.head _)
    · kd_p
    · have e2 : chain ((fs.map (·.2)).take (i + 1)) = thenC (chain ((fs.map (·.2)).take i)) p.2 := by
        have : (fs.map (·.2))[i]? = some p.2 := by simp [hp]
        unfold chain
        rw [List.take_succ, this, List.foldl_append]
        rfl
      rw [e2, show 3 + (i + 1) = 3 + i + 1 by omega]
      refine K3.ext (view_sub (fun b hb => hb) (fun b o n e => hs4.extBut b o (fun q => n ?_) e))
      rw [fsA_deeper hl rfl]
      exact q ▸ List.mem_append_right _ (List.Mem.head _)
    · exact (let ⟨o, ho, r⟩ := hit3; ⟨o, hs4.extBut _ _ hLI.symm ho, r⟩)
    · exact (let ⟨o, ho, r⟩ := hls; ⟨o, F4.keep _ _ ho, r⟩)
end Mine
end PartD2x

section PartK1
open PySem PySem.W PyProof.Rows PySem.Calls
set_option Elab.async false
set_option maxRecDepth 100000
set_option maxHeartbeats 4000000
set_option linter.unusedVariables false
set_option rowWalk.seconds 0
namespace Mine
theorem start_K1 {M : Model} {A : Around} {env : Env} {E : Value → Shared → Prop} {s : Shared} {Q : Flow → Shared → Prop} (h : Q .next s) : wpAny M A (execs [] env) Q E s := by
  w_top off
  walk1
  exact h
open TI (Frs SameUp)
open SeqAt
local macro_rules | `(tactic| walk_at "eval ListComp") => `(tactic| isplit)
local macro_rules | `(tactic| walk_at "exec Assign cons ListComp") => `(tactic| isplit)
local macro_rules | `(tactic| walk_at "CompSrc") => `(tactic| isplit)
local macro_rules | `(tactic| walk_at "call builtin:sorted") => `(tactic| isplit)
theorem sortP_len {κ : Nat → Int} {n m : Nat} (_ : Unit) (h : n < m) : (sortP (less κ) n).length < m := by rw [sortP_perm.length_eq]; simpa using h
theorem all_refs {P : Nat → Addr → Prop} : ∀ (ks : List Value), (∀ (q : Nat) y, ks[q]? = some y → ∃ k, y = .ref k ∧ P q k) → ∃ kl : List Addr, ks = kl.map Value.ref ∧ ∀ (q : Nat) k, kl[q]? = some k → P q k := by
  intro ks h
  have h1 : ∀ ks : List Value, (∀ y ∈ ks, ∃ k, y = .ref k) → ∃ kl : List Addr, ks = kl.map Value.ref := by
    intro ks
    induction ks with
    | nil => exact fun _ => ⟨[], rfl⟩
    | cons y ks ih =>
      intro h
      obtain ⟨k, rfl⟩ := h y (List.Mem.head _)
      obtain ⟨kl, rfl⟩ := ih fun y hy => h y (List.Mem.tail _ hy)
      exact ⟨k :: kl, rfl⟩
  obtain ⟨kl, rfl⟩ := h1 ks fun y hy => by
    obtain ⟨q, e⟩ := List.mem_iff_getElem?.mp hy
    (obtain q81 := h q y e
     with_reducible refine x1_2 q81 fun k e _ => ?_
     clear q81)
    exact ⟨k, e⟩
  refine ⟨kl, rfl, fun q k e => ?_⟩
  (obtain q82 := h q (.ref k) (by simp [e])
   with_reducible refine x1_2 q82 fun k' e1 e2 => ?_
   clear q82)
  cases e1
  exact e2
theorem len2 {α : Type} {l : List α} (h : l.length = 2) : ∃ a b, l = [a, b] := by
  match l, h with
  | [a, b], _ => exact ⟨a, b, rfl⟩
theorem two_of {ys : List Value} {ex : List (Addr × Obj)} {f : Nat → Array Value} (hyl : ys.length = 2) (hys : ∀ (j : Nat) y, ys[j]? = some y → ∃ D o n, y = .ref D ∧ (D, o) ∈ ex ∧ o.cls = .type "list" ∧ o.data = .seq (f j) n) :
    ∃ D1 o1 n1 D2 o2 n2, ys = [.ref D1, .ref D2] ∧ (D1, o1) ∈ ex ∧ o1.cls = .type "list" ∧ o1.data = .seq (f 0) n1 ∧ (D2, o2) ∈ ex ∧ o2.cls = .type "list" ∧ o2.data = .seq (f 1) n2 := by
  obtain ⟨y0, y1, e99⟩ := len2 hyl
  (obtain q91 := hys 0 y0 (by subst e99; rfl)
   with_reducible refine x3_4 q91 fun D o n r92 e2 e3 e4 => ?_
   clear q91
   obtain rfl := r92)
  (obtain q93 := hys 1 y1 (by subst e99; rfl)
   with_reducible refine x3_4 q93 fun D' o' n' r94 e2' e3' e4' => ?_
   clear q93
   obtain rfl := r94)
  exact (i6_7 D o n D' o' n' e99 e2 e3 e4 e2' e3' e4')
theorem mem_but {p : Addr × Obj} {P : Addr} {ex : List (Addr × Obj)} (h : p ∈ ex) (n : p.1 ≠ P) : p ∈ ex.filter fun p => decide (p.1 ≠ P) := List.mem_filter.mpr ⟨h, by simpa using n⟩
local macro_rules | `(tactic| k_mem) => `(tactic| first | exact mem_deep (by assumption) | exact List.mem_append_left _ (by assumption) | (refine List.Mem.tail _ ?_; k_mem))
local macro_rules | `(tactic| walk_at "compareOp NotEq ref ref") => `(tactic| isplit)
local macro_rules | `(tactic| walk_at "call type:list") => `(tactic| isplit)
local macro_rules | `(tactic| walk_at "call ref") => `(tactic| ((with_reducible show wpAny _ _ (call (Value.ref _) [Value.ref _]) _ _ _); isplit))
local macro_rules | `(tactic| walk_at "callWith ref") => `(tactic| (k_here; k_dflt (refine' callWith_C ?k1 ?_; (case k1 => exact ClsC.ext (by assumption) (Fr.keep (by k_asm))); k_whole)))
local macro_rules | `(tactic| walk_at "ClsC") => `(tactic| (k_dflt (exact ClsC.ext (by assumption) (Fr.keep (by k_asm)))))
theorem c_lsorted {w : World} {A : Around} {s : Shared} {l1 l2 rules C : Addr} {rs1 rs2 : List Addr} {as1 as2 : List Rec} {ru : List (Int × Int)} {c : Rec → Rec → Int} {κ : Rec → Int}
    (H : Here w A [103] s.heap) (hT : s.heap.get? 103 = some (tabObj #[])) (hh : A.handled = none) (hd : A.depth + 80 < recursionLimit) (hu : A.units + 1000 < cLine)
    (R1 : RecRow (view A [103] s.heap) l1 rs1 as1) (R2 : RecRow (view A [103] s.heap) l2 rs2 as2) (z1 : as1.length < 60) (z2 : as2.length < 60) (P : PairRow (view A [103] s.heap) rules ru) (hr2 : ru.length ≤ 2) (hru : ∀ r ∈ ru, r.1 = 0 ∨ r.1 = 1)
    (KS : KeySrt w (view A [103] s.heap) C c) (KC : KeyCls w (view A [103] s.heap) C c) (al1 : Alike c ru as1 κ) (al2 : Alike c ru as2 κ) (told_ok : ToldOk c (sAs κ as1) (sAs κ as2) ((sAs κ as1).map (rankOf ru)) ((sAs κ as2).map (rankOf ru))) :
    QuietB w A (call (.ref 106) [.ref l1, .ref l2, .ref rules, .ref C]) s [103] (fun r h => r = .bool true ∧ GrownAt 103 h) := by
  intro Q E ret
  have X := H.frag
  have XS : (Mine.hd.heap_1 w.params).In s.heap := X.keeps view_le
  revert XS X; k_fill; intro X XS
  refine wpAny_call ?_
  k_dflt (refine' enter_c (hid := [103]) (news := [(103, tabObj #[])]) H ?hN (XS 106 _ (by k_is)) ?hd (codeRec_of XS ?hc) ?hr ?hb ?hl ?hnd ?_ ?hco ?hg ?hk; (case hN => intro p hp; rcases List.mem_singleton.mp hp with rfl; exact ⟨hT, List.Mem.head _⟩); (case hd => exact rfl); (case hc => k_is); (case hr => omega); (case hb => exact BindsTo.of_eq rfl); (case hl => exact rfl); (case hnd => decide); (case hco => exact rfl); (case hg => exact rfl); (case hk => exact rfl))
  clear XS X
  intro l frs p loose mean mg mb L' h' tk cells I' X' T' F' N' lt' Y'
  have hl := I'.hl
  have Fs := I'.fs
  have SU := SameUp.refl frs
  have hne9 : ∀ p ∈ frs, p.1 ≠ 103 := frs_ne I' hT (fun _ _ q => by cases q)
  (obtain q95 := CellsAre.two Y'
   with_reducible refine x2_3 q95 fun o1 o2 r96 d1' d2' => ?_
   clear q95
   obtain rfl := r96)
  have d1 : o1.data = .cell (some (.ref C)) := d1'
  have d2 : o2.data = .cell (some (.ref rules)) := d2'
  clear d1' d2' Y'
  (obtain q97 : ∃ m0, Fr (view A [103] s.heap) L' h' m0 ∧ m0 (Str.ofString "first") = some (.ref l1) ∧ m0 (Str.ofString "second") = some (.ref l2) := (i1_3 _ F' rfl rfl)
   with_reducible refine x1_3 q97 fun m0 F0 hm1 hm2 => ?_
   clear q97)
  clear F'
  generalize hg : view A [103] s.heap = g at *
  simp only [List.nil_append, List.cons_append] at N'
  have hCl : ClsC C g := KS.cls
  have C9 : CodeHd g 105 103 := (i9_10 _ _ _ _ _ _ _ _ _ (X' 105 _ (by k_is)) rfl rfl rfl rfl rfl rfl rfl rfl (by decide))
  (try dsimp only); (try k_fold)
  k_steps
  refine id ?_
  refine LCg.Assign_ListComp_U (F₀ := F0) (by rfl) (by with_unfolding_all rfl) (by with_unfolding_all rfl) (by decide) (by rfl) (by decide) (by rfl) (by rfl) (by rfl) ?_
  k_steps
  unfold Stop
  rename_i T0 h1 F1 N1 q4
  have N1 : News g L' h1 ([(L' + 1 + 1, o1), (T0, W.listOf #[Value.ref l1, Value.ref l2] 0), (L' + 1, o2), (103, tabObj #[])] ++ frs) := fun p hp => N1 p (by
      refine mc1 hp ?_ fun hp => ?_
      · exact List.Mem.tail _ (List.Mem.head _)
      · refine mc1 hp ?_ fun hp => ?_
        · exact List.Mem.head _
        · exact List.Mem.tail _ (List.Mem.tail _ hp))
  have hap0 : ∀ p ∈ [(L' + 1 + 1, o1), (T0, W.listOf #[Value.ref l1, Value.ref l2] 0), (L' + 1, o2), (103, tabObj #[])], p.1 ∉ frs.map (·.1) := fun p hp q => by
    (obtain q83 := List.mem_map.mp q
     with_reducible refine x1_2 q83 fun x hx e => ?_
     clear q83)
    have lx := I'.lt x hx
    simp only [List.mem_cons, List.not_mem_nil, or_false] at hp
    rcases hp with rfl | rfl | rfl | rfl
    · exact Nat.ne_of_lt (Nat.lt_succ_of_lt (Nat.lt_succ_of_lt lx)) e
    · exact Nat.ne_of_lt (Nat.lt_trans (Nat.lt_succ_of_lt (Nat.lt_succ_of_lt lx)) q4.1) e
    · exact Nat.ne_of_lt (Nat.lt_succ_of_lt lx) e
    · exact hne9 x hx e
  refine LCg.CompSrc.ledger (ax := T0) (its := #[Value.ref l1, Value.ref l2]) (k := 0) ?hq F1 N1 ?hm ?hs ?_
  case hq => exact hh
  case hm => exact List.Mem.tail _ (List.Mem.head _)
  case hs => rw [sizeLine_eq]; simp
  intro g'
  refine comp_ind (n := 2) (fun i ys news => ∃ frs' ex, SameUp frs frs' ∧ Frs l frs' ∧ news = ex ++ frs' ∧ ys.length = i ∧ (∀ p ∈ ex, p.1 ∉ frs'.map (·.1)) ∧ (∀ p ∈ [(L' + 1 + 1, o1), (T0, W.listOf #[Value.ref l1, Value.ref l2] 0), (L' + 1, o2), (103, tabObj #[])], p ∈ ex) ∧
      ∀ (j : Nat) y, ys[j]? = some y → ∃ D o n, y = .ref D ∧ (D, o) ∈ ex ∧ o.cls = .type "list" ∧ o.data = .seq ((if j = 0 then sRs κ rs1 as1 else sRs κ rs2 as2).map Value.ref).toArray n) (i2_7 frs _ SU Fs rfl rfl hap0 (fun p hp => hp) (fun j y e => by simp at e)) ?fin ?turn
  case fin =>
    (rintro ys news h9q; (with_reducible refine x2_7 h9q fun frs1 ex SU1 Fs1 r98 hyl hap1 hmem hys => ?_
                          try clear h9q
                          obtain rfl := r98))
    clear F1 N1
    unfold LCg.FinA
    intro DR h2 tk2 F2 N2 oR
    (obtain q99 := two_of (f := fun j => ((if j = 0 then sRs κ rs1 as1 else sRs κ rs2 as2).map Value.ref).toArray) hyl hys
     with_reducible refine x6_1 q99 fun D1 w1 n1 D2 w2 n2 q9z => x0_7 q9z fun r910 e1 c1 b1 e2 c2 b2 => ?_
     clear q9z
     clear q99
     obtain rfl := r910)
    have b1 : w1.data = .seq ((sRs κ rs1 as1).map Value.ref).toArray n1 := b1
    have b2 : w2.data = .seq ((sRs κ rs2 as2).map Value.ref).toArray n2 := b2
    have m103 := hmem (103, tabObj #[]) (List.Mem.tail _ (List.Mem.tail _ (List.Mem.tail _ (List.Mem.head _))))
    have hoR : ∀ p ∈ ex ++ frs1, p.1 ≠ DR := fun p hp => off1_mem oR p hp
    have ne103 : ∀ a o xs n, (a, o) ∈ ex → o.data = .seq xs n → a ≠ 103 := fun a o xs n hm hd q => by
      subst q
      have z1 := (N2 _ (List.Mem.tail _ (List.mem_append_left _ hm))).1
      have z2 := (N2 _ (List.Mem.tail _ (List.mem_append_left _ m103))).1
      rw [z1] at z2
      cases z2
      cases hd
    have l103 : @LT.lt Nat _ 103 L' := lt' _ (List.Mem.head _)
    have hapR : DR ∉ frs1.map (·.1) := fun q => by
      (obtain q84 := List.mem_map.mp q
       with_reducible refine x1_2 q84 fun p hp e => ?_
       clear q84)
      exact hoR p (List.mem_append_right _ hp) e
    (obtain q911 : ∃ ex2, News g L' h2 (((103, tabObj #[]) :: ex2) ++ frs1) ∧ (∀ p ∈ (103, tabObj #[]) :: ex2, p.1 ∉ frs1.map (·.1)) ∧ (∀ p ∈ ex2, p.1 ≠ 103) ∧ ∀ p ∈ (DR, LCg.lst [.ref D1, .ref D2]) :: ex, p.1 ≠ 103 → p ∈ ex2 := by
      refine (i1_4 (((DR, LCg.lst [.ref D1, .ref D2]) :: ex).filter fun p => decide (p.1 ≠ 103)) (fun p hp => N2 p ?_) (fun p hp => ?_) (fun p hp => by simpa using (List.mem_filter.mp hp).2) (fun p hp n => mem_but hp n))
      · refine mc1 hp ?_ fun hp => ?_
        · exact List.Mem.tail _ (List.mem_append_left _ m103)
        · rcases List.mem_append.mp hp with hp | hp
          · rcases List.mem_cons.mp (List.mem_filter.mp hp).1 with rfl | hp
            · exact List.Mem.head _
            · exact List.Mem.tail _ (List.mem_append_left _ hp)
          · exact List.Mem.tail _ (List.mem_append_right _ hp)
      · refine mc1 hp ?_ fun hp => ?_
        · exact hap1 _ m103
        · rcases List.mem_cons.mp (List.mem_filter.mp hp).1 with rfl | hp
          · exact hapR
          · exact hap1 p hp
     with_reducible refine x1_3 q911 fun ex2 N3 hap3 sub3 => ?_
     clear q911)
    obtain ⟨sub3, in3⟩ := sub3
    have g1 : (L' + 1 + 1, o1) ∈ ex2 := in3 _ (List.Mem.tail _ (hmem _ (List.Mem.head _))) (Nat.ne_of_gt (Nat.lt_succ_of_lt (Nat.lt_succ_of_lt l103)))
    have g2 : (L' + 1, o2) ∈ ex2 := in3 _ (List.Mem.tail _ (hmem _ (List.Mem.tail _ (List.Mem.tail _ (List.Mem.head _))))) (Nat.ne_of_gt (Nat.lt_succ_of_lt l103))
    have g3 : (DR, LCg.lst [.ref D1, .ref D2]) ∈ ex2 := in3 _ (List.Mem.head _) (fun q => hoR _ (List.mem_append_left _ m103) q.symm)
    have g4 : (D1, w1) ∈ ex2 := in3 _ (List.Mem.tail _ e1) (ne103 _ _ _ _ e1 b1)
    have g5 : (D2, w2) ∈ ex2 := in3 _ (List.Mem.tail _ e2) (ne103 _ _ _ _ e2 b2)
    clear N2 oR hoR hmem hys e1 e2 m103 ne103 hap1 hapR in3 hap0 q4
    rename Fr _ _ _ _ => F2_1
    (obtain q912 : ∃ mA, Fr g L' h2 mA ∧ mA (Str.ofString "first") = some (.ref l1) ∧ mA (Str.ofString "second") = some (.ref l2) ∧ mA (Str.ofString "rows") = some (.ref DR) := (i1_4 _ F2_1 (by kd_p) (by kd_p) (by kd_p))
     with_reducible refine x1_4 q912 fun mA F2 nA1 nA2 nA3 => ?_
     clear q912)
    clear N1 F2_1
    dsimp only
    k_steps
    unfold Stop
    refine LCg.Assign_ListComp_U (F₀ := F2) (by rfl) (by with_unfolding_all rfl) (by with_unfolding_all rfl) (by decide) (by rfl) (by decide) (by rfl) (by rfl) (by rfl) ?_
    k_steps
    unfold Stop
    rename_i T1 h4 F4 N4 q5
    have N5 : News g L' h4 (((103, tabObj #[]) :: (T1, W.listOf #[Value.ref l1, Value.ref l2] 0) :: ex2) ++ frs1) := fun p hp => N4 p (by
      refine mc1 hp ?_ fun hp => ?_
      · exact List.Mem.tail _ (List.Mem.head _)
      · refine mc1 hp ?_ fun hp => ?_
        · exact List.Mem.head _
        · exact List.Mem.tail _ (List.Mem.tail _ hp))
    have hap5 : ∀ p ∈ (103, tabObj #[]) :: (T1, W.listOf #[Value.ref l1, Value.ref l2] 0) :: ex2, p.1 ∉ frs1.map (·.1) := fun p hp => by
      refine mc1 hp ?_ fun hp => ?_
      · exact hap3 _ (List.Mem.head _)
      · refine mc1 hp ?_ fun hp => ?_
        · intro q
          (obtain q85 := List.mem_map.mp q
           with_reducible refine x1_2 q85 fun x hx e => ?_
           clear q85)
          exact Nat.ne_of_lt (q5 x (List.Mem.tail _ (List.mem_append_right _ hx))) e
        · exact hap3 _ (List.Mem.tail _ hp)
    have sub5 : ∀ p ∈ (T1, W.listOf #[Value.ref l1, Value.ref l2] 0) :: ex2, p.1 ≠ 103 := fun p hp => by
      refine mc1 hp ?_ fun hp => ?_
      · exact Nat.ne_of_gt (q5 (103, tabObj #[]) (List.Mem.head _))
      · exact sub3 p hp
    have mT1 : (T1, W.listOf #[Value.ref l1, Value.ref l2] 0) ∈ (T1, W.listOf #[Value.ref l1, Value.ref l2] 0) :: ex2 := List.Mem.head _
    have in5 : ∀ p ∈ ex2, p ∈ (T1, W.listOf #[Value.ref l1, Value.ref l2] 0) :: ex2 := fun p hp => List.Mem.tail _ hp
    generalize (T1, W.listOf #[Value.ref l1, Value.ref l2] 0) :: ex2 = ex3 at *
    clear N4 q5
    refine LCg.CompSrc.ledger (ax := T1) (its := #[Value.ref l1, Value.ref l2]) (k := 0) ?hq2 F4 N5 ?hm2 ?hs2 ?_
    case hq2 => exact hh
    case hm2 => exact List.mem_append_left _ (List.Mem.tail _ mT1)
    case hs2 => rw [sizeLine_eq]; simp
    intro g''
    refine comp_ind (n := 2) (fun i ys news => ∃ frs' ex ps, SameUp frs1 frs' ∧ Frs l frs' ∧ news = ((103, tabObj ps) :: ex) ++ frs' ∧ ys.length = i ∧ (∀ p ∈ (103, tabObj ps) :: ex, p.1 ∉ frs'.map (·.1)) ∧ (∀ p ∈ ex, p.1 ≠ 103) ∧ (∀ p ∈ ex3, p ∈ ex) ∧
      (∀ (j : Nat) y, ys[j]? = some y → ∃ D o n, y = .ref D ∧ (D, o) ∈ ex ∧ o.cls = .type "list" ∧ o.data = .seq ((if j = 0 then sRs κ rs1 as1 else sRs κ rs2 as2).map Value.ref).toArray n) ∧
      ((i = 0 ∧ ps = #[]) ∨ ∃ c' oc vs t, ps = #[rawInt 121, rawInt 29, .ref c'] ∧ (c', oc) ∈ ex ∧ oc.data = .fields vs ∧ vs[1]? = some (.str (Str.ofString "_law_sorted" ++ ".<locals>." ++ "<lambda>") t))) (i3_9 frs1 ex3 (#[]) (SameUp.refl _) Fs1 rfl rfl hap5 sub5 (fun p hp => hp) (fun j y e => by simp at e) (Or.inl ⟨rfl, rfl⟩)) ?fin2 ?turn2
    case fin2 =>
      (rintro ys news h9q; (with_reducible refine x3_1 h9q fun frs2 ex ps q9z => x0_9 q9z fun SU2 Fs2 r913 hyl2 hap6 sub6 in6 hys c914 => ?_
                            clear q9z
                            try clear h9q
                            obtain rfl := r913
                            clear c914))
      clear F4 N5
      unfold LCg.FinA
      intro PR h3 tk3 F3 N3 oR2
      (obtain q915 := two_of (f := fun j => ((if j = 0 then sRs κ rs1 as1 else sRs κ rs2 as2).map Value.ref).toArray) hyl2 hys
       with_reducible refine x6_1 q915 fun E1 v1 k1 E2 v2 k2 q9z => x0_7 q9z fun r916 e1 f1 a1 e2 f2 a2 => ?_
       clear q9z
       clear q915
       obtain rfl := r916)
      have a1 : v1.data = .seq ((sRs κ rs1 as1).map Value.ref).toArray k1 := a1
      have a2 : v2.data = .seq ((sRs κ rs2 as2).map Value.ref).toArray k2 := a2
      have hoR2 : PR ∉ frs2.map (·.1) := fun q => by
        (obtain q86 := List.mem_map.mp q
         with_reducible refine x1_2 q86 fun p hp e => ?_
         clear q86)
        exact off1_mem oR2 p (List.mem_append_right _ hp) e
      (obtain q917 := settle (ex := (PR, LCg.lst [.ref E1, .ref E2]) :: (103, tabObj ps) :: ex) hl Fs2 F3 N3
       with_reducible refine x1_4 q917 fun things N6 ap6 all6 c918 => ?_
       clear q917
       clear c918)
      have put : ∀ p ∈ ex, p ∈ things := fun p hp => all6 p (List.Mem.tail _ (List.Mem.tail _ hp)) (hap6 p (List.Mem.tail _ hp))
      have t1 : (L' + 1 + 1, o1) ∈ things := put _ (in6 _ (in5 _ g1))
      have t2 : (L' + 1, o2) ∈ things := put _ (in6 _ (in5 _ g2))
      have t3 : (DR, LCg.lst [.ref D1, .ref D2]) ∈ things := put _ (in6 _ (in5 _ g3))
      have t4 : (D1, w1) ∈ things := put _ (in6 _ (in5 _ g4))
      have t5 : (D2, w2) ∈ things := put _ (in6 _ (in5 _ g5))
      have t6 : (E1, v1) ∈ things := put _ e1
      have t7 : (E2, v2) ∈ things := put _ e2
      have t8 : (PR, LCg.lst [.ref E1, .ref E2]) ∈ things := all6 _ (List.Mem.head _) hoR2
      have t9 : (103, tabObj ps) ∈ things := all6 _ (List.Mem.tail _ (List.Mem.head _)) (hap6 _ (List.Mem.head _))
      have SU6 : SameUp frs frs2 := SU1.trans SU2
      (obtain q919 : ∃ mB, Fr g L' h3 mB ∧ mB (Str.ofString "rows") = some (.ref DR) ∧ mB (Str.ofString "plain") = some (.ref PR) := (i1_3 _ F3 (by kd_p) (by kd_p))
       with_reducible refine x1_3 q919 fun mB F5 nB1 nB2 => ?_
       clear q919)
      clear F3 N3 oR2 hys e1 e2 hap6 sub6 in6 put all6 in5 mT1 sub5 hap5 g1 g2 g3 g4 g5 nA1 nA2 nA3 hoR2
      dsimp only
      k_steps
      unfold Stop
      refine ne_rows (i1_3 _ ((N6 _ (List.mem_append_left _ t3)).1) rfl ⟨_, rfl⟩) (i1_3 _ ((N6 _ (List.mem_append_left _ t8)).1) rfl ⟨_, rfl⟩) (i1_3 _ ((N6 _ (List.mem_append_left _ t4)).1) c1 ⟨_, b1⟩) (i1_3 _ ((N6 _ (List.mem_append_left _ t5)).1) c2 ⟨_, b2⟩) (i1_3 _ ((N6 _ (List.mem_append_left _ t6)).1) f1 ⟨_, a1⟩) (i1_3 _ ((N6 _ (List.mem_append_left _ t7)).1) f2 ⟨_, a2⟩) (by show A.units + 3 + 1 < _; omega) ?_
      k_steps
      unfold Stop
      clear f1 f2 a1 a2 t6 t7 t8 nB2
      refine LCg.Assign_ListComp_U (F₀ := F5) (by rfl) (by with_unfolding_all rfl) (by with_unfolding_all rfl) (by decide) (by rfl) (by decide) (by rfl) (by rfl) (by rfl) ?_
      k_steps
      unfold Stop
      refine LCg.CompSrc.ledger (ax := DR) (its := #[Value.ref D1, Value.ref D2]) (k := 2) ?hq3 F5 N6 ?hm3 ?hs3 ?_
      case hq3 => exact hh
      case hm3 => exact List.mem_append_left _ t3
      case hs3 => rw [sizeLine_eq]; simp
      intro g3
      refine comp_ind (n := 2) (fun i ys news => ∃ frs' ex, SameUp frs2 frs' ∧ Frs l frs' ∧ news = ex ++ frs' ∧ ys.length = i ∧ (∀ p ∈ ex, p.1 ∉ frs'.map (·.1)) ∧ (∀ p ∈ things, p ∈ ex) ∧
        ∀ (j : Nat) y, ys[j]? = some y → ∃ K, ∃ ks : List Addr, y = .ref K ∧ (K, LCg.lst (ks.map Value.ref)) ∈ ex ∧ ks.length = (if j = 0 then sRs κ rs1 as1 else sRs κ rs2 as2).length ∧
          ∀ (q : Nat) k r, ks[q]? = some k → (if j = 0 then sRs κ rs1 as1 else sRs κ rs2 as2)[q]? = some r → ∃ dd, (k, keyO0 C dd #[some (.ref r)]) ∈ ex) (i2_7 frs2 things (SameUp.refl _) Fs2 rfl rfl ap6 (fun p hp => hp) (fun j y e => by simp at e)) ?fin3 ?turn3
      case fin3 =>
        (rintro ys news h9q; (with_reducible refine x2_7 h9q fun frs3 ex3 SU3 Fs3 r920 hyl3 hap3 in3 hys3 => ?_
                              try clear h9q
                              obtain rfl := r920))
        clear F5 N6
        unfold LCg.FinA
        intro KR h7 tk7 F7 N7 oR7
        (obtain q921 : ∃ (K1 : Addr) (ks1 : List Addr) (K2 : Addr) (ks2 : List Addr), ys = [.ref K1, .ref K2] ∧ (K1, LCg.lst (ks1.map Value.ref)) ∈ ex3 ∧ ks1.length = (sRs κ rs1 as1).length ∧ (∀ (q : Nat) k r, ks1[q]? = some k → (sRs κ rs1 as1)[q]? = some r → ∃ dd, (k, keyO0 C dd #[some (.ref r)]) ∈ ex3) ∧ (K2, LCg.lst (ks2.map Value.ref)) ∈ ex3 ∧ ks2.length = (sRs κ rs2 as2).length ∧ (∀ (q : Nat) k r, ks2[q]? = some k → (sRs κ rs2 as2)[q]? = some r → ∃ dd, (k, keyO0 C dd #[some (.ref r)]) ∈ ex3) := by
          obtain ⟨y0, y1, e99⟩ := len2 hyl3
          (obtain q87 := hys3 0 y0 (by subst e99; rfl)
           with_reducible refine x2_4 q87 fun K ks r88 x1 x2 x3 => ?_
           clear q87
           obtain rfl := r88)
          (obtain q89 := hys3 1 y1 (by subst e99; rfl)
           with_reducible refine x2_4 q89 fun K' ks' r810 x1' x2' x3' => ?_
           clear q89
           obtain rfl := r810)
          exact (i4_7 K ks K' ks' e99 x1 x2 x3 x1' x2' x3')
         with_reducible refine x4_1 q921 fun K1 ks1 K2 ks2 q9z => x0_7 q9z fun r922 e1 f1 a1 e2 f2 a2 => ?_
         clear q9z
         clear q921
         obtain rfl := r922)
        have hoR3 : KR ∉ frs3.map (·.1) := fun q => by
          (obtain q811 := List.mem_map.mp q
           with_reducible refine x1_2 q811 fun p hp e => ?_
           clear q811)
          exact off1_mem oR7 p (List.mem_append_right _ hp) e
        (obtain q927 := Scn.make (new := (KR, LCg.lst [.ref K1, .ref K2]) :: ex3) (envOfC (Str.ofString "_law_sorted") lsScope L' 106 (.ref 105)) hl Fs3 F7 N7 (List.forall_mem_cons.mpr ⟨hoR3, hap3⟩) rfl
         with_reducible refine x1_3 q927 fun things' S7 N7' all7 => ?_
         clear q927)
        have put : ∀ p ∈ things, p ∈ things' := fun p hp => all7 p (List.Mem.tail _ (in3 p hp))
        (obtain q928 : ∃ mC, Fr g L' h7 mC ∧ mC (Str.ofString "rows") = some (.ref DR) ∧ mC (Str.ofString "keys") = some (.ref KR) := (i1_3 _ F7 (by kd_p) (by kd_p))
         with_reducible refine x1_3 q928 fun mC F8 nC1 nC2 => ?_
         clear q928)
        generalize view (A.deeper _) [] h7 = V at S7
        have R1' : RecRow V D1 (sRs κ rs1 as1) (sAs κ as1) := recRow_sorted (R1.ext S7.gv) (i1_3 _ (S7.tv _ (put _ t4)) c1 ⟨_, b1⟩)
        have R2' : RecRow V D2 (sRs κ rs2 as2) (sAs κ as2) := recRow_sorted (R2.ext S7.gv) (i1_3 _ (S7.tv _ (put _ t5)) c2 ⟨_, b2⟩)
        have zA1 : (sAs κ as1).length < 60 := by simpa [sAs, ordOf] using sortP_len () z1
        have zA2 : (sAs κ as2).length < 60 := by simpa [sAs, ordOf] using sortP_len () z2
        have Q1' : KeyRow V C K1 ks1 (sAs κ as1) := ⟨(i1_3 _ (S7.tv _ (all7 _ (List.Mem.tail _ e1))) rfl ⟨_, rfl⟩), f1.trans R1'.len, by omega, fun q k a hk ha => by
          obtain ⟨r, hr⟩ : ∃ r, (sRs κ rs1 as1)[q]? = some r := ⟨_, List.getElem?_eq_getElem (by have := (List.getElem?_eq_some_iff.mp hk).1; omega)⟩
          obtain ⟨dd, hm⟩ := a1 q k r hk hr
          exact ⟨r, ⟨dd, S7.tv _ (all7 _ (List.Mem.tail _ hm))⟩, R1'.at_ q r a hr ha⟩⟩
        have Q2' : KeyRow V C K2 ks2 (sAs κ as2) := ⟨(i1_3 _ (S7.tv _ (all7 _ (List.Mem.tail _ e2))) rfl ⟨_, rfl⟩), f2.trans R2'.len, by omega, fun q k a hk ha => by
          obtain ⟨r, hr⟩ : ∃ r, (sRs κ rs2 as2)[q]? = some r := ⟨_, List.getElem?_eq_getElem (by have := (List.getElem?_eq_some_iff.mp hk).1; omega)⟩
          obtain ⟨dd, hm⟩ := a2 q k r hk hr
          exact ⟨r, ⟨dd, S7.tv _ (all7 _ (List.Mem.tail _ hm))⟩, R2'.at_ q r a hr ha⟩⟩
        dsimp only
        refine ls_rest S7 hh hd hu X' T' F8 N7' (put _ t2) d2 nC1 nC2 (i1_3 _ (S7.tv _ (put _ t3)) rfl ⟨_, rfl⟩) (i1_3 _ (S7.tv _ (all7 _ (List.Mem.head _))) rfl ⟨_, rfl⟩) R1' R2' Q1' Q2' zA1 zA2 (P.ext S7.gv) hr2 hru (KC.ext S7.gv) told_ok ?_
        intro h9 tk9 frs9 m9 SU9 Fs9 F9 N9 V9
        exact ret _ _ _ (ext_ofg hg I'.hl I'.fs I'.fr F9 N9 (SU6.trans (SU3.trans SU9)) Split.nil I'.above) ⟨rfl, ps, V9 _ _ (S7.tv _ (put _ t9))⟩
      case turn3 =>
        (rintro i ys news hi h9q; (with_reducible refine x2_7 h9q fun frs3 ex3 SU3 Fs3 r929 hyl3 hap3 in3 hys3 => ?_
                                   try clear h9q
                                   obtain rfl := r929); rintro v I2 oI2 C2 oC2 D9 m9 h9 tk9 E9 hP hC hx F9 N9 off ne)
        clear F5 N6
        (obtain q930 : ∃ lv wv nv row, v = .ref lv ∧ (lv, wv) ∈ things ∧ wv.cls = .type "list" ∧ wv.data = .seq (row.map Value.ref).toArray nv ∧ (if i = 0 then sRs κ rs1 as1 else sRs κ rs2 as2) = row ∧ row.length < 60 := by
          match i, hi, hP with
          | 0, _, hP => cases hP; exact (i4_6 D1 w1 n1 _ rfl t4 c1 b1 rfl (by simpa [sRs, ordOf] using sortP_len () z1))
          | 1, _, hP => cases hP; exact (i4_6 D2 w2 n2 _ rfl t5 c2 b2 rfl (by simpa [sRs, ordOf] using sortP_len () z2))
         with_reducible refine x4_1 q930 fun lv wv nv row q9z => x0_6 q9z fun r931 mv cv bv hrow zrow => ?_
         clear q9z
         clear q930
         obtain rfl := r931)
        k_steps
        unfold Stop
        refine LCg.ListComp_U (F₀ := F9) (by with_unfolding_all rfl) (by decide) (by rfl) (by decide) (by rfl) ?_
        k_steps
        unfold Stop
        have offm := off.mem
        have hrz : (row.map Value.ref).toArray.size = row.length := by simp
        refine Or.inl (i3_7 lv ((row.map Value.ref).toArray) _ rfl hh F9 N9 (Or.inr (i1_3 wv (List.Mem.tail _ (List.Mem.tail _ (List.Mem.tail _ (List.mem_append_left _ (in3 _ mv))))) cv ⟨nv, bv⟩)) (by rw [hrz, sizeLine_eq]; omega) ?_)
        rintro s2 ⟨g4, rfl⟩
        refine comp_ind (fun j ks news => ∃ frs' ex, SameUp frs3 frs' ∧ Frs l frs' ∧ news = (I2, oI2) :: (C2, oC2) :: (D9, LCg.lst ys) :: (ex ++ frs') ∧ LCg.Off3 I2 C2 D9 (ex ++ frs') ∧ ks.length = j ∧ (∀ p ∈ ex, p.1 ∉ frs'.map (·.1)) ∧ (∀ p ∈ ex3, p ∈ ex) ∧
          ∀ (q : Nat) y, ks[q]? = some y → ∃ k r dd, y = .ref k ∧ row[q]? = some r ∧ (k, keyO0 C dd #[some (.ref r)]) ∈ ex) (i2_8 frs3 ex3 (SameUp.refl _) Fs3 rfl off rfl hap3 (fun p hp => hp) (fun j y e => by simp at e)) ?fin4 ?turn4
        case fin4 =>
          (rintro ks news h9q; (with_reducible refine x2_8 h9q fun frs4 ex4 SU4 Fs4 r932 off4 hkl hap4 in4 hks => ?_
                                try clear h9q
                                obtain rfl := r932))
          clear F9 N9
          unfold LCg.FinE
          intro DK h5 tk5 F5 N5 oK
          (obtain q812 := all_refs (P := fun q k => ∃ r dd, row[q]? = some r ∧ (k, keyO0 C dd #[some (.ref r)]) ∈ ex4) ks fun q y e => let ⟨k, r, dd, e1, e2, e3⟩ := hks q y e; (i1_2 k e1 (i2_2 r dd e2 e3))
           with_reducible refine x1_2 q812 fun kl r813 hkl2 => ?_
           clear q812
           obtain rfl := r813)
          have oK1 := off1_mem oK
          have nDK : ∀ a o, (a, o) ∈ (I2, oI2) :: (C2, oC2) :: (D9, LCg.lst ys) :: (ex4 ++ frs4) → @Ne Nat DK a := fun a o hm q => oK1 _ hm q.symm
          refine (i3_6 h5 _ (((DK, LCg.lst (kl.map Value.ref)) :: ex4) ++ frs4) rfl F5 (fun p hp => N5 p ?_) ⟨⟨nDK _ _ (List.Mem.head _), nDK _ _ (List.Mem.tail _ (List.Mem.head _)), nDK _ _ (List.Mem.tail _ (List.Mem.tail _ (List.Mem.head _)))⟩, off4⟩ (Or.inr (i1_3 _ (List.mem_append_left _ (List.Mem.tail _ (in4 _ (in3 _ t3)))) rfl ⟨_, rfl⟩)) (i2_7 frs4 _ (SU3.trans SU4) Fs4 rfl (by simp [hyl3]) (fun p hp => ?_) (fun p hp => List.Mem.tail _ (in4 _ (in3 p hp))) (fun j y hy => ?_)))
          · refine mc1 hp ?_ fun hp => ?_
            · exact List.Mem.tail _ (List.Mem.head _)
            · refine mc1 hp ?_ fun hp => ?_
              · exact List.Mem.tail _ (List.Mem.tail _ (List.Mem.head _))
              · refine mc1 hp ?_ fun hp => ?_
                · exact List.Mem.tail _ (List.Mem.tail _ (List.Mem.tail _ (List.Mem.head _)))
                · refine mc1 hp ?_ fun hp => ?_
                  · exact List.Mem.head _
                  · exact List.Mem.tail _ (List.Mem.tail _ (List.Mem.tail _ (List.Mem.tail _ hp)))
          · refine mc1 hp ?_ fun hp => ?_
            · intro q
              (obtain q814 := List.mem_map.mp q
               with_reducible refine x1_2 q814 fun x hx e => ?_
               clear q814)
              exact oK1 x (List.Mem.tail _ (List.Mem.tail _ (List.Mem.tail _ (List.mem_append_right _ hx)))) e
            · exact hap4 p hp
          · by_cases hq : j < ys.length
            · rw [List.getElem?_append_left hq] at hy
              (obtain q933 := hys3 j y hy
               with_reducible refine x2_4 q933 fun K ks e1 e2 e3 e4 => ?_
               clear q933)
              exact (i2_4 K ks e1 (List.Mem.tail _ (in4 _ e2)) e3 (fun q k r h1 h2 => let ⟨dd, h3⟩ := e4 q k r h1 h2; ⟨dd, List.Mem.tail _ (in4 _ h3)⟩))
            · rw [List.getElem?_append_right (by omega)] at hy
              cases hz : j - ys.length with
              | zero =>
                rw [hz] at hy
                cases hy
                obtain rfl : j = i := by omega
                refine (i2_4 DK kl rfl (List.Mem.head _) ?_ (fun q k r h1 h2 => ?_))
                · rw [hrow]; simpa using hkl
                · rw [hrow] at h2
                  (obtain q934 := hkl2 q k h1
                   with_reducible refine x2_2 q934 fun r' dd h3 h4 => ?_
                   clear q934)
                  rw [h2] at h3
                  cases h3
                  exact ⟨dd, List.Mem.tail _ h4⟩
              | succ n => rw [hz] at hy; simp at hy
        case turn4 =>
          (rintro j ks news hj h9q; (with_reducible refine x2_8 h9q fun frs4 ex4 SU4 Fs4 r935 off4 hkl hap4 in4 hks => ?_
                                     try clear h9q
                                     obtain rfl := r935); rintro v I3 oI3 C3 oC3 D3 m3 h5 tk5 E5 hP3 hC3 hx3 F5 N5 off5 ne5)
          clear F9 N9
          (obtain q815 : ∃ r, v = .ref r ∧ row[j]? = some r := by
            simp only [List.getElem?_toArray, List.getElem?_map, Option.map_eq_some_iff] at hP3
            obtain ⟨r, h1, h2⟩ := hP3
            exact ⟨r, h2.symm, h1⟩
           with_reducible refine x1_2 q815 fun r r816 hr => ?_
           clear q815
           obtain rfl := r816)
          have mK := in4 _ (in3 _ t1)
          k_steps
          unfold Stop
          have o4 := off4.mem
          have nfr : ∀ a, (∀ p ∈ ex4 ++ frs4, p.1 ≠ a) → a ∉ frs4.map (·.1) := fun a ha q => by
            (obtain q817 := List.mem_map.mp q
             with_reducible refine x1_2 q817 fun p hp e => ?_
             clear q817)
            exact ha p (List.mem_append_right _ hp) e
          have hapx : ∀ p ∈ (I2, oI2) :: (C2, oC2) :: (D9, LCg.lst ys) :: ex4, p.1 ∉ frs4.map (·.1) := fun p hp => by
            refine mc1 hp ?_ fun hp => ?_
            · exact nfr _ fun p hp => (o4 p hp).1
            · refine mc1 hp ?_ fun hp => ?_
              · exact nfr _ fun p hp => (o4 p hp).2.1
              · refine mc1 hp ?_ fun hp => ?_
                · exact nfr _ fun p hp => (o4 p hp).2.2
                · exact hap4 p hp
          have hH : ∀ env : Env, env.frame = some L' → env.scope.kind = .function → Here w (A.deeper env) [] h5 := fun env hf hk => (here_comp (ex := (I2, oI2) :: (C2, oC2) :: (D9, LCg.lst ys) :: ex4) hl Fs4 F5 N5 X' T' hf hk).1
          have hV : ∀ env : Env, env.frame = some L' → g.StaysIn (view (A.deeper env) [] h5) := fun env hf => in_view F5 N5 (Split.cons (Split.cons (Split.cons (Split.cons (Split.cons (Split.cons Split.append)))))) Fs4 hl hf
          refine KS.make (A.deeper _) ⟨h5, _, _, _, _⟩ r (hV _ rfl) (hH _ rfl rfl) (by show A.depth + 1 + 30 < _; omega) (by show A.units + 3 + 600 < _; omega) _ _ ?_
          (rintro y h6 tk6 X6 h9q; (with_reducible refine x1_3 h9q fun kk r936 q937 nk6 => ?_
                                    try clear h9q
                                    obtain rfl := r936
                                    obtain ⟨dd, ek6⟩ := q937))
          (obtain q938 := back_comp (ex := (I2, oI2) :: (C2, oC2) :: (D9, LCg.lst ys) :: ex4) hl Fs4 F5 N5 off5 hapx X6
           refine x1_6 q938 fun frs5 SU5 Fs5 F6 N6' off6 hap6 => ?_
           clear q938)
          have nkL : kk ≠ L' := fun q => by
            (obtain q939 := F5.ns
             refine x3_2 q939 fun oL es ep ho _ => ?_
             clear q939)
            rw [q] at nk6
            rw [show h5.get? L' = some oL from ho] at nk6
            cases nk6
          (obtain q818 := join_comp (ex := (I2, oI2) :: (C2, oC2) :: (D9, LCg.lst ys) :: ex4) F5 N5 SU5 N6' off6 hap6 nk6 nkL (view_get ek6).2
           with_reducible refine x0_3 q818 fun N7 off7 hap7 => ?_
           clear q818)
          have nk3 : ∀ a o, (a, o) ∈ (I2, oI2) :: (C2, oC2) :: (D9, LCg.lst ys) :: ex4 → @Ne Nat kk a := fun a o hm q => by
            have z := (N5 (a, o) (List.Mem.tail _ (List.Mem.tail _ (List.Mem.tail _ (List.mem_append_left _ hm))))).1
            rw [show kk = a from q, z] at nk6
            cases nk6
          have off8 : LCg.Off3 I2 C2 D9 (((kk, keyO0 C dd #[some (.ref r)]) :: ex4) ++ frs5) := ⟨⟨nk3 _ _ (List.Mem.head _), nk3 _ _ (List.Mem.tail _ (List.Mem.head _)), nk3 _ _ (List.Mem.tail _ (List.Mem.tail _ (List.Mem.head _)))⟩, LCg.Off3.of fun p hp => by
            rcases List.mem_append.mp hp with hp | hp
            · exact o4 p (List.mem_append_left _ hp)
            · (obtain q819 := SU5.fwd p hp
               with_reducible refine x1_2 q819 fun x hx e => ?_
               clear q819)
              rw [e]
              exact o4 x (List.mem_append_right _ hx)⟩
          refine (i3_6 h6 _ ((I2, oI2) :: (C2, oC2) :: (D9, LCg.lst ys) :: (((kk, keyO0 C dd #[some (.ref r)]) :: ex4) ++ frs5)) rfl F6 (fun p hp => N7 p ?_) ⟨off7.2.1, off7.2.2.1, off7.2.2.2.1, off7.1, off7.2.2.2.2⟩ (Or.inr (i1_3 wv (List.Mem.tail _ (List.Mem.tail _ (List.Mem.tail _ (List.mem_append_left _ (List.Mem.tail _ (in4 _ (in3 _ mv))))))) cv ⟨nv, bv⟩)) (i2_8 frs5 _ (SU4.trans SU5) Fs5 rfl off8 (by simp [hkl]) (fun p hp => ?_) (fun p hp => List.Mem.tail _ (in4 p hp)) (fun q y hy => ?_)))
          · refine mc1 hp ?_ fun hp => ?_
            · exact List.Mem.head _
            · refine mc1 hp ?_ fun hp => ?_
              · exact List.Mem.tail _ (List.Mem.head _)
              · refine mc1 hp ?_ fun hp => ?_
                · exact List.Mem.tail _ (List.Mem.tail _ (List.Mem.head _))
                · refine mc1 hp ?_ fun hp => ?_
                  · exact List.Mem.tail _ (List.Mem.tail _ (List.Mem.tail _ (List.Mem.tail _ (List.Mem.head _))))
                  · refine mc1 hp ?_ fun hp => ?_
                    · exact List.Mem.tail _ (List.Mem.tail _ (List.Mem.tail _ (List.Mem.tail _ (List.Mem.tail _ (List.Mem.head _)))))
                    · refine mc1 hp ?_ fun hp => ?_
                      · exact List.Mem.tail _ (List.Mem.tail _ (List.Mem.tail _ (List.Mem.tail _ (List.Mem.tail _ (List.Mem.tail _ (List.Mem.head _))))))
                      · refine mc1 hp ?_ fun hp => ?_
                        · exact List.Mem.tail _ (List.Mem.tail _ (List.Mem.tail _ (List.Mem.head _)))
                        · exact List.Mem.tail _ (List.Mem.tail _ (List.Mem.tail _ (List.Mem.tail _ (List.Mem.tail _ (List.Mem.tail _ (List.Mem.tail _ hp))))))
          · refine mc1 hp ?_ fun hp => ?_
            · exact hap7 _ (List.Mem.head _)
            · exact hap7 p (List.Mem.tail _ (List.Mem.tail _ (List.Mem.tail _ (List.Mem.tail _ hp))))
          · by_cases hq : q < ks.length
            · rw [List.getElem?_append_left hq] at hy
              (obtain q940 := hks q y hy
               with_reducible refine x3_3 q940 fun k r' dd' e1 e2 e3 => ?_
               clear q940)
              exact (i3_3 k r' dd' e1 e2 (List.Mem.tail _ e3))
            · rw [List.getElem?_append_right (by omega)] at hy
              cases hz : q - ks.length with
              | zero =>
                rw [hz] at hy
                cases hy
                obtain rfl : q = j := by omega
                exact (i3_3 kk r dd rfl hr (List.Mem.head _))
              | succ n => rw [hz] at hy; simp at hy
    case turn2 =>
      (rintro i ys news hi h9q; (with_reducible refine x3_1 h9q fun frs2 ex ps q9z => x0_9 q9z fun SU2 Fs2 r941 hyl2 hap6 sub6 in6 hys tb => ?_
                                 clear q9z
                                 try clear h9q
                                 obtain rfl := r941); rintro v I2 oI2 C2 oC2 D9 m9 h9 tk9 E9 hP hC hx F9 N9 off ne)
      clear F4 N5
      (obtain q942 : ∃ lv rsv asv, v = .ref lv ∧ RecRow g lv rsv asv ∧ asv.length < 60 ∧ Alike c ru asv κ ∧ (if i = 0 then sRs κ rs1 as1 else sRs κ rs2 as2) = sRs κ rsv asv := by
        match i, hi, hP with
        | 0, _, hP => cases hP; exact (i3_5 l1 rs1 as1 rfl R1 z1 al1 rfl)
        | 1, _, hP => cases hP; exact (i3_5 l2 rs2 as2 rfl R2 z2 al2 rfl)
       with_reducible refine x3_5 q942 fun lv rsv asv r943 Rv zv alv hv2 => ?_
       clear q942
       obtain rfl := r943)
      k_steps
      have o9 := off.mem
      have ne9 : ∀ p ∈ (I2, oI2) :: (C2, oC2) :: (D9, LCg.lst ys) :: (ex ++ frs2), p.1 ≠ 103 := fun p hp => by
        have z := o9 (103, tabObj ps) (List.Mem.head _)
        refine mc1 hp ?_ fun hp => ?_
        · exact z.1.symm
        · refine mc1 hp ?_ fun hp => ?_
          · exact z.2.1.symm
          · refine mc1 hp ?_ fun hp => ?_
            · exact z.2.2.symm
            · rcases List.mem_append.mp hp with hp | hp
              · exact sub6 p hp
              · exact fun q => hap6 _ (List.Mem.head _) (List.mem_map.mpr ⟨p, hp, q⟩)
      have N9' : News g L' h9 ((103, tabObj ps) :: (I2, oI2) :: (C2, oC2) :: (D9, LCg.lst ys) :: (ex ++ frs2)) := fun p hp => N9 p (by
        refine mc1 hp ?_ fun hp => ?_
        · exact List.Mem.tail _ (List.Mem.tail _ (List.Mem.tail _ (List.Mem.head _)))
        · refine mc1 hp ?_ fun hp => ?_
          · exact List.Mem.head _
          · refine mc1 hp ?_ fun hp => ?_
            · exact List.Mem.tail _ (List.Mem.head _)
            · refine mc1 hp ?_ fun hp => ?_
              · exact List.Mem.tail _ (List.Mem.tail _ (List.Mem.head _))
              · exact List.Mem.tail _ (List.Mem.tail _ (List.Mem.tail _ (List.Mem.tail _ hp))))
      refine kla_eval rfl ?_
      refine wpAny_mono (Q := fun v s' => ∃ f c' oc vs t ctv pm h' tk ex', v = .ref f ∧ s' = { s with heap := h', toks := tk } ∧ Fr g L' h' mA ∧
        News g L' h' ((I2, oI2) :: (C2, oC2) :: (D9, LCg.lst ys) :: (((103, tabObj #[rawInt 121, rawInt 29, .ref c']) :: ex') ++ frs2)) ∧ LCg.Off3 I2 C2 D9 (((103, tabObj #[rawInt 121, rawInt 29, .ref c']) :: ex') ++ frs2) ∧
        (∀ p ∈ (103, tabObj #[rawInt 121, rawInt 29, .ref c']) :: ex', p.1 ∉ frs2.map (·.1)) ∧ (∀ p ∈ ex', p.1 ≠ 103) ∧ (∀ p ∈ ex, p ∈ ex') ∧ (f, kla_obj "<lambda>" (Str.ofString "_law_sorted" ++ ".<locals>." ++ "<lambda>") lamX.1 lamX.2.1 lamX.2.2.1 [("rules", L' + 1)] pm c' ctv) ∈ ex' ∧
        (c', oc) ∈ ex' ∧ oc.data = .fields vs ∧ vs[1]? = some (.str (Str.ofString "_law_sorted" ++ ".<locals>." ++ "<lambda>") t)) ?lam ?rest (fun _ _ e => e)
      case lam =>
        have ltE : ∀ p ∈ (I2, oI2) :: (C2, oC2) :: (D9, LCg.lst ys) :: (((103, tabObj ps) :: ex) ++ frs2), p.1 < h9.objs.size := fun p hp => Heap.lt_size (N9 p hp).1
        have neE : ∀ a, h9.objs.size ≤ a → ∀ p ∈ (I2, oI2) :: (C2, oC2) :: (D9, LCg.lst ys) :: (((103, tabObj ps) :: ex) ++ frs2), a ≠ p.1 := fun a ha p hp q => Nat.lt_irrefl _ (Nat.lt_of_lt_of_le (ltE p hp) (q ▸ ha))
        have nfE : ∀ a, h9.objs.size ≤ a → a ∉ frs2.map (·.1) := fun a ha q => by
          (obtain q820 := List.mem_map.mp q
           with_reducible refine x1_2 q820 fun x hx e => ?_
           clear q820)
          exact neE a ha x (List.Mem.tail _ (List.Mem.tail _ (List.Mem.tail _ (List.mem_append_right _ hx)))) e.symm
        have offE : ∀ a, h9.objs.size ≤ a → @Ne Nat a I2 ∧ @Ne Nat a C2 ∧ @Ne Nat a D9 := fun a ha => ⟨neE a ha _ (List.Mem.head _), neE a ha _ (List.Mem.tail _ (List.Mem.head _)), neE a ha _ (List.Mem.tail _ (List.Mem.tail _ (List.Mem.head _)))⟩
        have n103 : ∀ a, h9.objs.size ≤ a → a ≠ 103 := fun a ha => neE a ha (103, tabObj ps) (List.Mem.tail _ (List.Mem.tail _ (List.Mem.tail _ (List.Mem.head _))))
        rcases tb with ⟨rfl, rfl⟩ | ⟨c', oc, vs, t, rfl, hcm, hcd, hcv⟩
        · refine lam_new rfl rfl F9 N9' ne9 T' C9 (by kn_triples) (by kn_among) (by rfl) ?_
          intro f c' oc vs t ctv pm h' tk' F' N' d' v' zc zf
          refine (i10_12 f c' oc vs t ctv pm h' tk' ((f, _) :: (c', oc) :: ex) rfl rfl F' (fun p hp => N' p ?_) ⟨off.1, offE f zf, offE c' zc, off.2⟩ (fun p hp => ?_) (fun p hp => ?_) (fun p hp => List.Mem.tail _ (List.Mem.tail _ hp)) (List.Mem.head _) (List.Mem.tail _ (List.Mem.head _)) d' v')
          · refine mc1 hp ?_ fun hp => ?_
            · exact List.Mem.tail _ (List.Mem.tail _ (List.Mem.tail _ (List.Mem.head _)))
            · refine mc1 hp ?_ fun hp => ?_
              · exact List.Mem.tail _ (List.Mem.tail _ (List.Mem.tail _ (List.Mem.tail _ (List.Mem.head _))))
              · refine mc1 hp ?_ fun hp => ?_
                · exact List.Mem.tail _ (List.Mem.tail _ (List.Mem.tail _ (List.Mem.tail _ (List.Mem.tail _ (List.Mem.head _)))))
                · refine mc1 hp ?_ fun hp => ?_
                  · exact List.Mem.head _
                  · refine mc1 hp ?_ fun hp => ?_
                    · exact List.Mem.tail _ (List.Mem.head _)
                    · refine mc1 hp ?_ fun hp => ?_
                      · exact List.Mem.tail _ (List.Mem.tail _ (List.Mem.head _))
                      · exact List.Mem.tail _ (List.Mem.tail _ (List.Mem.tail _ (List.Mem.tail _ (List.Mem.tail _ (List.Mem.tail _ hp)))))
          · refine mc1 hp ?_ fun hp => ?_
            · exact hap6 (103, tabObj #[]) (List.Mem.head _)
            · refine mc1 hp ?_ fun hp => ?_
              · exact nfE f zf
              · refine mc1 hp ?_ fun hp => ?_
                · exact nfE c' zc
                · exact hap6 p (List.Mem.tail _ hp)
          · refine mc1 hp ?_ fun hp => ?_
            · exact n103 f zf
            · refine mc1 hp ?_ fun hp => ?_
              · exact n103 c' zc
              · exact sub6 p hp
        · refine lam_hit rfl rfl F9 N9' T' C9 (by kn_triples) (by kn_among) (by rfl) ?_
          intro f ctv pm h' tk' F' N' zf
          refine (i10_12 f c' oc vs t ctv pm h' tk' ((f, _) :: ex) rfl rfl F' (fun p hp => N' p ?_) ⟨off.1, offE f zf, off.2⟩ (fun p hp => ?_) (fun p hp => ?_) (fun p hp => List.Mem.tail _ hp) (List.Mem.head _) (List.Mem.tail _ hcm) hcd hcv)
          · refine mc1 hp ?_ fun hp => ?_
            · exact List.Mem.tail _ (List.Mem.tail _ (List.Mem.head _))
            · refine mc1 hp ?_ fun hp => ?_
              · exact List.Mem.tail _ (List.Mem.tail _ (List.Mem.tail _ (List.Mem.head _)))
              · refine mc1 hp ?_ fun hp => ?_
                · exact List.Mem.tail _ (List.Mem.tail _ (List.Mem.tail _ (List.Mem.tail _ (List.Mem.head _))))
                · refine mc1 hp ?_ fun hp => ?_
                  · exact List.Mem.head _
                  · refine mc1 hp ?_ fun hp => ?_
                    · exact List.Mem.tail _ (List.Mem.head _)
                    · exact List.Mem.tail _ (List.Mem.tail _ (List.Mem.tail _ (List.Mem.tail _ (List.Mem.tail _ hp))))
          · refine mc1 hp ?_ fun hp => ?_
            · exact hap6 (103, tabObj _) (List.Mem.head _)
            · refine mc1 hp ?_ fun hp => ?_
              · exact nfE f zf
              · exact hap6 p (List.Mem.tail _ hp)
          · refine mc1 hp ?_ fun hp => ?_
            · exact n103 f zf
            · exact sub6 p hp
      case rest =>
        (rintro y s3 h9q; (with_reducible refine x10_1 h9q fun f c' oc vs t ctv pm h' tk' ex' q9z => x0_12 q9z fun r944 r945 F' N' off' hap' sub' in' mf mc cd cv => ?_
                           clear q9z
                           try clear h9q
                           obtain rfl := r944
                           obtain rfl := r945))
        clear F9 N9 N9' tb
        k_steps
        unfold Stop
        have mR : (L' + 1, o2) ∈ ex' := in' _ (in6 _ (in5 _ g2))
        have hH : ∀ env : Env, env.frame = some L' → env.scope.kind = .function → Here w (A.deeper env) [] h' := fun env hf hk => (here_comp hl Fs2 F' N' X' T' hf hk).1
        have hV : ∀ env : Env, env.frame = some L' → g.StaysIn (view (A.deeper env) [] h') := fun env hf => in_view F' N' (Split.cons (Split.cons (Split.cons Split.append))) Fs2 hl hf
        have hW : ∀ env : Env, env.frame = some L' → ∀ a o, (a, o) ∈ ex' → (∀ es n, o.data ≠ .dict es n) → (view (A.deeper env) [] h').get? a = some o := fun env hf a o hm hn => new_in_view F' N' (Split.cons (Split.cons (Split.cons Split.append))) Fs2 hl hf (List.Mem.tail _ (List.Mem.tail _ (List.Mem.tail _ (List.mem_append_left _ (List.Mem.tail _ hm))))) hn
        refine sort_plain (A := A.deeper _) (κ := fun i => κ (asv.getD i (0, 0, 0))) (hH _ rfl rfl) hh (Rv.ext (hV _ rfl)) (by show A.depth + 1 + 40 < _; omega) (by show A.units + 3 + 700 < _; omega) (by omega)
          (hW _ rfl _ _ mf (fun _ _ q => by cases q)) (hW _ rfl _ _ mc (fun _ _ q => by rw [cd] at q; cases q)) cd cv (hW _ rfl _ _ mR (fun _ _ q => by rw [d2] at q; cases q)) d2 (P.ext (hV _ rfl)) hr2 hru (fun a b x y e1 e2 => by rw [less_at e1 e2]; exact alv.rank x y (List.mem_of_getElem? e1) (List.mem_of_getElem? e2)) _ _ ?_
        (rintro y h3 tk3 X3 h9q; (with_reducible refine x1_3 h9q fun D3 r946 q947 f3 => ?_
                                  try clear h9q
                                  obtain rfl := r946
                                  (refine x1_3 q947 fun o3 e3 c3 q821 => ?_
                                   try clear q947
                                   with_reducible refine x1_1 q821 fun n3 dd3 => ?_
                                   clear q821)))
        (obtain q948 := back_comp hl Fs2 F' N' off' hap' X3
         with_reducible refine x1_6 q948 fun frs3 SU3 Fs3 F3 N3 off3 hap3' => ?_
         clear q948)
        (obtain q822 := join_comp F' N' SU3 N3 off3 hap3' (Heap.get?_none_of_le f3) (Nat.ne_of_gt (Nat.lt_of_lt_of_le F'.ns.lt f3)) (view_get e3).2
         with_reducible refine x0_3 q822 fun N4 off4 hap4 => ?_
         clear q822)
        have z103 : D3 ≠ 103 := fun q => by
          have z := Heap.lt_size (N' (103, _) (List.Mem.tail _ (List.Mem.tail _ (List.Mem.tail _ (List.Mem.head _))))).1
          exact Nat.lt_irrefl _ (Nat.lt_of_lt_of_le z (q ▸ f3))
        refine (i3_6 h3 _ (((103, tabObj #[rawInt 121, rawInt 29, .ref c']) :: (D3, o3) :: ex') ++ frs3) rfl F3 (fun p hp => N4 p ?_) ⟨off4.2.1, off4.1, off4.2.2⟩ (Or.inr (i1_3 _ (List.mem_append_left _ (List.Mem.tail _ (List.Mem.tail _ (in' _ (in6 _ mT1))))) rfl ⟨_, rfl⟩)) (i3_9 frs3 ((D3, o3) :: ex') _ (SU2.trans SU3) Fs3 rfl (by simp [hyl2]) (fun p hp => ?_) (fun p hp => ?_) (fun p hp => List.Mem.tail _ (in' p (in6 p hp))) (fun j y hy => ?_) (Or.inr (i4_4 c' oc vs t rfl (List.Mem.tail _ mc) cd cv))))
        · refine mc1 hp ?_ fun hp => ?_
          · exact List.Mem.head _
          · refine mc1 hp ?_ fun hp => ?_
            · exact List.Mem.tail _ (List.Mem.head _)
            · refine mc1 hp ?_ fun hp => ?_
              · exact List.Mem.tail _ (List.Mem.tail _ (List.Mem.head _))
              · refine mc1 hp ?_ fun hp => ?_
                · exact List.Mem.tail _ (List.Mem.tail _ (List.Mem.tail _ (List.Mem.tail _ (List.Mem.head _))))
                · refine mc1 hp ?_ fun hp => ?_
                  · exact List.Mem.tail _ (List.Mem.tail _ (List.Mem.tail _ (List.Mem.head _)))
                  · exact List.Mem.tail _ (List.Mem.tail _ (List.Mem.tail _ (List.Mem.tail _ (List.Mem.tail _ hp))))
        · refine mc1 hp ?_ fun hp => ?_
          · exact hap4 _ (List.Mem.tail _ (List.Mem.head _))
          · refine mc1 hp ?_ fun hp => ?_
            · exact hap4 _ (List.Mem.head _)
            · exact hap4 p (List.Mem.tail _ (List.Mem.tail _ hp))
        · refine mc1 hp ?_ fun hp => ?_
          · exact z103
          · exact sub' p hp
        · by_cases hj : j < ys.length
          · rw [List.getElem?_append_left hj] at hy
            (obtain q949 := hys j y hy
             with_reducible refine x3_4 q949 fun D o n e1 e2 e3 e4 => ?_
             clear q949)
            exact (i3_4 D o n e1 (List.Mem.tail _ (in' _ e2)) e3 e4)
          · rw [List.getElem?_append_right (by omega)] at hy
            cases hq : j - ys.length with
            | zero =>
              rw [hq] at hy
              cases hy
              obtain rfl : j = i := by omega
              exact (i3_4 D3 o3 n3 rfl (List.Mem.head _) c3 (by rw [hv2]; exact dd3))
            | succ n => rw [hq] at hy; simp at hy
  case turn =>
    (rintro i ys news hi h9q; (with_reducible refine x2_7 h9q fun frs1 ex SU1 Fs1 r950 hyl hap1 hmem hys => ?_
                               try clear h9q
                               obtain rfl := r950); rintro v I2 oI2 C2 oC2 D2 m2 h2 tk2 E2 hP hC hx F2 N2 off ne)
    clear F1 N1
    (obtain q951 : ∃ lv rsv asv, v = .ref lv ∧ RecRow g lv rsv asv ∧ asv.length < 60 ∧ Alike c ru asv κ ∧ (if i = 0 then sRs κ rs1 as1 else sRs κ rs2 as2) = sRs κ rsv asv := by
      match i, hi, hP with
      | 0, _, hP => cases hP; exact (i3_5 l1 rs1 as1 rfl R1 z1 al1 rfl)
      | 1, _, hP => cases hP; exact (i3_5 l2 rs2 as2 rfl R2 z2 al2 rfl)
     with_reducible refine x3_5 q951 fun lv rsv asv r952 Rv zv alv hv2 => ?_
     clear q951
     obtain rfl := r952)
    have hmK := hmem _ (List.Mem.head _)
    k_steps
    refine id ?_
    obtain ⟨hH, hV⟩ : (∀ env : Env, env.frame = some L' → env.scope.kind = .function → Here w (A.deeper env) [] h2) ∧ ∀ env : Env, env.frame = some L' → g.StaysIn (view (A.deeper env) [] h2) :=
      ⟨fun env hf hk => (here_comp hl Fs1 F2 N2 X' T' hf hk).1, fun env hf => in_view F2 N2 (Split.cons (Split.cons (Split.cons Split.append))) Fs1 hl hf⟩
    refine sort_keys (κ := fun i => κ (asv.getD i (0, 0, 0))) (hH _ rfl rfl) (KS.ext (hV _ rfl)) (Rv.ext (hV _ rfl)) (by show A.depth + 1 + 30 < _; omega) (by show A.units + 3 + 700 < _; omega) (by omega) (fun a b x y e1 e2 => by rw [less_at e1 e2]; exact alv.cmp x y (List.mem_of_getElem? e1) (List.mem_of_getElem? e2)) _ _ ?_
    (rintro y h3 tk3 X3 h9q; (with_reducible refine x1_3 h9q fun D3 r953 q954 f3 => ?_
                              try clear h9q
                              obtain rfl := r953
                              (refine x1_3 q954 fun o3 e3 c3 q823 => ?_
                               try clear q954
                               with_reducible refine x1_1 q823 fun n3 dd3 => ?_
                               clear q823)))
    (obtain q955 := back_comp hl Fs1 F2 N2 off hap1 X3
     with_reducible refine x1_6 q955 fun frs2 SU2 Fs2 F3 N3 off3 hap3 => ?_
     clear q955)
    (obtain q824 := join_comp F2 N2 SU2 N3 off3 hap3 (Heap.get?_none_of_le f3) (Nat.ne_of_gt (Nat.lt_of_lt_of_le F2.ns.lt f3)) (view_get e3).2
     with_reducible refine x0_3 q824 fun N4 off4 hap4 => ?_
     clear q824)
    refine (i3_6 h3 _ _ rfl F3 N4 off4 (Or.inr (i1_3 _ (List.mem_append_left _ (List.Mem.tail _ (hmem _ (List.Mem.tail _ (List.Mem.head _))))) rfl ⟨_, rfl⟩)) (i2_7 frs2 _ (SU1.trans SU2) Fs2 rfl (by simp [hyl]) hap4 (fun p hp => List.Mem.tail _ (hmem p hp)) (fun j y hy => ?_)))
    by_cases hj : j < ys.length
    · rw [List.getElem?_append_left hj] at hy
      (obtain q956 := hys j y hy
       with_reducible refine x3_4 q956 fun D o n e1 e2 e3 e4 => ?_
       clear q956)
      exact (i3_4 D o n e1 (List.Mem.tail _ e2) e3 e4)
    · rw [List.getElem?_append_right (by omega)] at hy
      cases hq : j - ys.length with
      | zero =>
        rw [hq] at hy
        cases hy
        obtain rfl : j = i := by omega
        exact (i3_4 D3 o3 n3 rfl (List.Mem.head _) c3 (by rw [hv2]; exact dd3))
      | succ n => rw [hq] at hy; simp at hy
end Mine
end PartK1

section MacE
open PySem PySem.W PyProof.Rows PySem.Calls in
local macro_rules | `(tactic| k_mem) => `(tactic| first | exact Mine.mem_deep (by assumption) | exact List.mem_append_left _ (by assumption) | (refine List.Mem.tail _ ?_; k_mem))
open PySem PySem.W PyProof.Rows PySem.Calls in
local macro_rules | `(tactic| walk_at "call type:list") => `(tactic| isplit)
open PySem PySem.W PyProof.Rows PySem.Calls in
local macro_rules | `(tactic| walk_at "call ref") => `(tactic| ((with_reducible show wpAny _ _ (call (Value.ref _) _) _ _ _); isplit))
open PySem PySem.W PyProof.Rows PySem.Calls in
local macro_rules | `(tactic| walk_at "subscriptTail Name Constant ref int") => `(tactic| isplit)
open PySem PySem.W PyProof.Rows PySem.Calls in
local macro_rules | `(tactic| walk_at "call builtin:isinstance") => `(tactic| isplit)
open PySem PySem.W PyProof.Rows PySem.Calls in
local macro_rules | `(tactic| walk_at "call builtin:len") => `(tactic| isplit)
open PySem PySem.W PyProof.Rows PySem.Calls in
local macro_rules | `(tactic| walk_at "eval ListComp") => `(tactic| isplit)
section PartM2
open PySem PySem.W PyProof.Rows PySem.Calls
set_option Elab.async false
set_option maxRecDepth 100000
set_option maxHeartbeats 4000000
set_option linter.unusedVariables false
set_option rowWalk.seconds 0
namespace Mine
theorem start_M2 {M : Model} {A : Around} {env : Env} {E : Value → Shared → Prop} {s : Shared} {Q : Flow → Shared → Prop} (h : Q .next s) : wpAny M A (execs [] env) Q E s := by
  w_top off
  walk1
  exact h
open TI (Frs SameUp)
open SeqAt
local macro_rules | `(tactic| walk_at "exec Assign cons ListComp") => `(tactic| isplit)
local macro_rules | `(tactic| walk_at "execs cons") => `(tactic| ((with_reducible show wpAny _ _ (execs (Stmt.Assign [_] (PySem.Expr.ListComp _ [⟨_, _, [_], _⟩] _ _) _ :: _) _) _ _ _); isplit))
local macro_rules | `(tactic| walk_at "CompSrc") => `(tactic| isplit)
local macro_rules | `(tactic| walk_at "callWith ref") => `(tactic| (k_here; k_dflt (refine' callWith_C ?k1 ?_; (case k1 => exact ClsC.ext (by assumption) (Fr.keep (by k_asm))); k_whole)))
local macro_rules | `(tactic| walk_at "ClsC") => `(tactic| (k_dflt (exact ClsC.ext (by assumption) (Fr.keep (by k_asm)))))
theorem c_bags {w : World} {A : Around} {s : Shared} {l1 l2 rules C : Addr} {rs1 rs2 : List Addr} {as1 as2 : List Rec} {ru : List (Int × Int)} {c : Rec → Rec → Int}
    (H : Here w A [] s.heap) (hh : A.handled = none) (hd : A.depth + 80 < recursionLimit) (hu : A.units + 1000 < cLine)
    (R1 : RecRow (view A [] s.heap) l1 rs1 as1) (R2 : RecRow (view A [] s.heap) l2 rs2 as2) (z1 : as1.length < 60) (z2 : as2.length < 60) (P : PairRow (view A [] s.heap) rules ru) (hr2 : ru.length ≤ 2) (hru : ∀ r ∈ ru, r.1 = 0 ∨ r.1 = 1)
    (KS : KeySrt w (view A [] s.heap) C c) (KC : KeyCls w (view A [] s.heap) C c) (crefl : ∀ a, c a a = 0) (bags_ok : BagsOk c as1 as2 (as1.map (rankOf ru)) (as2.map (rankOf ru))) :
    Quiet w A (call (.ref 111) [.ref l1, .ref l2, .ref rules, .ref C]) s (fun r v => r = .bool true) := by
  intro Q E ret
  have X := H.frag
  have XS := X.keeps view_le
  revert XS X; k_fill; intro X XS
  refine wpAny_call ?_
  k_dflt (refine' enter_c (hid := []) (news := []) H ?hN (XS 111 _ (by k_is)) ?hd (codeRec_of XS ?hc) ?hr ?hb ?hl ?hnd ?_ ?hco ?hg ?hk; (case hN => exact fun _ h => nomatch h); (case hd => exact rfl); (case hc => k_is); (case hr => omega); (case hb => exact BindsTo.of_eq rfl); (case hl => exact rfl); (case hnd => decide); (case hco => exact rfl); (case hg => exact rfl); (case hk => exact rfl))
  clear XS X
  intro l frs p loose mean mg mb L' h' tk cells I' X' T' F' N' lt' Y'
  have hl := I'.hl
  have Fs := I'.fs
  (obtain q91 := CellsAre.three Y'
   with_reducible refine x3_4 q91 fun o1 o2 o3 r92 d1' d2' d3' => ?_
   clear q91
   obtain rfl := r92)
  have d1 : o1.data = .cell none := d1'
  have d2 : o2.data = .cell none := d2'
  have d3 : o3.data = .cell (some (.ref C)) := d3'
  clear d1' d2' d3' Y'
  (obtain q93 : ∃ m0, Fr (view A [] s.heap) L' h' m0 ∧ m0 (Str.ofString "first") = some (.ref l1) ∧ m0 (Str.ofString "second") = some (.ref l2) ∧ m0 (Str.ofString "rules") = some (.ref rules) := (i1_4 _ F' rfl rfl rfl)
   with_reducible refine x1_4 q93 fun m0 F0 hm1 hm2 hm3 => ?_
   clear q93)
  clear F'
  simp only [List.nil_append, List.cons_append] at N'
  generalize hg : view A [] s.heap = g at *
  have hCl : ClsC C g := KS.cls
  (try dsimp only); (try k_fold)
  k_steps
  unfold Stop
  refine LCg.Assign_ListComp_U (F₀ := F0) (by rfl) (by with_unfolding_all rfl) (by with_unfolding_all rfl) (by decide) (by rfl) (by decide) (by rfl) (by rfl) (by rfl) ?_
  k_steps
  unfold Stop
  rename_i T0 h1 F1 N1' q4
  have N1 : News g L' h1 ([(L' + 1 + 1 + 1, o1), (L' + 1 + 1, o2), (L' + 1, o3), (T0, W.listOf #[Value.ref l1, Value.ref l2] 0)] ++ frs) := fun p hp => N1' p (by
      refine mc1 hp ?_ fun hp => ?_
      · first | exact List.Mem.head _ | exact List.Mem.tail _ (List.Mem.head _) | exact List.Mem.tail _ (List.Mem.tail _ (List.Mem.head _)) | exact List.Mem.tail _ (List.Mem.tail _ (List.Mem.tail _ (List.Mem.head _)))
      · refine mc1 hp ?_ fun hp => ?_
        · first | exact List.Mem.head _ | exact List.Mem.tail _ (List.Mem.head _) | exact List.Mem.tail _ (List.Mem.tail _ (List.Mem.head _)) | exact List.Mem.tail _ (List.Mem.tail _ (List.Mem.tail _ (List.Mem.head _)))
        · refine mc1 hp ?_ fun hp => ?_
          · first | exact List.Mem.head _ | exact List.Mem.tail _ (List.Mem.head _) | exact List.Mem.tail _ (List.Mem.tail _ (List.Mem.head _)) | exact List.Mem.tail _ (List.Mem.tail _ (List.Mem.tail _ (List.Mem.head _)))
          · refine mc1 hp ?_ fun hp => ?_
            · first | exact List.Mem.head _ | exact List.Mem.tail _ (List.Mem.head _) | exact List.Mem.tail _ (List.Mem.tail _ (List.Mem.head _)) | exact List.Mem.tail _ (List.Mem.tail _ (List.Mem.tail _ (List.Mem.head _)))
            · exact List.Mem.tail _ (List.Mem.tail _ (List.Mem.tail _ (List.Mem.tail _ hp))))
  have hap0 : ∀ p ∈ [(L' + 1 + 1 + 1, o1), (L' + 1 + 1, o2), (L' + 1, o3), (T0, W.listOf #[Value.ref l1, Value.ref l2] 0)], p.1 ∉ frs.map (·.1) := fun p hp q => by
    (obtain q81 := List.mem_map.mp q
     with_reducible refine x1_2 q81 fun x hx e => ?_
     clear q81)
    have lx := I'.lt x hx
    simp only [List.mem_cons, List.not_mem_nil, or_false] at hp
    rcases hp with rfl | rfl | rfl | rfl
    · exact Nat.ne_of_lt (Nat.lt_succ_of_lt (Nat.lt_succ_of_lt (Nat.lt_succ_of_lt lx))) e
    · exact Nat.ne_of_lt (Nat.lt_succ_of_lt (Nat.lt_succ_of_lt lx)) e
    · exact Nat.ne_of_lt (Nat.lt_succ_of_lt lx) e
    · exact Nat.ne_of_lt (Nat.lt_trans (Nat.lt_succ_of_lt lx) q4.2.2.1) e
  clear N1'
  have mm1 : (L' + 1 + 1 + 1, o1) ∈ [(L' + 1 + 1 + 1, o1), (L' + 1 + 1, o2), (L' + 1, o3), (T0, W.listOf #[Value.ref l1, Value.ref l2] 0)] := List.Mem.head _
  have mm2 : (L' + 1 + 1, o2) ∈ [(L' + 1 + 1 + 1, o1), (L' + 1 + 1, o2), (L' + 1, o3), (T0, W.listOf #[Value.ref l1, Value.ref l2] 0)] := List.Mem.tail _ (List.Mem.head _)
  have t1 : (L' + 1, o3) ∈ [(L' + 1 + 1 + 1, o1), (L' + 1 + 1, o2), (L' + 1, o3), (T0, W.listOf #[Value.ref l1, Value.ref l2] 0)] := List.Mem.tail _ (List.Mem.tail _ (List.Mem.head _))
  have t0 : (T0, W.listOf #[Value.ref l1, Value.ref l2] 0) ∈ [(L' + 1 + 1 + 1, o1), (L' + 1 + 1, o2), (L' + 1, o3), (T0, W.listOf #[Value.ref l1, Value.ref l2] 0)] := List.Mem.tail _ (List.Mem.tail _ (List.Mem.tail _ (List.Mem.head _)))
  generalize [(L' + 1 + 1 + 1, o1), (L' + 1 + 1, o2), (L' + 1, o3), (T0, W.listOf #[Value.ref l1, Value.ref l2] 0)] = things at *
  refine LCg.CompSrc.ledger (ax := T0) (its := #[Value.ref l1, Value.ref l2]) (k := 0) ?hq F1 N1 ?hm ?hs ?_
  case hq => exact hh
  case hm => exact List.mem_append_left _ t0
  case hs => rw [sizeLine_eq]; simp
  intro g3
  refine comp_ind (n := 2) (fun i ys news => ∃ frs' ex, SameUp frs frs' ∧ Frs l frs' ∧ news = ex ++ frs' ∧ ys.length = i ∧ (∀ p ∈ ex, p.1 ∉ frs'.map (·.1)) ∧ (∀ p ∈ things, p ∈ ex) ∧
    ∀ (j : Nat) y, ys[j]? = some y → ∃ K, ∃ ks : List Addr, y = .ref K ∧ (K, LCg.lst (ks.map Value.ref)) ∈ ex ∧ ks.length = (if j = 0 then rs1 else rs2).length ∧
      ∀ (q : Nat) k r, ks[q]? = some k → (if j = 0 then rs1 else rs2)[q]? = some r → ∃ dd, (k, keyO0 C dd #[some (.ref r)]) ∈ ex) (i2_7 frs things (SameUp.refl _) Fs rfl rfl hap0 (fun p hp => hp) (fun j y e => by simp at e)) ?fin3 ?turn3
  case fin3 =>
    (rintro ys news h9q; (with_reducible refine x2_7 h9q fun frs3 ex3 SU3 Fs3 r94 hyl3 hap3 in3 hys3 => ?_
                          try clear h9q
                          obtain rfl := r94))
    clear F1 N1
    unfold LCg.FinA
    intro KR h7 tk7 F7 N7 oR7
    (obtain q95 : ∃ (K1 : Addr) (ks1 : List Addr) (K2 : Addr) (ks2 : List Addr), ys = [.ref K1, .ref K2] ∧ (K1, LCg.lst (ks1.map Value.ref)) ∈ ex3 ∧ ks1.length = rs1.length ∧ (∀ (q : Nat) k r, ks1[q]? = some k → rs1[q]? = some r → ∃ dd, (k, keyO0 C dd #[some (.ref r)]) ∈ ex3) ∧ (K2, LCg.lst (ks2.map Value.ref)) ∈ ex3 ∧ ks2.length = rs2.length ∧ (∀ (q : Nat) k r, ks2[q]? = some k → rs2[q]? = some r → ∃ dd, (k, keyO0 C dd #[some (.ref r)]) ∈ ex3) := by
      obtain ⟨y0, y1, e99⟩ := len2 hyl3
      (obtain q82 := hys3 0 y0 (by subst e99; rfl)
       with_reducible refine x2_4 q82 fun K ks r83 x1 x2 x3 => ?_
       clear q82
       obtain rfl := r83)
      (obtain q84 := hys3 1 y1 (by subst e99; rfl)
       with_reducible refine x2_4 q84 fun K' ks' r85 x1' x2' x3' => ?_
       clear q84
       obtain rfl := r85)
      exact (i4_7 K ks K' ks' e99 x1 x2 x3 x1' x2' x3')
     with_reducible refine x4_1 q95 fun K1 ks1 K2 ks2 q9z => x0_7 q9z fun r96 e1 f1 a1 e2 f2 a2 => ?_
     clear q9z
     clear q95
     obtain rfl := r96)
    have hoR3 : KR ∉ frs3.map (·.1) := fun q => by
      (obtain q86 := List.mem_map.mp q
       with_reducible refine x1_2 q86 fun p hp e => ?_
       clear q86)
      exact off1_mem oR7 p (List.mem_append_right _ hp) e
    have N7a : News g L' h7 (((KR, LCg.lst [.ref K1, .ref K2]) :: ex3) ++ frs3) := N7
    have c2 := N7a _ (List.mem_append_left _ (List.Mem.tail _ (in3 _ mm2)))
    have c3 := N7a _ (List.mem_append_left _ (List.Mem.tail _ (in3 _ mm1)))
    have hcs : ∀ b ∈ [L' + 1 + 1, L' + 1 + 1 + 1], g.get? b = none := fun b hb => by
      refine mc1 hb ?_ fun hb => ?_
      · exact c2.2.2
      · rw [List.mem_singleton.mp hb]; exact c3.2.2
    have nc : ∀ a o, (a, o) ∈ (KR, LCg.lst [.ref K1, .ref K2]) :: ex3 → (∀ q, o.data ≠ .cell q) → a ∉ [L' + 1 + 1, L' + 1 + 1 + 1] := fun a o hm hn hb => by
      have z := (N7a _ (List.mem_append_left _ hm)).1
      rcases List.mem_cons.mp hb with rfl | hb
      · rw [c2.1] at z; cases z; exact hn _ d2
      · have hb' := List.mem_singleton.mp hb
        subst hb'
        rw [c3.1] at z; cases z; exact hn _ d1
    (obtain q911 := Scn.makeC (new := (KR, LCg.lst [.ref K1, .ref K2]) :: ex3) (envOfC (Str.ofString "_law_bags") lbScope L' 111 (.ref 110)) [L' + 1 + 1, L' + 1 + 1 + 1] hcs hl Fs3 F7 N7a (List.forall_mem_cons.mpr ⟨hoR3, hap3⟩) rfl
     with_reducible refine x1_4 q911 fun things' S7 N7' off7 all7 => ?_
     clear q911)
    have hV7 : ∀ b ∈ [L' + 1 + 1, L' + 1 + 1 + 1], (view (A.deeper (envOfC (Str.ofString "_law_bags") lbScope L' 111 (.ref 110))) [L' + 1 + 1, L' + 1 + 1 + 1] h7).get? b = none := fun b hb => by
      cases q : (view (A.deeper (envOfC (Str.ofString "_law_bags") lbScope L' 111 (.ref 110))) [L' + 1 + 1, L' + 1 + 1 + 1] h7).get? b with
      | none => rfl
      | some o => exact absurd (List.mem_append_left _ hb) (view_get q).1
    generalize view (A.deeper _) [L' + 1 + 1, L' + 1 + 1 + 1] h7 = V7 at S7 hV7
    have tKR : V7.IsList KR #[.ref K1, .ref K2] := (i1_3 _ (S7.tv _ (all7 _ (List.Mem.head _) (nc _ _ (List.Mem.head _) (fun _ q => by cases q)))) rfl ⟨_, rfl⟩)
    have Q1 : KeyRow V7 C K1 ks1 as1 := ⟨(i1_3 _ (S7.tv _ (all7 _ (List.Mem.tail _ e1) (nc _ _ (List.Mem.tail _ e1) (fun _ q => by cases q)))) rfl ⟨_, rfl⟩), f1.trans R1.len, by omega, fun q k a hk ha => by
      obtain ⟨r, hr⟩ : ∃ r, rs1[q]? = some r := ⟨_, List.getElem?_eq_getElem (by have := (List.getElem?_eq_some_iff.mp hk).1; omega)⟩
      obtain ⟨dd, hm⟩ := a1 q k r hk hr
      exact ⟨r, ⟨dd, S7.tv _ (all7 _ (List.Mem.tail _ hm) (nc _ _ (List.Mem.tail _ hm) (fun _ q => by cases q)))⟩, (R1.at_ q r a hr ha).ext S7.gv⟩⟩
    have Q2 : KeyRow V7 C K2 ks2 as2 := ⟨(i1_3 _ (S7.tv _ (all7 _ (List.Mem.tail _ e2) (nc _ _ (List.Mem.tail _ e2) (fun _ q => by cases q)))) rfl ⟨_, rfl⟩), f2.trans R2.len, by omega, fun q k a hk ha => by
      obtain ⟨r, hr⟩ : ∃ r, rs2[q]? = some r := ⟨_, List.getElem?_eq_getElem (by have := (List.getElem?_eq_some_iff.mp hk).1; omega)⟩
      obtain ⟨dd, hm⟩ := a2 q k r hk hr
      exact ⟨r, ⟨dd, S7.tv _ (all7 _ (List.Mem.tail _ hm) (nc _ _ (List.Mem.tail _ hm) (fun _ q => by cases q)))⟩, (R2.at_ q r a hr ha).ext S7.gv⟩⟩
    have nf2 : L' + 1 + 1 ∉ frs3.map (·.1) := hap3 _ (in3 _ mm2)
    have nf3 : L' + 1 + 1 + 1 ∉ frs3.map (·.1) := hap3 _ (in3 _ mm1)
    have N8 : News g L' h7 (((L' + 1 + 1, o2) :: (L' + 1 + 1 + 1, o1) :: things') ++ frs3) := fun p hp => by
      refine mc1 hp ?_ fun hp => ?_
      · exact c2
      · refine mc1 hp ?_ fun hp => ?_
        · exact c3
        · exact N7' p hp
    (obtain q912 : ∃ m8, Fr g L' h7 m8 ∧ m8 (Str.ofString "first") = some (.ref l1) ∧ m8 (Str.ofString "second") = some (.ref l2) ∧ m8 (Str.ofString "rules") = some (.ref rules) ∧ m8 (Str.ofString "keys") = some (.ref KR) := ⟨_, F7, by kd_p, by kd_p, by kd_p, by kd_p⟩
     with_reducible refine x1_5 q912 fun m8 F8 p1 p2 p3 p4 => ?_
     clear q912)
    clear F7 N7 N7a N7' nc c2 c3 e1 e2 a1 a2 f1 f2 hys3 oR7 hoR3 hap3 in3 all7 mm1 mm2 t1 t0 hap0
    dsimp only
    k_steps
    unfold Stop
    refine c_ranks (A := A.deeper _) (S7.here F8 N8 X' T') hh (by show A.depth + 1 + 30 < _; omega) (R1.ext (in_view F8 N8 Split.append S7.Fs S7.hl rfl)) (by omega) (P.ext (in_view F8 N8 Split.append S7.Fs S7.hl rfl)) hr2 hru _ _ ?_
    (rintro y h9 tk9 X9 h9q; (with_reducible refine x2_5 h9q fun b1 bs1 r913 W1 fz1 c914 q915 => ?_
                              try clear h9q
                              obtain rfl := r913
                              clear c914
                              with_reducible refine x1_1 q915 fun nn1 nd1 => ?_
                              clear q915))
    (obtain q916 := S7.backC [L' + 1 + 1, L' + 1 + 1 + 1] hcs F8 N8 (fun p hp => List.Mem.tail _ (List.Mem.tail _ hp)) (List.forall_mem_cons.mpr ⟨nf2, List.forall_mem_cons.mpr ⟨nf3, S7.hap⟩⟩) rfl hV7 X9
     with_reducible refine x2_8 q916 fun frs9 th9 SU9 S9 F9 N9a off9 all9 st9 hV9 => ?_
     clear q916)
    have nf2 : L' + 1 + 1 ∉ frs9.map (·.1) := fun q => nf2 (sameUp_map SU9 q)
    have nf3 : L' + 1 + 1 + 1 ∉ frs9.map (·.1) := fun q => nf3 (sameUp_map SU9 q)
    have N9 : News g L' h9 (((L' + 1 + 1, o2) :: (L' + 1 + 1 + 1, o1) :: th9) ++ frs9) := fun p hp => N9a p (by
      refine mc1 hp ?_ fun hp => ?_
      · exact List.Mem.head _
      · refine mc1 hp ?_ fun hp => ?_
        · exact List.Mem.tail _ (List.Mem.head _)
        · exact List.mem_append_right _ hp)
    have bc1 : b1 ∉ [L' + 1 + 1, L' + 1 + 1 + 1] := fun hb => by
      rcases List.mem_cons.mp hb with rfl | hb
      · exact Nat.lt_irrefl _ (Nat.lt_of_lt_of_le (Heap.lt_size (N8 _ (List.Mem.head _)).1) fz1)
      · rw [List.mem_singleton.mp hb] at fz1
        exact Nat.lt_irrefl _ (Nat.lt_of_lt_of_le (Heap.lt_size (N8 _ (List.Mem.tail _ (List.Mem.head _))).1) fz1)
    have W1' := W1.off (fun b o e n => view_cells e n) (cs := [L' + 1 + 1, L' + 1 + 1 + 1]) fun b hb => by
      refine mc1 hb ?_ fun hb => ?_
      · exact (i2_2 o2 _ (new_view S9 N9 (List.Mem.head _) nf2 rfl) d2)
      · rw [List.mem_singleton.mp hb]; exact (i2_2 o1 _ (new_view S9 N9 (List.Mem.tail _ (List.Mem.head _)) nf3 rfl) d1)
    have nd1' := view_cells nd1 bc1
    generalize view (A.deeper _) [L' + 1 + 1, L' + 1 + 1 + 1] h9 = V9 at S9 st9 W1' nd1' hV9
    clear W1 nd1 fz1 N9a all9 off9 F8 N8 X9 bc1 hV7
    k_steps
    unfold Stop
    refine c_ranks (A := A.deeper _) (S9.here F9 N9 X' T') hh (by show A.depth + 1 + 30 < _; omega) (R2.ext (in_view F9 N9 Split.append S9.Fs S9.hl rfl)) (by omega) (P.ext (in_view F9 N9 Split.append S9.Fs S9.hl rfl)) hr2 hru _ _ ?_
    (rintro y h10 tk10 X10 h9q; (with_reducible refine x2_5 h9q fun b2 bs2 r917 W2 fz2 c918 q919 => ?_
                                 try clear h9q
                                 obtain rfl := r917
                                 clear c918
                                 with_reducible refine x1_1 q919 fun nn2 nd2 => ?_
                                 clear q919))
    (obtain q920 := S9.backC [L' + 1 + 1, L' + 1 + 1 + 1] hcs F9 N9 (fun p hp => List.Mem.tail _ (List.Mem.tail _ hp)) (List.forall_mem_cons.mpr ⟨nf2, List.forall_mem_cons.mpr ⟨nf3, S9.hap⟩⟩) rfl hV9 X10
     with_reducible refine x2_8 q920 fun frs10 th10 SU10 S10 F10 N10a off10 all10 st10 c921 => ?_
     clear q920
     clear c921)
    have nf2 : L' + 1 + 1 ∉ frs10.map (·.1) := fun q => nf2 (sameUp_map SU10 q)
    have nf3 : L' + 1 + 1 + 1 ∉ frs10.map (·.1) := fun q => nf3 (sameUp_map SU10 q)
    have N10 : News g L' h10 (((L' + 1 + 1, o2) :: (L' + 1 + 1 + 1, o1) :: th10) ++ frs10) := fun p hp => N10a p (by
      refine mc1 hp ?_ fun hp => ?_
      · exact List.Mem.head _
      · refine mc1 hp ?_ fun hp => ?_
        · exact List.Mem.tail _ (List.Mem.head _)
        · exact List.mem_append_right _ hp)
    have bc2 : b2 ∉ [L' + 1 + 1, L' + 1 + 1 + 1] := fun hb => by
      rcases List.mem_cons.mp hb with rfl | hb
      · exact Nat.lt_irrefl _ (Nat.lt_of_lt_of_le (Heap.lt_size (N9 _ (List.Mem.head _)).1) fz2)
      · rw [List.mem_singleton.mp hb] at fz2
        exact Nat.lt_irrefl _ (Nat.lt_of_lt_of_le (Heap.lt_size (N9 _ (List.Mem.tail _ (List.Mem.head _))).1) fz2)
    have W2' := W2.off (fun b o e n => view_cells e n) (cs := [L' + 1 + 1, L' + 1 + 1 + 1]) fun b hb => by
      refine mc1 hb ?_ fun hb => ?_
      · exact (i2_2 o2 _ (new_view S10 N10 (List.Mem.head _) nf2 rfl) d2)
      · rw [List.mem_singleton.mp hb]; exact (i2_2 o1 _ (new_view S10 N10 (List.Mem.tail _ (List.Mem.head _)) nf3 rfl) d1)
    have nd2' := view_cells nd2 bc2
    generalize view (A.deeper _) [L' + 1 + 1, L' + 1 + 1 + 1] h10 = V10 at S10 st10 W2' nd2'
    replace W1' := W1'.ext st10
    replace nd1' := st10 _ _ nd1'
    replace tKR := IsList.ext tKR (StaysIn.trans st9 st10)
    replace Q1 := Q1.ext (StaysIn.trans st9 st10)
    replace Q2 := Q2.ext (StaysIn.trans st9 st10)
    have SU10' := (SU3.trans SU9).trans SU10
    have offc : ∀ p ∈ th10, p.1 ≠ L' + 1 + 1 ∧ p.1 ≠ L' + 1 + 1 + 1 := fun p hp => ⟨fun q => off10 p hp (q ▸ List.Mem.head _), fun q => off10 p hp (q ▸ List.Mem.tail _ (List.Mem.head _))⟩
    clear W2 nd2 fz2 N10a all10 off10 F9 N9 X10 bc2 hV9 st9 st10
    k_steps
    rename Fr _ _ _ _ => F11
    rename News _ _ _ _ => N11
    refine unpackN_ F11 N11 (i1_3 _ (N11.get (List.Mem.head _)) rfl ⟨_, rfl⟩) hh rfl rfl ?_
    intro h12 F12 N12
    have N12' : News g L' h12 ((L' + 1 + 1, o2) :: (L' + 1 + 1 + 1, o1) :: (th10 ++ frs10)) := fun p hp => N12 p (List.Mem.tail _ hp)
    have nx2 : ∀ p ∈ th10 ++ frs10, p.1 ≠ L' + 1 + 1 := fun p hp => (List.mem_append.mp hp).elim (fun hp => (offc p hp).1) fun hp q => nf2 (q ▸ List.mem_map_of_mem hp)
    have nx3 : ∀ p ∈ th10 ++ frs10, p.1 ≠ L' + 1 + 1 + 1 := fun p hp => (List.mem_append.mp hp).elim (fun hp => (offc p hp).2) fun hp q => nf3 (q ▸ List.mem_map_of_mem hp)
    clear N12
    k_steps
    unfold Stop
    rename_i oR' dR' h14 oO' F14 N14 dO'
    dsimp only
    have N15 : News g L' h14 (((L' + 1 + 1, oR') :: (L' + 1 + 1 + 1, oO') :: th10) ++ frs10) := N14
    (obtain q922 := Scn.make (envOfC (Str.ofString "_law_bags") lbScope L' 111 (.ref 110)) S10.hl S10.Fs F14 N15 (List.forall_mem_cons.mpr ⟨nf2, List.forall_mem_cons.mpr ⟨nf3, S10.hap⟩⟩) rfl
     with_reducible refine x1_3 q922 fun th15 S15 N16 all15 => ?_
     clear q922)
    have e15 := S10.cl _ S15.gv fun p hp => S15.tv p (all15 p (List.Mem.tail _ (List.Mem.tail _ hp)))
    have lr1 : (as1.map (rankOf ru)).length = as1.length := List.length_map ..
    have lr2 : (as2.map (rankOf ru)).length = as2.length := List.length_map ..
    refine lb_rest (k := 0) S15 hh hd hu X' T' F14 N16 (all15 _ (List.Mem.head _)) dR' (all15 _ (List.Mem.tail _ (List.Mem.head _))) dO' p4 (IsList.ext tKR e15) (Q1.ext e15) (Q2.ext e15) (W1'.ext e15) (W2'.ext e15) ⟨_, e15 _ _ nd1'⟩ ⟨_, e15 _ _ nd2'⟩ lr1 lr2 z1 z2 (KC.ext S15.gv) crefl bags_ok ?_
    intro h16 tk16 frs16 m16 SU16 Fs16 F16 N17
    exact ret _ _ _ (ext_ofg hg I'.hl I'.fs I'.fr F16 N17 (SU10'.trans SU16) Split.nil I'.above) rfl

  case turn3 =>
    (rintro i ys news hi h9q; (with_reducible refine x2_7 h9q fun frs3 ex3 SU3 Fs3 r923 hyl3 hap3 in3 hys3 => ?_
                               try clear h9q
                               obtain rfl := r923); rintro v I2 oI2 C2 oC2 D9 m9 h9 tk9 E9 hP hC hx F9 N9 off ne)
    clear F1 N1
    (obtain q924 : ∃ lv row asv, v = .ref lv ∧ RecRow g lv row asv ∧ row.length < 60 ∧ (if i = 0 then rs1 else rs2) = row := by
      match i, hi, hP with
      | 0, _, hP => cases hP; exact (i3_4 l1 rs1 as1 rfl R1 (by rw [R1.len]; exact z1) rfl)
      | 1, _, hP => cases hP; exact (i3_4 l2 rs2 as2 rfl R2 (by rw [R2.len]; exact z2) rfl)
     with_reducible refine x3_4 q924 fun lv row asv r925 Rv zrow hrow => ?_
     clear q924
     obtain rfl := r925)
    k_steps
    unfold Stop
    refine LCg.ListComp_U (F₀ := F9) (by with_unfolding_all rfl) (by decide) (by rfl) (by decide) (by rfl) ?_
    k_steps
    unfold Stop
    have offm := off.mem
    have hrz : (row.map Value.ref).toArray.size = row.length := by simp
    refine Or.inl (i3_7 lv ((row.map Value.ref).toArray) _ rfl hh F9 N9 (Or.inl Rv.list) (by rw [hrz, sizeLine_eq]; omega) ?_)
    rintro s2 ⟨g4, rfl⟩
    refine comp_ind (fun j ks news => ∃ frs' ex, SameUp frs3 frs' ∧ Frs l frs' ∧ news = (I2, oI2) :: (C2, oC2) :: (D9, LCg.lst ys) :: (ex ++ frs') ∧ LCg.Off3 I2 C2 D9 (ex ++ frs') ∧ ks.length = j ∧ (∀ p ∈ ex, p.1 ∉ frs'.map (·.1)) ∧ (∀ p ∈ ex3, p ∈ ex) ∧
      ∀ (q : Nat) y, ks[q]? = some y → ∃ k r dd, y = .ref k ∧ row[q]? = some r ∧ (k, keyO0 C dd #[some (.ref r)]) ∈ ex) (i2_8 frs3 ex3 (SameUp.refl _) Fs3 rfl off rfl hap3 (fun p hp => hp) (fun j y e => by simp at e)) ?fin4 ?turn4
    case fin4 =>
      (rintro ks news h9q; (with_reducible refine x2_8 h9q fun frs4 ex4 SU4 Fs4 r926 off4 hkl hap4 in4 hks => ?_
                            try clear h9q
                            obtain rfl := r926))
      clear F9 N9
      unfold LCg.FinE
      intro DK h5 tk5 F5 N5 oK
      (obtain q87 := all_refs (P := fun q k => ∃ r dd, row[q]? = some r ∧ (k, keyO0 C dd #[some (.ref r)]) ∈ ex4) ks fun q y e => let ⟨k, r, dd, e1, e2, e3⟩ := hks q y e; (i1_2 k e1 (i2_2 r dd e2 e3))
       with_reducible refine x1_2 q87 fun kl r88 hkl2 => ?_
       clear q87
       obtain rfl := r88)
      have oK1 := off1_mem oK
      have nDK : ∀ a o, (a, o) ∈ (I2, oI2) :: (C2, oC2) :: (D9, LCg.lst ys) :: (ex4 ++ frs4) → @Ne Nat DK a := fun a o hm q => oK1 _ hm q.symm
      refine (i3_6 h5 _ (((DK, LCg.lst (kl.map Value.ref)) :: ex4) ++ frs4) rfl F5 (fun p hp => N5 p ?_) ⟨⟨nDK _ _ (List.Mem.head _), nDK _ _ (List.Mem.tail _ (List.Mem.head _)), nDK _ _ (List.Mem.tail _ (List.Mem.tail _ (List.Mem.head _)))⟩, off4⟩ (Or.inr (i1_3 _ (List.mem_append_left _ (List.Mem.tail _ (in4 _ (in3 _ t0)))) rfl ⟨_, rfl⟩)) (i2_7 frs4 _ (SU3.trans SU4) Fs4 rfl (by simp [hyl3]) (fun p hp => ?_) (fun p hp => List.Mem.tail _ (in4 _ (in3 p hp))) (fun j y hy => ?_)))
      · refine mc1 hp ?_ fun hp => ?_
        · exact List.Mem.tail _ (List.Mem.head _)
        · refine mc1 hp ?_ fun hp => ?_
          · exact List.Mem.tail _ (List.Mem.tail _ (List.Mem.head _))
          · refine mc1 hp ?_ fun hp => ?_
            · exact List.Mem.tail _ (List.Mem.tail _ (List.Mem.tail _ (List.Mem.head _)))
            · refine mc1 hp ?_ fun hp => ?_
              · exact List.Mem.head _
              · exact List.Mem.tail _ (List.Mem.tail _ (List.Mem.tail _ (List.Mem.tail _ hp)))
      · refine mc1 hp ?_ fun hp => ?_
        · intro q
          (obtain q89 := List.mem_map.mp q
           with_reducible refine x1_2 q89 fun x hx e => ?_
           clear q89)
          exact oK1 x (List.Mem.tail _ (List.Mem.tail _ (List.Mem.tail _ (List.mem_append_right _ hx)))) e
        · exact hap4 p hp
      · by_cases hq : j < ys.length
        · rw [List.getElem?_append_left hq] at hy
          (obtain q927 := hys3 j y hy
           with_reducible refine x2_4 q927 fun K ks e1 e2 e3 e4 => ?_
           clear q927)
          exact (i2_4 K ks e1 (List.Mem.tail _ (in4 _ e2)) e3 (fun q k r h1 h2 => let ⟨dd, h3⟩ := e4 q k r h1 h2; ⟨dd, List.Mem.tail _ (in4 _ h3)⟩))
        · rw [List.getElem?_append_right (by omega)] at hy
          cases hz : j - ys.length with
          | zero =>
            rw [hz] at hy
            cases hy
            obtain rfl : j = i := by omega
            refine (i2_4 DK kl rfl (List.Mem.head _) ?_ (fun q k r h1 h2 => ?_))
            · rw [hrow]; simpa using hkl
            · rw [hrow] at h2
              (obtain q928 := hkl2 q k h1
               with_reducible refine x2_2 q928 fun r' dd h3 h4 => ?_
               clear q928)
              rw [h2] at h3
              cases h3
              exact ⟨dd, List.Mem.tail _ h4⟩
          | succ n => rw [hz] at hy; simp at hy
    case turn4 =>
      (rintro j ks news hj h9q; (with_reducible refine x2_8 h9q fun frs4 ex4 SU4 Fs4 r929 off4 hkl hap4 in4 hks => ?_
                                 try clear h9q
                                 obtain rfl := r929); rintro v I3 oI3 C3 oC3 D3 m3 h5 tk5 E5 hP3 hC3 hx3 F5 N5 off5 ne5)
      clear F9 N9
      (obtain q810 : ∃ r, v = .ref r ∧ row[j]? = some r := by
        simp only [List.getElem?_toArray, List.getElem?_map, Option.map_eq_some_iff] at hP3
        obtain ⟨r, h1, h2⟩ := hP3
        exact ⟨r, h2.symm, h1⟩
       with_reducible refine x1_2 q810 fun r r811 hr => ?_
       clear q810
       obtain rfl := r811)
      have mK := in4 _ (in3 _ t1)
      k_steps
      unfold Stop
      have o4 := off4.mem
      have nfr : ∀ a, (∀ p ∈ ex4 ++ frs4, p.1 ≠ a) → a ∉ frs4.map (·.1) := fun a ha q => by
        (obtain q812 := List.mem_map.mp q
         with_reducible refine x1_2 q812 fun p hp e => ?_
         clear q812)
        exact ha p (List.mem_append_right _ hp) e
      have hapx : ∀ p ∈ (I2, oI2) :: (C2, oC2) :: (D9, LCg.lst ys) :: ex4, p.1 ∉ frs4.map (·.1) := fun p hp => by
        refine mc1 hp ?_ fun hp => ?_
        · exact nfr _ fun p hp => (o4 p hp).1
        · refine mc1 hp ?_ fun hp => ?_
          · exact nfr _ fun p hp => (o4 p hp).2.1
          · refine mc1 hp ?_ fun hp => ?_
            · exact nfr _ fun p hp => (o4 p hp).2.2
            · exact hap4 p hp
      have hH : ∀ env : Env, env.frame = some L' → env.scope.kind = .function → Here w (A.deeper env) [] h5 := fun env hf hk => (here_comp (ex := (I2, oI2) :: (C2, oC2) :: (D9, LCg.lst ys) :: ex4) hl Fs4 F5 N5 X' T' hf hk).1
      have hV : ∀ env : Env, env.frame = some L' → g.StaysIn (view (A.deeper env) [] h5) := fun env hf => in_view F5 N5 (Split.cons (Split.cons (Split.cons (Split.cons (Split.cons (Split.cons Split.append)))))) Fs4 hl hf
      refine KS.make (A.deeper _) ⟨h5, _, _, _, _⟩ r (hV _ rfl) (hH _ rfl rfl) (by show A.depth + 1 + 30 < _; omega) (by show A.units + 3 + 600 < _; omega) _ _ ?_
      (rintro y h6 tk6 X6 h9q; (with_reducible refine x1_3 h9q fun kk r930 q931 nk6 => ?_
                                try clear h9q
                                obtain rfl := r930
                                obtain ⟨dd, ek6⟩ := q931))
      (obtain q932 := back_comp (ex := (I2, oI2) :: (C2, oC2) :: (D9, LCg.lst ys) :: ex4) hl Fs4 F5 N5 off5 hapx X6
       refine x1_6 q932 fun frs5 SU5 Fs5 F6 N6' off6 hap6 => ?_
       clear q932)
      have nkL : kk ≠ L' := fun q => by
        (obtain q933 := F5.ns
         refine x3_2 q933 fun oL es ep ho _ => ?_
         clear q933)
        rw [q] at nk6
        rw [show h5.get? L' = some oL from ho] at nk6
        cases nk6
      (obtain q813 := join_comp (ex := (I2, oI2) :: (C2, oC2) :: (D9, LCg.lst ys) :: ex4) F5 N5 SU5 N6' off6 hap6 nk6 nkL (view_get ek6).2
       with_reducible refine x0_3 q813 fun N7 off7 hap7 => ?_
       clear q813)
      have nk3 : ∀ a o, (a, o) ∈ (I2, oI2) :: (C2, oC2) :: (D9, LCg.lst ys) :: ex4 → @Ne Nat kk a := fun a o hm q => by
        have z := (N5 (a, o) (List.Mem.tail _ (List.Mem.tail _ (List.Mem.tail _ (List.mem_append_left _ hm))))).1
        rw [show kk = a from q, z] at nk6
        cases nk6
      have off8 : LCg.Off3 I2 C2 D9 (((kk, keyO0 C dd #[some (.ref r)]) :: ex4) ++ frs5) := ⟨⟨nk3 _ _ (List.Mem.head _), nk3 _ _ (List.Mem.tail _ (List.Mem.head _)), nk3 _ _ (List.Mem.tail _ (List.Mem.tail _ (List.Mem.head _)))⟩, LCg.Off3.of fun p hp => by
        rcases List.mem_append.mp hp with hp | hp
        · exact o4 p (List.mem_append_left _ hp)
        · (obtain q814 := SU5.fwd p hp
           with_reducible refine x1_2 q814 fun x hx e => ?_
           clear q814)
          rw [e]
          exact o4 x (List.mem_append_right _ hx)⟩
      refine (i3_6 h6 _ ((I2, oI2) :: (C2, oC2) :: (D9, LCg.lst ys) :: (((kk, keyO0 C dd #[some (.ref r)]) :: ex4) ++ frs5)) rfl F6 (fun p hp => N7 p ?_) ⟨off7.2.1, off7.2.2.1, off7.2.2.2.1, off7.1, off7.2.2.2.2⟩ (Or.inl Rv.list) (i2_8 frs5 _ (SU4.trans SU5) Fs5 rfl off8 (by simp [hkl]) (fun p hp => ?_) (fun p hp => List.Mem.tail _ (in4 p hp)) (fun q y hy => ?_)))
      · refine mc1 hp ?_ fun hp => ?_
        · exact List.Mem.head _
        · refine mc1 hp ?_ fun hp => ?_
          · exact List.Mem.tail _ (List.Mem.head _)
          · refine mc1 hp ?_ fun hp => ?_
            · exact List.Mem.tail _ (List.Mem.tail _ (List.Mem.head _))
            · refine mc1 hp ?_ fun hp => ?_
              · exact List.Mem.tail _ (List.Mem.tail _ (List.Mem.tail _ (List.Mem.tail _ (List.Mem.head _))))
              · refine mc1 hp ?_ fun hp => ?_
                · exact List.Mem.tail _ (List.Mem.tail _ (List.Mem.tail _ (List.Mem.tail _ (List.Mem.tail _ (List.Mem.head _)))))
                · refine mc1 hp ?_ fun hp => ?_
                  · exact List.Mem.tail _ (List.Mem.tail _ (List.Mem.tail _ (List.Mem.tail _ (List.Mem.tail _ (List.Mem.tail _ (List.Mem.head _))))))
                  · refine mc1 hp ?_ fun hp => ?_
                    · exact List.Mem.tail _ (List.Mem.tail _ (List.Mem.tail _ (List.Mem.head _)))
                    · exact List.Mem.tail _ (List.Mem.tail _ (List.Mem.tail _ (List.Mem.tail _ (List.Mem.tail _ (List.Mem.tail _ (List.Mem.tail _ hp))))))
      · refine mc1 hp ?_ fun hp => ?_
        · exact hap7 _ (List.Mem.head _)
        · exact hap7 p (List.Mem.tail _ (List.Mem.tail _ (List.Mem.tail _ (List.Mem.tail _ hp))))
      · by_cases hq : q < ks.length
        · rw [List.getElem?_append_left hq] at hy
          (obtain q934 := hks q y hy
           with_reducible refine x3_3 q934 fun k r' dd' e1 e2 e3 => ?_
           clear q934)
          exact (i3_3 k r' dd' e1 e2 (List.Mem.tail _ e3))
        · rw [List.getElem?_append_right (by omega)] at hy
          cases hz : q - ks.length with
          | zero =>
            rw [hz] at hy
            cases hy
            obtain rfl : q = j := by omega
            exact (i3_3 kk r dd rfl hr (List.Mem.head _))
          | succ n => rw [hz] at hy; simp at hy
end Mine
end PartM2

section PartN2
open PySem PySem.W PyProof.Rows PySem.Calls
set_option Elab.async false
set_option maxRecDepth 100000
set_option maxHeartbeats 4000000
set_option linter.unusedVariables false
set_option rowWalk.seconds 0
namespace Mine
open TI (Frs SameUp)
noncomputable def OffT (v v' : Heap) : Prop := ∀ b o, v.get? b = some o → o ≠ tabObj #[] → v'.get? b = some o
theorem OffT.of {A : Around} {cs : List Addr} {h : Heap} (hc : ∀ b ∈ cs, h.get? b = some (tabObj #[])) : OffT (view A [] h) (view A cs h) := fun b o e n => view_cells e fun q => by
  have z := hc b q
  rw [(view_get e).2] at z
  cases z
  exact n rfl
theorem ne_tab_cls {o : Obj} (h : o.cls ≠ Value.none) : o ≠ tabObj #[] := fun q => by subst q; exact h rfl
theorem IsList.offT {v v' : Heap} {a : Addr} {xs : Array Value} (x : v.IsList a xs) (e : OffT v v') : v'.IsList a xs := by
  (refine x1_3 x fun o ho c r => ?_
   try clear x)
  exact (i1_3 o (e a o ho (ne_tab_cls (by rw [c]; exact fun q => by cases q))) c r)
theorem IsTup.offT {v v' : Heap} {a : Addr} {xs : Array Value} (x : IsTup v a xs) (e : OffT v v') : IsTup v' a xs := by
  (refine x1_3 x fun o ho c r => ?_
   try clear x)
  exact (i1_3 o (e a o ho (ne_tab_cls (by rw [c]; exact fun q => by cases q))) c r)
theorem PairRow.offT {v v' : Heap} {a : Addr} {rs : List (Int × Int)} (x : PairRow v a rs) (e : OffT v v') : PairRow v' a rs :=
  let ⟨ts, l, n, p⟩ := x; (i1_3 ts (IsList.offT l e) n (fun i t r h1 h2 => let ⟨u1, u2, q⟩ := p i t r h1 h2; ⟨u1, u2, IsTup.offT q e⟩))
theorem RecRow.offT {v v' : Heap} {l : Addr} {rs : List Addr} {as : List Rec} (x : RecRow v l rs as) (e : OffT v v') : RecRow v' l rs as :=
  ⟨IsList.offT x.list e, x.len, fun i r a h1 h2 => let ⟨t0, t1, t2, q⟩ := x.at_ i r a h1 h2; ⟨t0, t1, t2, IsList.offT q e⟩⟩
theorem MethAt.offT {v v' : Heap} {st : Stmt} {qual : Str} {clos : List (Str × Addr)} {f : Addr} (x : MethAt (fun a o => v.get? a = some o) st qual clos f) (e : OffT v v') : MethAt (fun a o => v'.get? a = some o) st qual clos f := by
  (refine x6_4 x fun pm q oc vs tc ctv a b d z => ?_
   try clear x)
  refine (i6_4 pm q oc vs tc ctv (e _ _ a (fun q => ?_)) (e _ _ b (fun q => ?_)) d z)
  · have := congrArg Obj.data q
    unfold defO at this; split at this <;> cases this
  · subst q
    have hd' : Data.fields #[] = Data.fields vs := d
    injection hd' with hd'
    subst hd'
    cases z
theorem KeyFacts.offT {v v' : Heap} {C f N md bt cell sl fi fl fg fe fle fge st : Addr} {hs : Nat → Int} {ts : Nat → Tok} {hi hj : Int} {ti tj tm t0 : Tok} (F : KeyFacts v C f N md bt cell sl fi fl fg fe fle fge st hs ts hi hj ti tj tm t0) (e : OffT v v') : KeyFacts v' C f N md bt cell sl fi fl fg fe fle fge st hs ts hi hj ti tj tm t0 :=
  ⟨e _ _ F.n (ne_tab_cls (fun q => by cases q)), e _ _ F.c (ne_tab_cls (fun q => by cases q)), e _ _ F.m (ne_tab_cls (fun q => by cases q)), (let ⟨o, a, b⟩ := F.cl; ⟨o, e _ _ a (fun q => by subst q; cases b), b⟩), ⟨F.meths.i.offT e, F.meths.l.offT e, F.meths.g.offT e, F.meths.e.offT e⟩⟩
end Mine
end PartN2

section MacF
open PySem PySem.W PyProof.Rows PySem.Calls in
local macro_rules | `(tactic| walk_at "eval Name") => `(tactic| (k_here; (with_reducible show wpAny _ _ (eval (Expr.Name _ _) (envOf _ _ _ _ _)) _ _ _); k_dflt (refine' nameX_L ?F ?v ?_ ?a ?b ?c; (case a => rfl); (case b => rfl); (case c => decide); (case F => k_asm); (case v => kd_p); k_whole)))
open PySem PySem.W PyProof.Rows PySem.Calls in
local macro_rules | `(tactic| walk_at "truthy ref") => `(tactic| isplit)
open PySem PySem.W PyProof.Rows PySem.Calls in
local macro_rules | `(tactic| walk_at "subscriptTail BoolOp Slice ref ref") => `(tactic| isplit)
open PySem PySem.W PyProof.Rows PySem.Calls in
local macro_rules | `(tactic| walk_at "subscriptTail Name Slice ref ref") => `(tactic| isplit)
section PartN4
open PySem PySem.W PyProof.Rows PySem.Calls
set_option Elab.async false
set_option maxRecDepth 100000
set_option maxHeartbeats 4000000
set_option linter.unusedVariables false
set_option rowWalk.seconds 0
namespace Mine
theorem start_N4 {M : Model} {A : Around} {env : Env} {E : Value → Shared → Prop} {s : Shared} {Q : Flow → Shared → Prop} (h : Q .next s) : wpAny M A (execs [] env) Q E s := by
  w_top off
  walk1
  exact h
open TI (Frs SameUp)
open SeqAt
local macro_rules | `(tactic| walk_at "subscriptTail List BinOp ref int") => `(tactic| isplit)
local macro_rules | `(tactic| walk_at "subscriptTail List Slice ref ref") => `(tactic| isplit)
local macro_rules | `(tactic| walk_at "binaryOp Add ref ref") => `(tactic| isplit)
noncomputable def lawScope : Scope := match theDef "law" with | .FunctionDef _ _ _ _ _ _ sc .. => sc | _ => default
noncomputable def lawBody : List Stmt := match theDef "law" with | .FunctionDef _ _ b .. => b | _ => []
noncomputable def lawDft : List Int := [11, 5, 14, 3, 22, 5, 9, 26, 12, 2, 0]
noncomputable def lawNums (ns : List Int) : List Int := (if ns = [] then lawDft else ns).take 11
noncomputable def RecOk (a : Rec) : Prop := (a.1 = 0 ∨ a.1 = 1 ∨ a.1 = 2) ∧ (a.2.1 = 0 ∨ a.2.1 = 1 ∨ a.2.1 = 2)
noncomputable def PlainOk (c : Rec → Rec → Int) (ru : List (Int × Int)) : Prop := (∀ a, c a a = 0) ∧ ∀ xs ys : List Rec, (∀ a ∈ xs, RecOk a) → (∀ a ∈ ys, RecOk a) → ∃ κ, Alike c ru xs κ ∧ Alike c ru ys κ ∧ ToldOk c (sAs κ xs) (sAs κ ys) ((sAs κ xs).map (rankOf ru)) ((sAs κ ys).map (rankOf ru)) ∧ BagsOk c xs ys (xs.map (rankOf ru)) (ys.map (rankOf ru))
theorem frs_nil : ∀ {frs : List (Addr × Obj)}, Frs [] frs → frs = []
  | [], _ => rfl
  | _ :: _, h => h.elim
theorem Scn.seenB {A : Around} {l : List Env} {frs things new : List (Addr × Obj)} {g V h : Heap} {L : Addr} {m : Str → Option Value} {env : Env} {hid : List Addr} (S : Scn A l frs things g V L) (F : Fr g L h m) (N : News g L h (new ++ frs)) (hm : ∀ p ∈ things, p ∈ new) (hf : env.frame = some L) (hg : ∀ b ∈ hid, g.get? b = none) (ho : ∀ p ∈ things, p.1 ∉ hid) : V.StaysIn (view (A.deeper env) hid h) :=
  S.cl _ (in_viewB F N Split.append S.Fs S.hl hf hg) fun p hp => by
    have z := N p (List.mem_append_left _ (hm p hp))
    refine view_of ?_ z.1
    rw [fsA_deeper S.hl hf, show fsA A = frs.map (·.1) by unfold fsA; rw [S.hl]; exact S.Fs.addrs]
    intro q
    rcases List.mem_append.mp q with q | q
    · exact ho p hp q
    · rcases List.mem_cons.mp q with q | q
      · exact z.2.1 q
      · exact S.hap p hp q
theorem recs_ok {q : Int} {ns : List Int} {i : Nat} : ∀ a ∈ recsOf q ns i, RecOk a := by
  intro a ha
  (obtain q81 := List.mem_map.mp ha
   with_reducible refine x1_2 q81 fun p _ r82 => ?_
   clear q81
   obtain rfl := r82)
  have h0 := Int.fmod_nonneg_of_pos (ns.getD p 0) (show (0 : Int) < 27 by decide)
  have h1 := Int.fmod_lt_of_pos (ns.getD p 0) (show (0 : Int) < 27 by decide)
  have h2 := Int.fmod_nonneg_of_pos (Int.fdiv (num27 ns p) 3) (show (0 : Int) < 3 by decide)
  have h3 := Int.fmod_lt_of_pos (Int.fdiv (num27 ns p) 3) (show (0 : Int) < 3 by decide)
  have e : Int.fdiv (num27 ns p) 9 = num27 ns p / 9 := Int.fdiv_eq_ediv_of_nonneg _ (by decide)
  have h4 : 0 ≤ num27 ns p := h0
  have h5 : num27 ns p < 27 := h1
  refine ⟨?_, ?_⟩
  · have e1 : (recAt ns p).1 = Int.fmod (Int.fdiv (num27 ns p) 3) 3 := rfl
    omega
  · have e1 : (recAt ns p).2.1 = Int.fdiv (num27 ns p) 9 := rfl
    omega
theorem recs_len {q : Int} {ns : List Int} {i : Nat} : (recsOf q ns i).length ≤ i := by
  unfold recsOf
  rw [List.length_map]
  exact Nat.le_trans (List.length_filter_le _ _) (by simp)
theorem law_end {w : World} {A : Around} {s : Shared} {g V : Heap} {things : List (Addr × Obj)} {L Dn rl C a : Addr} {cd : Value} {m : Str → Option Value} {oN : Obj} {kN : Nat} {vs : List Value} {ns : List Int} {ru : List (Int × Int)} {c : Rec → Rec → Int} {p : Program} {loose : List Str} {mean : ExcName → Option Value} {mg mb : Str → Option Value} {Q : Flow → Shared → Prop} {E : Value → Shared → Prop}
    (hl : A.frames = some []) (hh : A.handled = none) (hd : A.depth + 200 < recursionLimit) (hu : A.units + 2000 < cLine) (X' : (Mine.hd.heap_1 w.params).In g) (T' : Top p loose mean mg mb g)
    (S : Scn A [] [] things g V L) (F : Fr g L s.heap m) (N : News g L s.heap (((103, tabObj #[]) :: things) ++ [])) (off : ∀ p ∈ things, p.1 ≠ 103) (hV : V.get? 103 = none)
    (hm1 : m (Str.ofString "numbers") = some (.ref Dn)) (hm2 : m (Str.ofString "rules") = some (.ref rl)) (hm3 : m (Str.ofString "key") = some (.ref C)) (hN : V.get? Dn = some oN) (cN : oN.cls = .type "list") (dN : oN.data = .seq vs.toArray kN) (hI : IntsAre vs ns) (hn1 : 1 ≤ ns.length) (hn2 : ns.length ≤ 11)
    (P : PairRow V rl ru) (hr2 : ru.length ≤ 2) (hru : ∀ r ∈ ru, r.1 = 0 ∨ r.1 = 1) (KC : KeyCls w V C c) (KS : KeySrt w V C c) (ok : PlainOk c ru)
    (ret : ∀ h tk, V.StaysIn h → GrownAt 103 h → Q (.ret (.bool true)) { s with heap := h, toks := tk }) :
    wpAny (model Challenge.rw_mg0030_01.row.prog w) (A.deeper (envOf (Str.ofString "law") lawScope L a cd)) (execs (lawBody.drop 3) (envOf (Str.ofString "law") lawScope L a cd)) Q E s := by
  generalize hb : lawBody.drop 3 = body
  generalize hs : lawScope = scope
  conv at hb => lhs; whnf
  conv at hs => lhs; whnf
  subst hb hs
  revert X'
  k_fill
  intro X'
  (obtain q83 : ∃ n0 t, vs[0]? = some (.int n0 t) := by
    cases hI with
    | nil => exact absurd hn1 (by decide)
    | cons n t _ => exact ⟨n, t, rfl⟩
   with_reducible refine x2_1 q83 fun n0 tn0 hv0 => ?_
   clear q83)
  have sub0 : ∀ p ∈ things, p ∈ ((103, tabObj #[]) :: things) ++ [] := fun p hp => List.Mem.tail _ (List.mem_append_left _ hp)
  (try dsimp only)
  k_steps
  unfold Stop
  rename Fr _ _ _ _ => F1
  rename News _ _ _ _ => N1
  have sub1 : ∀ p ∈ things, ∀ a b : Addr × Obj, p ∈ a :: b :: (things ++ []) := fun p hp a b => List.Mem.tail _ (List.Mem.tail _ (List.mem_append_left _ hp))
  have hD1 := S.heap F1 N1 (fun p hp => sub1 p hp _ _) _ _ hN
  refine item_in (v := .int n0 tn0) (i1_3 _ hD1 cN ⟨_, dN⟩) (by decide) (by decide) (by simpa using hv0) ?_
  clear hD1
  (try dsimp only)
  k_steps
  unfold Stop
  rename Fr _ _ _ _ => F2
  rename News _ _ _ _ => N2
  (obtain q91 : ∃ m2, Fr g L _ m2 ∧ m2 (Str.ofString "numbers") = some (.ref Dn) ∧ m2 (Str.ofString "rules") = some (.ref rl) ∧ m2 (Str.ofString "key") = some (.ref C) ∧ ∃ mk t, m2 (Str.ofString "many") = some (.int mk t) := ⟨_, F2, by kd_p, by kd_p, by kd_p, i2_1 _ _ (by kd_p)⟩
   with_reducible refine x1_5 q91 fun m2 F2' r1 r2 r3 r4 => ?_
   clear q91)
  (have q84 := r4
   clear r4
   with_reducible refine x2_1 q84 fun mk tmk r4 => ?_
   clear q84)
  rename_i h2 _
  have N2' : News g L _ (((103, tabObj #[]) :: things) ++ []) := fun p hp => N2 p (List.Mem.tail _ hp)
  clear F2 N2
  refine slice_list (s := ⟨_, _, _, _, _⟩) F2' N2' (i1_3 _ (S.heap F2' N2' sub0 _ _ hN) cN ⟨_, dN⟩) (.int _ _) .none ?_ (hsz := by rw [List.size_toArray, hI.length, sizeLine_eq]; omega)
  intro h3 F3 N3
  (try dsimp only)
  k_steps
  unfold Stop
  rename Fr _ _ _ _ => F4
  rename News _ _ _ _ => N4
  refine slice_list (s := ⟨_, _, _, _, _⟩) F4 N4 (i1_3 _ (N4.get (List.Mem.head _)) rfl ⟨_, rfl⟩) .none (.int _ _) ?_ (hsz := by rw [sizeLine_eq]; exact Nat.le_of_ble_eq_true rfl)
  intro h5 F5 N5
  (try dsimp only)
  k_steps
  unfold Stop
  have I1 : IntsAre (kms_pick vs (some 1) none) ((ns.drop (kms_lo (some 1) vs.length)).take (kms_hi none vs.length - kms_lo (some 1) vs.length)) := (hI.drop _).take _
  refine add_lists_ints F5 N5 (i1_3 _ (N5.get (List.Mem.tail _ (List.Mem.tail _ (List.Mem.head _)))) rfl ⟨0, by rw [kms_pick_eq]⟩) (i1_3 _ (N5.get (List.Mem.head _)) rfl ⟨0, by rw [kms_pick_eq]; rfl⟩) I1 (((IntsAre.cons 3 _ (IntsAre.cons 3 _ (IntsAre.cons 13 _ (IntsAre.cons 20 _ (IntsAre.cons 7 _ .nil))))).drop _).take _) ?_ (hsz := by
    rw [sizeLine_eq, List.length_take, List.length_take]
    have := List.length_drop (i := kms_lo (some 1) vs.length) (l := ns)
    have z2 : ∀ k (l : List Int), l.length = 5 → (l.drop k).length ≤ 5 := fun k l h => by rw [List.length_drop]; omega
    have := z2 (kms_lo none 5) [3, 3, 13, 20, 7] rfl
    have e1 := Nat.min_le_right (kms_hi none vs.length - kms_lo (some 1) vs.length) (ns.drop (kms_lo (some 1) vs.length)).length
    refine Nat.le_trans (Nat.add_le_add e1 (Nat.min_le_right _ _)) ?_
    refine Nat.le_trans (Nat.add_le_add (show _ ≤ 11 by omega) (z2 _ [3, 3, 13, 20, 7] rfl)) (by omega))
  intro h6 F6 N6 I6
  (try dsimp only)
  k_steps
  unfold Stop
  have zN := I6.length
  have zL : ((ns.drop (kms_lo (some 1) vs.length)).take (kms_hi none vs.length - kms_lo (some 1) vs.length)).length ≤ 11 := by
    rw [List.length_take, List.length_drop]; exact Nat.le_trans (Nat.min_le_right _ _) (by omega)
  generalize (ns.drop (kms_lo (some 1) vs.length)).take (kms_hi none vs.length - kms_lo (some 1) vs.length) = ns1 at *
  (obtain q85 : ∃ ns2, IntsAre _ (ns1 ++ ns2) ∧ ns2.length ≤ 5 := ⟨_, I6, by rw [List.length_take, List.length_drop]; exact Nat.le_trans (Nat.min_le_right _ _) (by simp)⟩
   with_reducible refine x1_2 q85 fun ns2 hns2 z2 => ?_
   clear q85)
  have zz : (ns1 ++ ns2).length ≤ 16 := by rw [List.length_append]; omega
  generalize ns1 ++ ns2 = nums at *
  clear zL z2 I6
  have N7 : News g L h6 (((103, tabObj #[]) :: (h5.objs.size, _) :: things) ++ []) := fun p hp => by
    refine mc1 hp ?_ fun hp => ?_
    · exact N6 _ (List.Mem.tail _ (List.Mem.tail _ (List.Mem.tail _ (List.Mem.tail _ (List.Mem.head _)))))
    · refine mc1 hp ?_ fun hp => ?_
      · exact N6 _ (List.Mem.head _)
      · exact N6 _ (List.Mem.tail _ (List.Mem.tail _ (List.Mem.tail _ (List.Mem.tail _ (List.Mem.tail _ hp)))))
  obtain ⟨env0, henv0⟩ : ∃ env0, env0 = envOf (Str.ofString "law") lawScope L a cd := ⟨_, rfl⟩
  have hf0 : env0.frame = some L := by rw [henv0]; rfl
  have hk0 : env0.scope.kind = .function := by rw [henv0]; rfl
  have g103 : ∀ b ∈ [103], g.get? b = none := fun b hb => by rw [List.mem_singleton.mp hb]; exact (N7 _ (List.Mem.head _)).2.2
  have hVV : ∀ b ∈ [103], V.get? b = none := fun b hb => by rw [List.mem_singleton.mp hb]; exact hV
  have H7 := S.here (env := env0) F6 N7 X' T' hf0 hk0
  have L7 : (view (A.deeper env0) [] h6).IsList h5.objs.size _ := (i1_3 _ (new_view S N7 (List.Mem.tail _ (List.Mem.head _)) (fun q => nomatch q) hf0) rfl ⟨_, rfl⟩)
  have d7 : (A.deeper env0).depth + 30 < recursionLimit := by show A.depth + 1 + 30 < _; omega
  have u7 : (A.deeper env0).units + 200 < cLine := by show A.units + 3 + 200 < _; omega
  have CU := fun gens drawn toks os => c_records (s := ⟨h6, gens, drawn, toks, os⟩) H7 hh d7 u7 L7 hns2 (by omega)
  rw [henv0] at CU
  refine CU _ _ _ _ _ _ ?_
  (rintro y h8 tk8 X8 h9q; (with_reducible refine x5_1 h9q fun t fa fb rs1 rs2 q9z => x0_4 q9z fun r92 T8 R1 R2 => ?_
                            clear q9z
                            try clear h9q
                            obtain rfl := r92))
  rw [← henv0] at X8 T8 R1 R2
  clear CU H7 L7
  (obtain q93 := S.backC [103] g103 F6 N7 (fun p hp => List.Mem.tail _ (List.Mem.tail _ hp)) (fun p hp q => nomatch q) hf0 hVV X8
   with_reducible refine x2_8 q93 fun frs8 things8 SU8 S8 F8 N8 off8 all8 st8 hV8 => ?_
   clear q93)
  obtain rfl : frs8 = [] := frs_nil S8.Fs
  have t8 : ∀ b ∈ [103], h8.get? b = some (tabObj #[]) := fun b hb => by rw [List.mem_singleton.mp hb]; exact (N8 _ (List.Mem.head _)).1
  have T8' := IsTup.offT T8 (OffT.of t8)
  have R1' := R1.offT (OffT.of t8)
  have R2' := R2.offT (OffT.of t8)
  have N9 : News g L h8 (((103, tabObj #[]) :: things8) ++ []) := fun p hp => by
    refine mc1 hp ?_ fun hp => ?_
    · exact N8 _ (List.Mem.head _)
    · exact N8 _ (List.mem_append_right _ hp)
  generalize view (A.deeper env0) [103] h8 = V8 at S8 st8 hV8 T8' R1' R2'
  clear N8 all8 T8 R1 R2 X8 t8 N7 N6 F6 hns2
  refine unpackN_ F8 N9 (T8'.keeps (S8.heap F8 N9 fun p hp => List.Mem.tail _ (List.mem_append_left _ hp))) hh rfl rfl ?_
  intro h9 F9 N9'
  clear F8 N9
  (try dsimp only)
  k_steps
  unfold Stop
  rename Fr _ _ _ _ => F10
  rename News _ _ _ _ => N10
  have g103' : ∀ b ∈ [103], g.get? b = none ∧ b ≠ L := fun b hb => by rw [List.mem_singleton.mp hb]; exact ⟨(N10 _ (List.Mem.head _)).2.2, (N10 _ (List.Mem.head _)).2.1⟩
  obtain ⟨crefl, ok⟩ := ok
  (obtain q94 := ok _ _ (recs_ok (q := 1) (ns := nums) (i := nums.length)) (recs_ok (q := 0) (ns := nums) (i := nums.length))
   with_reducible refine x1_4 q94 fun κ al1 al2 told_ok bags_ok => ?_
   clear q94)
  have w1 : (recsOf 1 nums nums.length).length < 60 := Nat.lt_of_le_of_lt recs_len (by omega)
  have w2 : (recsOf 0 nums nums.length).length < 60 := Nat.lt_of_le_of_lt recs_len (by omega)
  generalize recsOf 1 nums nums.length = as1 at *
  generalize recsOf 0 nums nums.length = as2 at *
  have hm8 : ∀ p ∈ things8, p ∈ (103, tabObj #[]) :: things8 := fun p hp => List.Mem.tail _ hp
  have e10 := S8.seenB (env := env0) F10 N10 hm8 hf0 g103 off8
  have H10 : Here w (A.deeper env0) [103] _ := here_ofB (env := env0) S8.hl S8.Fs F10 N10 Split.append X' T' g103 hf0 hk0
  have d10 : (A.deeper env0).depth + 80 < recursionLimit := by show A.depth + 1 + 80 < _; omega
  have u10 : (A.deeper env0).units + 1000 < cLine := by show A.units + 3 + 1000 < _; omega
  have t10 := (N10 _ (List.Mem.head _)).1
  have CS := fun gens drawn toks os => c_lsorted (s := ⟨_, gens, drawn, toks, os⟩) H10 t10 hh d10 u10 (R1'.ext e10) (R2'.ext e10) w1 w2 (P.ext (StaysIn.trans st8 e10)) hr2 hru (KS.ext (StaysIn.trans st8 e10)) (KC.ext (StaysIn.trans st8 e10)) al1 al2 told_ok
  rw [henv0] at CS
  refine CS _ _ _ _ _ _ ?_
  rintro y h11 tk11 X11 ⟨rfl, G11⟩
  rw [← henv0] at X11
  clear CS H10 e10 t10
  have N10b : News g L _ (things8 ++ []) := fun p hp => N10 p (List.Mem.tail _ hp)
  (obtain q95 := backB (hid := [103]) (new := things8) hl (by trivial : Frs [] []) F10 N10b hf0 (fun p hp q => by
    simp only [List.map_nil, List.append_nil] at q
    exact off8 p hp q) g103' X11
   with_reducible refine x1_4 q95 fun frs11 SU11 Fs11 F11 N11 => ?_
   clear q95)
  obtain rfl : frs11 = [] := frs_nil Fs11
  obtain ⟨ps11, G11⟩ := G11
  have N11' : News g L h11 (((103, tabObj ps11) :: things8) ++ []) := fun p hp => by
    refine mc1 hp ?_ fun hp => ?_
    · exact ⟨G11, (g103' 103 (List.Mem.head _)).2, (g103' 103 (List.Mem.head _)).1⟩
    · exact N11 p hp
  clear N11
  (try dsimp only)
  k_steps
  unfold Stop
  rename Fr _ _ _ _ => F12
  rename News _ _ _ _ => N12
  have e12 := S8.seen (env := env0) F12 N12 (fun p hp => List.Mem.tail _ hp) hf0
  have H12 := S8.here (env := env0) F12 N12 X' T' hf0 hk0
  have CB := fun gens drawn toks os => c_bags (s := ⟨_, gens, drawn, toks, os⟩) H12 hh d10 u10 (R1'.ext e12) (R2'.ext e12) w1 w2 (P.ext (StaysIn.trans st8 e12)) hr2 hru (KS.ext (StaysIn.trans st8 e12)) (KC.ext (StaysIn.trans st8 e12)) crefl bags_ok
  rw [henv0] at CB
  refine CB _ _ _ _ _ _ ?_
  rintro y h13 tk13 X13 rfl
  rw [← henv0] at X13
  have g13 : V.StaysIn h13 := StaysIn.trans st8 (StaysIn.trans e12 (StaysIn.trans X13.keep view_le))
  have G13 : GrownAt 103 h13 := ⟨ps11, view_le _ _ (X13.keep _ _ (new_view S8 N12 (List.Mem.head _) (fun q => nomatch q) hf0))⟩
  (try dsimp only)
  k_steps
  exact ret _ _ g13 G13
end Mine
end PartN4

section PartN3
open PySem PySem.W PyProof.Rows PySem.Calls
set_option Elab.async false
set_option maxRecDepth 100000
set_option maxHeartbeats 4000000
set_option linter.unusedVariables false
set_option rowWalk.seconds 0
namespace Mine
theorem start_N3 {M : Model} {A : Around} {env : Env} {E : Value → Shared → Prop} {s : Shared} {Q : Flow → Shared → Prop} (h : Q .next s) : wpAny M A (execs [] env) Q E s := by
  w_top off
  walk1
  exact h
open TI (Frs SameUp)
open SeqAt
local macro_rules | `(tactic| walk_at "execs cons") => `(tactic| ((with_reducible show wpAny _ _ (execs (Stmt.Assign [_] (PySem.Expr.Subscript (PySem.Expr.List _ _) _ _) _ :: _) _) _ _ _); isplit))
theorem tabs_at {g h : Heap} {L : Addr} {more : List (Addr × Obj)} (N : News g L h ((103, tabObj #[]) :: (67, tabObj #[]) :: (60, tabObj #[]) :: (37, tabObj #[]) :: more)) : ∀ b ∈ [103, 67, 60, 37], h.get? b = some (tabObj #[]) := fun b hb => by
  simp only [List.mem_cons, List.not_mem_nil, or_false] at hb
  rcases hb with rfl | rfl | rfl | rfl
  · exact (N _ (List.Mem.head _)).1
  · exact (N _ (List.Mem.tail _ (List.Mem.head _))).1
  · exact (N _ (List.Mem.tail _ (List.Mem.tail _ (List.Mem.head _)))).1
  · exact (N _ (List.Mem.tail _ (List.Mem.tail _ (List.Mem.tail _ (List.Mem.head _))))).1
theorem rules_len (n : Int) : (rulesOf n).length ≤ 2 := by
  unfold rulesOf
  rw [List.length_take]
  exact Nat.le_trans (Nat.min_le_right _ _) (by simp)
theorem rules_mem {n : Int} {P : Int × Int → Prop} (h1 : P ((n.fdiv 3).fmod 2, [1, -1, 2, -3].getD ((n.fdiv 6).fmod 4).toNat 0)) (h2 : P (1 - (n.fdiv 3).fmod 2, [1, -1, 2, -3].getD ((n.fdiv 24).fmod 4).toNat 0)) : ∀ r ∈ rulesOf n, P r := by
  intro r hr
  have := List.mem_of_mem_take hr
  simp only [List.mem_cons, List.not_mem_nil, or_false] at this
  rcases this with rfl | rfl
  · exact h1
  · exact h2
theorem rules_col (n : Int) : ∀ r ∈ rulesOf n, r.1 = 0 ∨ r.1 = 1 := by
  have a := Int.fmod_nonneg_of_pos (n.fdiv 3) (show (0 : Int) < 2 by decide)
  have b := Int.fmod_lt_of_pos (n.fdiv 3) (show (0 : Int) < 2 by decide)
  exact rules_mem (by simp only; omega) (by simp only; omega)
theorem wgt_cases {k : Int} (h0 : 0 ≤ k) (h4 : k < 4) : [1, -1, 2, -3].getD k.toNat (0 : Int) = 1 ∨ [1, -1, 2, -3].getD k.toNat (0 : Int) = -1 ∨ [1, -1, 2, -3].getD k.toNat (0 : Int) = 2 ∨ [1, -1, 2, -3].getD k.toNat (0 : Int) = -3 := by
  have : k = 0 ∨ k = 1 ∨ k = 2 ∨ k = 3 := by omega
  rcases this with rfl | rfl | rfl | rfl
  · exact Or.inl rfl
  · exact Or.inr (Or.inl rfl)
  · exact Or.inr (Or.inr (Or.inl rfl))
  · exact Or.inr (Or.inr (Or.inr rfl))
theorem rules_wgt (n : Int) : ∀ r ∈ rulesOf n, r.2 = 1 ∨ r.2 = -1 ∨ r.2 = 2 ∨ r.2 = -3 :=
  rules_mem (wgt_cases (Int.fmod_nonneg_of_pos _ (by decide)) (Int.fmod_lt_of_pos _ (by decide))) (wgt_cases (Int.fmod_nonneg_of_pos _ (by decide)) (Int.fmod_lt_of_pos _ (by decide)))
theorem GrownAt.ext {P : Addr} {h h' : Heap} (x : GrownAt P h) (e : h.StaysIn h') : GrownAt P h' := let ⟨ps, q⟩ := x; ⟨ps, e _ _ q⟩
theorem law_rest {w : World} {A : Around} {s : Shared} {g : Heap} {L Dn a : Addr} {cd : Value} {m : Str → Option Value} {oN : Obj} {kN : Nat} {vs : List Value} {ns : List Int} {p : Program} {loose : List Str} {mean : ExcName → Option Value} {mg mb : Str → Option Value} {Q : Flow → Shared → Prop} {E : Value → Shared → Prop}
    (hl : A.frames = some []) (hh : A.handled = none) (hd : A.depth + 200 < recursionLimit) (hu : A.units + 2000 < cLine) (X' : (Mine.hd.heap_1 w.params).In g) (T' : Top p loose mean mg mb g) (F : Fr g L s.heap m) (N : News g L s.heap [(103, tabObj #[]), (67, tabObj #[]), (60, tabObj #[]), (37, tabObj #[]), (Dn, oN)])
    (hm : m (Str.ofString "numbers") = some (.ref Dn)) (cN : oN.cls = .type "list") (dN : oN.data = .seq vs.toArray kN) (hI : IntsAre vs ns) (hn1 : 1 ≤ ns.length) (hn2 : ns.length ≤ 11) (ok : ∀ n, PlainOk (chain ((rulesOf n).map fun r => ruleC r.1 r.2)) (rulesOf n))
    (ret : ∀ h tk, g.StaysIn h → GrownAt 103 h → GrownAt 67 h → GrownAt 60 h → GrownAt 37 h → Q (.ret (.bool true)) { s with heap := h, toks := tk }) :
    wpAny (model Challenge.rw_mg0030_01.row.prog w) (A.deeper (envOf (Str.ofString "law") lawScope L a cd)) (execs (lawBody.drop 1) (envOf (Str.ofString "law") lawScope L a cd)) Q E s := by
  generalize hb : lawBody.drop 1 = body
  generalize hs : lawScope = scope
  conv at hb => lhs; whnf
  conv at hs => lhs; whnf
  subst hb hs
  revert X'
  k_fill
  intro X'
  have hcs : ∀ b ∈ [103, 67, 60, 37], g.get? b = none := fun b hb => by
    simp only [List.mem_cons, List.not_mem_nil, or_false] at hb
    rcases hb with rfl | rfl | rfl | rfl
    · exact (N _ (List.Mem.head _)).2.2
    · exact (N _ (List.Mem.tail _ (List.Mem.head _))).2.2
    · exact (N _ (List.Mem.tail _ (List.Mem.tail _ (List.Mem.head _)))).2.2
    · exact (N _ (List.Mem.tail _ (List.Mem.tail _ (List.Mem.tail _ (List.Mem.head _))))).2.2
  have tab0 : ∀ h, News g L h [(103, tabObj #[]), (67, tabObj #[]), (60, tabObj #[]), (37, tabObj #[]), (Dn, oN)] → ∀ b ∈ [103, 67, 60, 37], h.get? b = some (tabObj #[]) := fun h N b hb => by
    simp only [List.mem_cons, List.not_mem_nil, or_false] at hb
    rcases hb with rfl | rfl | rfl | rfl
    · exact (N _ (List.Mem.head _)).1
    · exact (N _ (List.Mem.tail _ (List.Mem.head _))).1
    · exact (N _ (List.Mem.tail _ (List.Mem.tail _ (List.Mem.head _)))).1
    · exact (N _ (List.Mem.tail _ (List.Mem.tail _ (List.Mem.tail _ (List.Mem.head _))))).1
  (obtain q91 : ∃ n0 t, vs[0]? = some (.int n0 t) ∧ ns[0]? = some n0 := by
    cases hI with
    | nil => exact absurd hn1 (by decide)
    | cons n t _ => exact (i2_2 n t rfl rfl)
   with_reducible refine x2_2 q91 fun n0 tn0 hv0 hn0 => ?_
   clear q91)
  have nc0 : Dn ∉ [103, 67, 60, 37] := fun hb => by
    have z := tab0 _ N _ hb
    rw [N.get (List.Mem.tail _ (List.Mem.tail _ (List.Mem.tail _ (List.Mem.tail _ (List.Mem.head _)))))] at z
    cases z
    cases cN
  (obtain q92 := Scn.makeC (frs := []) (new := [(103, tabObj #[]), (67, tabObj #[]), (60, tabObj #[]), (37, tabObj #[]), (Dn, oN)]) (envOf (Str.ofString "law") lawScope L a cd) [103, 67, 60, 37] hcs hl (by trivial) F N (fun p hp q => nomatch q) rfl
   with_reducible refine x1_4 q92 fun things0 S0 N0' off0 all0 => ?_
   clear q92)
  have hN0 := S0.tv _ (all0 (Dn, oN) (List.Mem.tail _ (List.Mem.tail _ (List.Mem.tail _ (List.Mem.tail _ (List.Mem.head _))))) nc0)
  have hV0 : ∀ b ∈ [103, 67, 60, 37], (view (A.deeper (envOf (Str.ofString "law") lawScope L a cd)) [103, 67, 60, 37] s.heap).get? b = none := fun b hb => by
    cases q : (view (A.deeper (envOf (Str.ofString "law") lawScope L a cd)) [103, 67, 60, 37] s.heap).get? b with
    | none => rfl
    | some o => exact absurd (List.mem_append_left _ hb) (view_get q).1
  generalize view (A.deeper _) [103, 67, 60, 37] s.heap = V0 at S0 hN0 hV0
  have N0 : News g L s.heap (((103, tabObj #[]) :: (67, tabObj #[]) :: (60, tabObj #[]) :: (37, tabObj #[]) :: things0) ++ []) := fun p hp => by
    refine mc1 hp ?_ fun hp => ?_
    · exact N _ (List.Mem.head _)
    · refine mc1 hp ?_ fun hp => ?_
      · exact N _ (List.Mem.tail _ (List.Mem.head _))
      · refine mc1 hp ?_ fun hp => ?_
        · exact N _ (List.Mem.tail _ (List.Mem.tail _ (List.Mem.head _)))
        · refine mc1 hp ?_ fun hp => ?_
          · exact N _ (List.Mem.tail _ (List.Mem.tail _ (List.Mem.tail _ (List.Mem.head _))))
          · exact N0' p hp
  clear N N0' all0
  k_steps
  unfold Stop
  refine item_in (v := .int n0 tn0) (i1_3 _ (S0.heap F N0 (fun p hp => List.Mem.tail _ (List.Mem.tail _ (List.Mem.tail _ (List.Mem.tail _ (List.mem_append_left _ hp))))) _ _ hN0) cN ⟨_, dN⟩) (by decide) (by decide) (by simpa using hv0) ?_
  k_steps
  unfold Stop
  have CU1 : ∀ tn gens drawn toks os, Quiet w (A.deeper (envOf (Str.ofString "law") lawScope L a cd)) (call (.ref 58) [.int (n0.fmod 96) tn]) ⟨s.heap, gens, drawn, toks, os⟩ _ := fun _ _ _ _ _ =>
    c_rules (S0.here F N0 X' T') (by show A.depth + 1 + 50 < _; omega) (Int.fmod_nonneg_of_pos _ (by decide)) (Int.fmod_lt_of_pos _ (by decide))
  refine CU1 _ _ _ _ _ _ _ ?_
  (rintro y h1 tk1 X1 h9q; (with_reducible refine x1_2 h9q fun rl r81 P1 => ?_
                            try clear h9q
                            obtain rfl := r81))
  (obtain q93 := S0.backC [103, 67, 60, 37] hcs F N0 (fun p hp => List.Mem.tail _ (List.Mem.tail _ (List.Mem.tail _ (List.Mem.tail _ hp)))) (fun p hp q => nomatch q) rfl hV0 X1
   with_reducible refine x2_8 q93 fun frs1 things1 SU1 S1 F1 N1a off1 all1 st1 hV1 => ?_
   clear q93)
  obtain rfl : frs1 = [] := frs_nil S1.Fs
  have tab1 : ∀ b ∈ [103, 67, 60, 37], h1.get? b = some (tabObj #[]) := fun b hb => by
    simp only [List.mem_cons, List.not_mem_nil, or_false] at hb
    rcases hb with rfl | rfl | rfl | rfl
    · exact (N1a _ (List.Mem.head _)).1
    · exact (N1a _ (List.Mem.tail _ (List.Mem.head _))).1
    · exact (N1a _ (List.Mem.tail _ (List.Mem.tail _ (List.Mem.head _)))).1
    · exact (N1a _ (List.Mem.tail _ (List.Mem.tail _ (List.Mem.tail _ (List.Mem.head _))))).1
  have P1' := P1.offT (OffT.of tab1)
  (refine x1_3 P1' fun ts hts htl htp => ?_
   try clear P1')
  have hrl : rl ∉ [60, L] := fun q => by
    (refine x1_2 hts fun o ho c82 => ?_
     try clear hts
     clear c82)
    have n := (view_get ho).1
    rw [fsA_deeper hl rfl] at n
    rcases List.mem_cons.mp q with rfl | q
    · exact n (List.mem_append_left _ (List.Mem.tail _ (List.Mem.tail _ (List.Mem.head _))))
    · exact n (List.mem_append_right _ (List.mem_singleton.mp q ▸ List.Mem.head _))
  have hN1 := st1 _ _ hN0
  have N1 : News g L h1 ((103, tabObj #[]) :: (67, tabObj #[]) :: (60, tabObj #[]) :: (37, tabObj #[]) :: (things1 ++ [])) := fun p hp => by
    refine mc1 hp ?_ fun hp => ?_
    · exact N1a _ (List.Mem.head _)
    · refine mc1 hp ?_ fun hp => ?_
      · exact N1a _ (List.Mem.tail _ (List.Mem.head _))
      · refine mc1 hp ?_ fun hp => ?_
        · exact N1a _ (List.Mem.tail _ (List.Mem.tail _ (List.Mem.head _)))
        · refine mc1 hp ?_ fun hp => ?_
          · exact N1a _ (List.Mem.tail _ (List.Mem.tail _ (List.Mem.tail _ (List.Mem.head _))))
          · exact N1a _ (List.mem_append_right _ hp)
  generalize view (A.deeper _) [103, 67, 60, 37] h1 = V1 at S1 st1 hV1 hts htp hN1
  have hr2 : (rulesOf (n0.fmod 96)).length ≤ 2 := rules_len _
  have hru := rules_col (n0.fmod 96)
  have hrw := rules_wgt (n0.fmod 96)
  replace ok := ok (n0.fmod 96)
  generalize rulesOf (n0.fmod 96) = ru at *
  clear N1a all1 P1 X1 N0 F hV0 hN0 st1 SU1 CU1 tab1
  k_steps
  unfold Stop
  rename Fr _ _ _ _ => F2_0
  rename News _ _ _ _ => N2
  (obtain q94 : ∃ m2, Fr g L _ m2 ∧ m2 (Str.ofString "numbers") = some (.ref Dn) ∧ m2 (Str.ofString "rules") = some (.ref rl) := (i1_3 _ F2_0 (by kd_p) (by kd_p))
   with_reducible refine x1_3 q94 fun m2 F2 p1 p2 => ?_
   clear q94)
  clear F2_0
  rename_i h2
  have lL : L < h2.objs.size := F2.ns.lt
  have tabs2 := fun b (hb : b ∈ [103, 67, 60, 37]) => (tabs_at N2 b hb)
  have env0 : ∃ env0, env0 = envOf (Str.ofString "law") lawScope L a cd := ⟨_, rfl⟩
  obtain ⟨env0, henv0⟩ := env0
  have hf0 : env0.frame = some L := by rw [henv0]; rfl
  have hk0 : env0.scope.kind = .function := by rw [henv0]; rfl
  have rlI : h2.IsList rl (ts.map Value.ref).toArray := IsList.ext hts (S1.heap F2 N2 fun p hp => List.Mem.tail _ (List.Mem.tail _ (List.Mem.tail _ (List.Mem.tail _ (List.mem_append_left _ hp)))))
  have rlT : ∀ (i : Nat) t r, ts[i]? = some t → ru[i]? = some r → ∃ u1 u2, IsTup h2 t #[.int r.1 u1, .int r.2 u2] := fun i t r e1 e2 => by
    (obtain q83 := htp i t r e1 e2
     with_reducible refine x2_1 q83 fun u1 u2 q => ?_
     clear q83)
    exact ⟨u1, u2, q.keeps (S1.heap F2 N2 fun p hp => List.Mem.tail _ (List.Mem.tail _ (List.Mem.tail _ (List.Mem.tail _ (List.mem_append_left _ hp)))))⟩
  refine lc_pureX (by with_unfolding_all rfl) (by decide) (by rfl) (by decide) hh ?hi rlI (by rw [sizeLine_eq]; simp; omega) [60, L] ?hX hrl
    (fun C D I h => h2.objs.size ≤ C ∧ h2.objs.size ≤ D ∧ h2.objs.size ≤ I ∧ (∀ b o, b ≠ 60 → b ≠ L → h2.get? b = some o → h.get? b = some o) ∧ h.Ns L m2 ∧ TabX (A.deeper env0) [103, 67, 37, C, D, I] h 60 91 11 (Str.ofString "_law_rule.<locals>.<lambda>")) ?hG2 ?g20
    (fun i y C D I h => ∃ r, ru[i]? = some r ∧ CmpOk w (view (A.deeper env0) [60, 103, 67, 37, C, D, I] h) y 3 (ruleC r.1 r.2)) ?hY ?turn ?done
  case hi =>
    k_steps
  case hX =>
    intro b hb
    refine mc1 hb ?_ fun hb => ?_
    · exact Heap.lt_size (tabs2 60 (by simp))
    · rw [List.mem_singleton.mp hb]; exact lL
  case hG2 =>
    (rintro C D I h h' h9q; (with_reducible refine x0_6 h9q fun y1 y2 y3 y7 y8 y9 => ?_
                             try clear h9q); rintro k)
    have k2 : ∀ b o, b < h2.objs.size → h.get? b = some o → h'.get? b = some o := fun b o hb e => k b o (Nat.ne_of_lt (Nat.lt_of_lt_of_le hb y1)) (Nat.ne_of_lt (Nat.lt_of_lt_of_le hb y3)) (Nat.ne_of_lt (Nat.lt_of_lt_of_le hb y2)) e
    refine ⟨y1, y2, y3, fun b o n1 n2 e => k2 b o (Heap.lt_size e) (y7 b o n1 n2 e), y8.at' fun o e => k2 _ o lL e, ?_⟩
    rcases y9 with y9 | ⟨c, oc, us, t, e1, e2, d1, d2⟩
    · exact Or.inl (k2 _ _ (Heap.lt_size (tabs2 60 (by simp))) y9)
    · refine Or.inr (i4_4 c oc us t (k2 _ _ (Heap.lt_size (tabs2 60 (by simp))) e1) (view_sub (fun b hb => hb) (fun b o n e => k b o (fun q => n ?_) (fun q => n ?_) (fun q => n ?_) e) _ _ e2) d1 d2)
      · subst q; exact List.mem_append_left _ (by simp)
      · subst q; exact List.mem_append_left _ (by simp)
      · subst q; exact List.mem_append_left _ (by simp)
  case g20 =>
    intro C D I h y1 y2 y3 y4 y5 y6 st
    exact ⟨y1, y2, y3, fun b o _ _ e => st b o e, F2.ns.at' fun o e => st _ o e, Or.inl (st _ _ (tabs2 60 (by simp)))⟩
  case hY =>
    (rintro C D I i y h h' h9q; (with_reducible refine x1_2 h9q fun r hr K => ?_
                                 try clear h9q); rintro k)
    refine ⟨r, hr, K.ext (view_sub (fun b hb => hb) fun b o n e => k b o (fun q => n ?_) (fun q => n ?_) (fun q => n ?_) (fun q => n ?_) e)⟩
    · refine mc1 q ?_ fun q => ?_
      · exact List.mem_append_left _ (List.Mem.head _)
      · rw [List.mem_singleton.mp q, fsA_deeper hl hf0]; exact List.mem_append_right _ (List.Mem.head _)
    · subst q; exact List.mem_append_left _ (by simp)
    · subst q; exact List.mem_append_left _ (by simp)
    · subst q; exact List.mem_append_left _ (by simp)
  case turn =>
    (rintro C D I i v h tk E' y1 y2 y3 y4 y5 y6 hv h9q; (with_reducible refine x0_6 h9q fun c95 c96 c97 y7 y8 y9 => ?_
                                                         try clear h9q
                                                         clear c95
                                                         clear c96
                                                         clear c97); rintro ⟨mC, hns⟩ hit ⟨oD, hoD⟩)
    (obtain q84 : ∃ T, v = .ref T ∧ ts[i]? = some T := by
      simp only [List.getElem?_toArray, List.getElem?_map, Option.map_eq_some_iff] at hv
      obtain ⟨T, hT, rfl⟩ := hv
      exact ⟨T, rfl, hT⟩
     with_reducible refine x1_2 q84 fun T r85 hT => ?_
     clear q84
     obtain rfl := r85)
    obtain ⟨r, hr⟩ : ∃ r, ru[i]? = some r := ⟨_, List.getElem?_eq_getElem (by rw [← htl]; exact (List.getElem?_eq_some_iff.mp hT).1)⟩
    (obtain q87 := rlT i T r hT hr
     with_reducible refine x2_1 q87 fun u1 u2 tT => ?_
     clear q87)
    refine wpAny_letOwnedTupleGo_listiter hit ?_
    have nT : ∀ o, h2.get? T = some o → h.get? T = some o := fun o e => y7 T o (fun q => by
        subst q
        (refine x1_3 tT fun o' e' c' c98 => ?_
         try clear tT
         clear c98)
        rw [tabs2 60 (by simp)] at e'
        cases e'
        cases c') (fun q => by
        subst q
        (refine x1_3 tT fun o' e' c' q99 => ?_
         try clear tT
         with_reducible refine x1_1 q99 fun kk d' => ?_
         clear q99)
        (obtain q910 := F2.ns
         refine x3_3 q910 fun oL es ep ho hd' _ => ?_
         clear q910)
        rw [show h2.get? _ = some oL from ho] at e'
        cases e'
        rw [hd'] at d'
        cases d') e
    have tTh : IsTup h T #[.int r.1 u1, .int r.2 u2] := let ⟨o, e, q⟩ := tT; ⟨o, nT o e, q⟩
    refine kcp_assign hh tTh (by rfl) (by rfl) (by rfl) hns fun h6 tk6 ns6 k6 => ?_
    (obtain q911 : ∃ oC, h6.get? C = some oC ∧ ∃ mc, LCg.NsObj oC mc ∧ mc (Str.ofString "column") = some (.int r.1 u1) ∧ mc (Str.ofString "weight") = some (.int r.2 u2) := let ⟨o, es, ep, a, b⟩ := ns6; (i1_2 o a (i1_3 _ ⟨es, ep, b⟩ rfl rfl))
     with_reducible refine x1_2 q911 fun oC hoC q912 => ?_
     clear q911
     with_reducible refine x1_3 q912 fun mc nC hx1 hx2 => ?_
     clear q912)
    have up6 : ∀ b o, b ≠ 60 → b ≠ L → h2.get? b = some o → h6.get? b = some o := fun b o n1 n2 e => k6 b o (Nat.ne_of_lt (Nat.lt_of_lt_of_le (Heap.lt_size e) y1)) (y7 b o n1 n2 e)
    have lz : L < C := Nat.lt_of_lt_of_le lL y1
    have F6 : Fr g L h6 m2 := ⟨y8.at' fun o e => k6 _ o (Nat.ne_of_lt lz) e, fun b o e => up6 b o (fun q => by rw [q, hcs 60 (by simp)] at e; cases e) (fun q => by rw [q, Heap.get?_none_of_le F2.above] at e; cases e) (F2.keep b o e), F2.above⟩
    have N6 : News g L h6 ((C, oC) :: ((103, tabObj #[]) :: (67, tabObj #[]) :: (37, tabObj #[]) :: things1) ++ []) := fun p hp => by
      refine mc1 hp ?_ fun hp => ?_
      · exact ⟨hoC, Nat.ne_of_gt lz, Heap.get?_none_of_le (Nat.le_trans F2.above (Nat.le_of_lt lz))⟩
      · have z : p ∈ (103, tabObj #[]) :: (67, tabObj #[]) :: (60, tabObj #[]) :: (37, tabObj #[]) :: (things1 ++ []) ∧ p.1 ≠ 60 := by
          refine mc1 hp ?_ fun hp => ?_
          · exact ⟨List.Mem.head _, by decide⟩
          · refine mc1 hp ?_ fun hp => ?_
            · exact ⟨List.Mem.tail _ (List.Mem.head _), by decide⟩
            · refine mc1 hp ?_ fun hp => ?_
              · exact ⟨List.Mem.tail _ (List.Mem.tail _ (List.Mem.tail _ (List.Mem.head _))), by decide⟩
              · exact ⟨List.Mem.tail _ (List.Mem.tail _ (List.Mem.tail _ (List.Mem.tail _ hp))), fun q => off1 p (by simpa using hp) (by rw [q]; simp)⟩
        have z2 := N2 p z.1
        exact ⟨up6 _ _ z.2 z2.2.1 z2.1, z2.2⟩
    have n60L : (60 : Nat) ≠ L := (N2 (60, tabObj #[]) (List.Mem.tail _ (List.Mem.tail _ (List.Mem.head _)))).2.1
    have nC60 : C ≠ 60 := fun q => Nat.lt_irrefl _ (Nat.lt_of_lt_of_le (Heap.lt_size (tabs2 60 (by simp))) (q ▸ y1))
    have zC : C < h6.objs.size := Heap.lt_size hoC
    have zD : D < h6.objs.size := by
      by_cases q : D = C
      · rw [q]; exact zC
      · exact Heap.lt_size (k6 D oD q hoD)
    have zI : I < h6.objs.size := by
      by_cases q : I = C
      · rw [q]; exact zC
      · (refine x1_2 hit fun oI hoI c88 => ?_
         try clear hit
         clear c88); exact Heap.lt_size (k6 I oI q hoI)
    have hxs : ∀ b ∈ [103, 67, 37, C, D, I], b < h6.objs.size := by
      repeat' (first | exact List.forall_mem_nil _ | refine List.forall_mem_cons.mpr ⟨?_, ?_⟩)
      · exact Heap.lt_size (N6 (103, tabObj #[]) (List.Mem.tail _ (List.Mem.head _))).1
      · exact Heap.lt_size (N6 (67, tabObj #[]) (List.Mem.tail _ (List.Mem.tail _ (List.Mem.head _)))).1
      · exact Heap.lt_size (N6 (37, tabObj #[]) (List.Mem.tail _ (List.Mem.tail _ (List.Mem.tail _ (List.Mem.head _))))).1
      · exact zC
      · exact zD
      · exact zI
    have T6 : TabX (A.deeper env0) [103, 67, 37, C, D, I] h6 60 91 11 (Str.ofString "_law_rule.<locals>.<lambda>") := by
      rcases y9 with y9 | ⟨c, oc, us, t, e1, e2, d1, d2⟩
      · exact Or.inl (k6 _ _ nC60.symm y9)
      · exact Or.inr (i4_4 c oc us t (k6 _ _ nC60.symm e1) (view_sub (fun b hb => hb) (fun b o n e => k6 b o (fun q => by subst q; exact n (List.mem_append_left _ (by simp))) e) _ _ e2) d1 d2)
    have hg60 : ∀ b ∈ [60], g.get? b = none ∧ b ≠ L := fun b hb => by rw [List.mem_singleton.mp hb]; exact ⟨hcs 60 (by simp), n60L⟩
    have CUr : ∀ gens drawn toks os, QuietB w (A.deeper env0) (call (.ref 65) [.int r.1 u1, .int r.2 u2]) ⟨h6, gens, drawn, toks, os⟩ [60] _ := fun _ _ _ _ =>
      c_ruleX (xs := [103, 67, 37, C, D, I]) hxs (here_ofB hl (by trivial : Frs [] []) F6 N6 Split.append X' T' (fun b hb => (hg60 b hb).1) hf0 hk0) T6 (by show A.depth + 1 < _; omega) (hru r (List.mem_of_getElem? hr)) (hrw r (List.mem_of_getElem? hr))
    clear N2 F2
    k_steps
    unfold Stop
    rw [henv0] at CUr
    refine CUr _ _ _ _ _ _ ?_
    rintro y h7 tk7 X7 ⟨K7, T7⟩
    rw [← henv0] at X7 K7 T7
    (obtain q913 := backB (hid := [60]) (new := []) hl (by trivial : Frs [] []) F6 (fun p hp => nomatch hp) hf0 (fun p hp => nomatch hp) hg60 X7
     with_reducible refine x1_4 q913 fun frs7 SU7 Fs7 F7 c914 => ?_
     clear q913
     clear c914)
    have keep7 : ∀ b o, b ≠ 60 → b ≠ L → h6.get? b = some o → h7.get? b = some o := fun b o n1 n2 e => (view_get (X7.keep b o (view_of (fun q => by
      rw [fsA_deeper hl hf0] at q
      rcases List.mem_append.mp q with q | q
      · exact n1 (List.mem_singleton.mp q)
      · rcases List.mem_cons.mp q with q | q
        · exact n2 q
        · rw [show fsA A = [] by unfold fsA; rw [hl]; rfl] at q; cases q) e))).2
    exact (i2_5 h7 tk7 rfl (fun b o n1 n2 e => keep7 b o (fun q => n2 (q ▸ List.Mem.head _)) (fun q => n2 (q ▸ List.Mem.tail _ (List.Mem.head _))) (k6 b o n1 e)) ⟨mc, nC.ns (keep7 _ _ nC60 (Nat.ne_of_gt lz) hoC)⟩ ⟨y1, y2, y3, fun b o n1 n2 e => keep7 b o n1 n2 (up6 b o n1 n2 e), F7.ns, T7⟩ (i1_2 r hr K7))
  case done =>
    (rintro C D I ys h tk y2 y1 y3 h9q; (with_reducible refine x0_6 h9q fun c915 c916 c917 y7 y8 y9 => ?_
                                         try clear h9q
                                         clear c915
                                         clear c916
                                         clear c917); rintro pl hlen hy)
    have hlen' : ys.length = ru.length := by rw [hlen]; simp [htl]
    have n60L : (60 : Nat) ≠ L := (N2 (60, tabObj #[]) (List.Mem.tail _ (List.Mem.tail _ (List.Mem.head _)))).2.1
    (obtain q918 : ∃ o, h.get? 60 = some o ∧ ∃ ps, o = tabObj ps := by
      rcases y9 with y9 | ⟨_, _, _, _, y9, _⟩ <;> exact ⟨_, y9, _, rfl⟩
     with_reducible refine x1_2 q918 fun o60 h60 q919 => ?_
     clear q918
     with_reducible refine x1_1 q919 fun ps60 e60 => ?_
     clear q919)
    obtain ⟨kD, hD⟩ := pl
    have lD : L < D := Nat.lt_of_lt_of_le lL y2
    have F3 : Fr g L h m2 := ⟨y8, fun b o e => y7 b o (fun q => by rw [q, hcs 60 (by simp)] at e; cases e) (fun q => by rw [q, Heap.get?_none_of_le F2.above] at e; cases e) (F2.keep b o e), F2.above⟩
    have N3 : News g L h (((103, tabObj #[]) :: (67, tabObj #[]) :: (60, o60) :: (37, tabObj #[]) :: (D, W.listOf ys.toArray kD) :: things1) ++ []) := fun p hp => by
      have up : ∀ p, p ∈ (103, tabObj #[]) :: (67, tabObj #[]) :: (60, tabObj #[]) :: (37, tabObj #[]) :: (things1 ++ []) → p.1 ≠ 60 → h.get? p.1 = some p.2 ∧ p.1 ≠ L ∧ g.get? p.1 = none := fun p hp n => by
        have z := N2 p hp
        exact ⟨y7 _ _ n z.2.1 z.1, z.2⟩
      refine mc1 hp ?_ fun hp => ?_
      · exact up _ (List.Mem.head _) (by decide)
      · refine mc1 hp ?_ fun hp => ?_
        · exact up _ (List.Mem.tail _ (List.Mem.head _)) (by decide)
        · refine mc1 hp ?_ fun hp => ?_
          · exact ⟨h60, n60L, hcs 60 (by simp)⟩
          · refine mc1 hp ?_ fun hp => ?_
            · exact up _ (List.Mem.tail _ (List.Mem.tail _ (List.Mem.tail _ (List.Mem.head _)))) (by decide)
            · refine mc1 hp ?_ fun hp => ?_
              · exact ⟨hD, Nat.ne_of_gt lD, Heap.get?_none_of_le (Nat.le_trans F2.above (Nat.le_of_lt lD))⟩
              · exact up _ (List.Mem.tail _ (List.Mem.tail _ (List.Mem.tail _ (List.Mem.tail _ hp)))) (fun q => off1 p (by simpa using hp) (by rw [q]; simp))
    have nD : D ∉ [103, 67, 60, 37] := fun q => by
      have := Heap.lt_size (tabs2 D q)
      exact Nat.lt_irrefl _ (Nat.lt_of_lt_of_le this y2)
    (obtain q920 := Scn.makeC (frs := []) (new := (103, tabObj #[]) :: (67, tabObj #[]) :: (60, o60) :: (37, tabObj #[]) :: (D, W.listOf ys.toArray kD) :: things1) env0 [103, 67, 60, 37] hcs hl (by trivial) F3 N3 (fun p hp q => nomatch q) hf0
     with_reducible refine x1_4 q920 fun things3 S3 N3' off3 all3 => ?_
     clear q920)
    have e13 := S1.cl _ S3.gv fun p hp => S3.tv p (all3 p (List.Mem.tail _ (List.Mem.tail _ (List.Mem.tail _ (List.Mem.tail _ (List.Mem.tail _ hp))))) (off1 p hp))
    have hls := S3.tv _ (all3 (D, W.listOf ys.toArray kD) (List.Mem.tail _ (List.Mem.tail _ (List.Mem.tail _ (List.Mem.tail _ (List.Mem.head _))))) nD)
    have fst_ : (ys.zip (ru.map fun r => ruleC r.1 r.2)).map (·.1) = ys := by rw [List.map_fst_zip]; simp [hlen']
    have snd_ : (ys.zip (ru.map fun r => ruleC r.1 r.2)).map (·.2) = ru.map fun r => ruleC r.1 r.2 := by rw [List.map_snd_zip]; simp [hlen']
    have fsl : (ys.zip (ru.map fun r => ruleC r.1 r.2)).length = ru.length := by simp [hlen']
    have hfs : ∀ p ∈ ys.zip (ru.map fun r => ruleC r.1 r.2), CmpOk w (view (A.deeper env0) (67 :: [103, 60, 37]) h) p.1 3 p.2 := fun p hp => by
      obtain ⟨i, hi⟩ := List.mem_iff_getElem?.mp hp
      rw [List.getElem?_zip_eq_some] at hi
      (obtain q89 := hy i _ hi.1
       with_reducible refine x1_2 q89 fun r hr K => ?_
       clear q89)
      have hi2 := hi.2
      rw [List.getElem?_map, hr] at hi2
      rw [← Option.some.inj hi2]
      refine K.ext (view_sub (fun b hb => ?_) fun b o n e => e)
      rcases List.mem_append.mp hb with hb | hb
      · simp only [List.mem_cons, List.not_mem_nil, or_false] at hb
        rcases hb with rfl | rfl | rfl | rfl <;> exact List.mem_append_left _ (by simp)
      · exact List.mem_append_right _ hb
    have hxs : ∀ b ∈ [103, 60, 37], b < h.objs.size := fun b hb => by
      simp only [List.mem_cons, List.not_mem_nil, or_false] at hb
      rcases hb with rfl | rfl | rfl
      · exact Heap.lt_size (N3 (103, tabObj #[]) (List.Mem.head _)).1
      · exact Heap.lt_size h60
      · exact Heap.lt_size (N3 (37, tabObj #[]) (List.Mem.tail _ (List.Mem.tail _ (List.Mem.tail _ (List.Mem.head _))))).1
    have vsub : (view (A.deeper env0) [103, 67, 60, 37] h).StaysIn (view (A.deeper env0) (67 :: [103, 60, 37]) h) := view_sub (fun b hb => by
      rcases List.mem_append.mp hb with hb | hb
      · simp only [List.mem_cons, List.not_mem_nil, or_false] at hb
        rcases hb with rfl | rfl | rfl | rfl <;> exact List.mem_append_left _ (by simp)
      · exact List.mem_append_right _ hb) fun b o n e => e
    have hg67 : ∀ b ∈ [67], g.get? b = none ∧ b ≠ L := fun b hb => by rw [List.mem_singleton.mp hb]; exact ⟨hcs 67 (by simp), (N3 (67, tabObj #[]) (List.Mem.tail _ (List.Mem.head _))).2.1⟩
    have HX3 : (Mine.hd.heap_1 w.params).In (view (A.deeper env0) (67 :: [103, 60, 37]) h) := Frag.In.keeps X' (StaysIn.trans S3.gv vsub)
    have H3 : Here w (A.deeper env0) [67] h := here_ofB hl (by trivial : Frs [] []) F3 N3 Split.append X' T' (fun b hb => (hg67 b hb).1) hf0 hk0
    have L3 : (view (A.deeper env0) [67] h).IsList D ((ys.zip (ru.map fun r => ruleC r.1 r.2)).map (·.1)).toArray := by
      rw [fst_]
      exact (i1_3 _ (view_sub (fun b hb => by
          rcases List.mem_append.mp hb with hb | hb
          · rw [List.mem_singleton.mp hb]; exact List.mem_append_left _ (by simp)
          · exact List.mem_append_right _ hb) (fun b o n e => e) _ _ hls) rfl ⟨_, rfl⟩)
    have TX3 : TabX (A.deeper env0) [103, 60, 37] h 67 93 11 (Str.ofString "_law_then.<locals>.<lambda>") := Or.inl (N3 (67, tabObj #[]) (List.Mem.tail _ (List.Mem.head _))).1
    have d3 : (A.deeper env0).depth + 50 < recursionLimit := by show A.depth + 1 + 50 < _; omega
    have l3 : (ys.zip (ru.map fun r => ruleC r.1 r.2)).length ≤ 8 := by rw [fsl]; omega
    clear hy y7 y8 y9
    generalize ys.zip (ru.map fun r => ruleC r.1 r.2) = fs at *
    have CR : ∀ gens drawn toks os, QuietB w (A.deeper env0) (call (.ref 51) [.ref 72, .ref D, .ref 79]) ⟨h, gens, drawn, toks, os⟩ [67] (fun r h => CmpOk w (view (A.deeper env0) (67 :: [103, 60, 37]) h) r (3 + fs.length) (chain (fs.map (·.2))) ∧ TabX (A.deeper env0) [103, 60, 37] h 67 93 11 (Str.ofString "_law_then.<locals>.<lambda>")) := by
      intro gens drawn toks os
      exact c_reduceX (s := ⟨h, gens, drawn, toks, os⟩) hxs HX3 H3 TX3 hh d3 L3 l3 hfs
    clear N2 F2 H3 HX3 L3 TX3 hfs
    k_steps
    unfold Stop
    rw [henv0] at CR
    refine CR _ _ _ _ _ _ ?_
    rintro y h4 tk4 X4 ⟨K4, T4⟩
    rw [← henv0] at X4 K4 T4
    have G67 : GrownAt 67 h4 := by rcases T4 with e | ⟨_, _, _, _, e, _⟩ <;> exact ⟨_, e⟩
    clear CR
    (obtain q810 := id K4.fn
     with_reducible refine x1_2 q810 fun f r811 c812 => ?_
     clear q810
     obtain rfl := r811
     clear c812)
    have N3b : News g L h (((103, tabObj #[]) :: (60, o60) :: (37, tabObj #[]) :: things3) ++ []) := fun p hp => by
      refine mc1 hp ?_ fun hp => ?_
      · exact N3 _ (List.Mem.head _)
      · refine mc1 hp ?_ fun hp => ?_
        · exact N3 _ (List.Mem.tail _ (List.Mem.tail _ (List.Mem.head _)))
        · refine mc1 hp ?_ fun hp => ?_
          · exact N3 _ (List.Mem.tail _ (List.Mem.tail _ (List.Mem.tail _ (List.Mem.head _))))
          · exact N3' p hp
    rename Fr _ _ _ _ => F3'
    (obtain q921 := backB (hid := [67]) (new := (103, tabObj #[]) :: (60, o60) :: (37, tabObj #[]) :: things3) hl (by trivial : Frs [] []) F3' N3b hf0 (fun p hp q => by
      simp only [List.map_nil, List.append_nil, List.mem_singleton] at q
      rcases List.mem_cons.mp hp with rfl | hp
      · cases q
      · rcases List.mem_cons.mp hp with rfl | hp
        · cases q
        · rcases List.mem_cons.mp hp with rfl | hp
          · cases q
          · exact off3 p hp (by rw [q]; simp)) hg67 X4
     with_reducible refine x1_4 q921 fun frs4 SU4 Fs4 F4 N4 => ?_
     clear q921)
    obtain rfl : frs4 = [] := frs_nil Fs4
    have v34 : (view (A.deeper env0) [103, 67, 60, 37] h).StaysIn (view (A.deeper env0) [103, 67, 60, 37] h4) := view_sub (fun b hb => hb) fun b o n e => (view_get (X4.keep b o (view_of (fun q => n ((List.mem_append.mp q).elim (fun q => by rw [List.mem_singleton.mp q]; exact List.mem_append_left _ (by simp)) (List.mem_append_right _))) e))).2
    have hg37 : ∀ b ∈ [37], g.get? b = none ∧ b ≠ L := fun b hb => by rw [List.mem_singleton.mp hb]; exact ⟨hcs 37 (by simp), (N4 (37, tabObj #[]) (List.Mem.tail _ (List.Mem.tail _ (List.Mem.head _)))).2.1⟩
    have H4 : Here w (A.deeper env0) [37] h4 := here_ofB hl (by trivial : Frs [] []) F4 N4 Split.append X' T' (fun b hb => (hg37 b hb).1) hf0 hk0
    have e37 : h4.get? 37 = some (tabObj #[]) := (N4 (37, tabObj #[]) (List.Mem.tail _ (List.Mem.tail _ (List.Mem.head _)))).1
    have K4' : CmpOk w (view (A.deeper env0) [37] h4) (.ref f) (3 + fs.length) (chain (fs.map (·.2))) := K4.ext (view_sub (fun b hb => (List.mem_append.mp hb).elim (fun q => by rw [List.mem_singleton.mp q]; exact List.mem_append_left _ (by simp)) (List.mem_append_right _)) fun b o n e => e)
    have d4 : (A.deeper env0).depth + 100 < recursionLimit := by show A.depth + 1 + 100 < _; omega
    have u4 : (A.deeper env0).units + 1000 < cLine := by show A.units + 3 + 1000 < _; omega
    have CK := fun gens drawn toks os => c_key (s := ⟨h4, gens, drawn, toks, os⟩) H4 e37 d4 u4 K4'
    clear H4 K4'
    k_steps
    unfold Stop
    rw [henv0] at CK
    refine CK _ _ _ _ _ _ ?_
    (rintro y h5 tk5 X5 h9q; obtain ⟨CC, N5, md, bt, cell, sl, fi, fl, fg, fe, fle, fge, st, hs, ts', hi, hj, ti, tj, tm, t0, rfl, G37, KF⟩ := h9q)
    rw [← henv0] at X5 KF
    clear CK
    have N4b : News g L h4 (((103, tabObj #[]) :: (60, o60) :: things3) ++ []) := fun p hp => by
      refine mc1 hp ?_ fun hp => ?_
      · exact N4 _ (List.Mem.head _)
      · refine mc1 hp ?_ fun hp => ?_
        · exact N4 _ (List.Mem.tail _ (List.Mem.head _))
        · exact N4 _ (List.Mem.tail _ (List.Mem.tail _ (List.Mem.tail _ hp)))
    rename Fr _ _ _ _ => F4'
    (obtain q923 := backB (hid := [37]) (new := (103, tabObj #[]) :: (60, o60) :: things3) hl (by trivial : Frs [] []) F4' N4b hf0 (fun p hp q => by
      simp only [List.map_nil, List.append_nil, List.mem_singleton] at q
      rcases List.mem_cons.mp hp with rfl | hp
      · cases q
      · rcases List.mem_cons.mp hp with rfl | hp
        · cases q
        · exact off3 p hp (by rw [q]; simp)) hg37 X5
     with_reducible refine x1_4 q923 fun frs5 SU5 Fs5 F5 N5' => ?_
     clear q923)
    obtain rfl : frs5 = [] := frs_nil Fs5
    have e103 : h5.get? 103 = some (tabObj #[]) := (N5' _ (List.Mem.head _)).1
    have KF5 := KF.offT (v' := view (A.deeper env0) [103] h5) fun b o e n => view_of (fun q => by
      obtain ⟨n1, e1⟩ := view_get e
      rcases List.mem_append.mp q with q | q
      · rw [List.mem_singleton.mp q, e103] at e1; cases e1; exact n rfl
      · exact n1 (List.mem_append_right _ q)) (view_get e).2
    have up45 : ∀ b o, b ∉ [103, 67, 60, 37] ++ fsA (A.deeper env0) → h4.get? b = some o → h5.get? b = some o := fun b o n e => (view_get (X5.keep b o (view_of (fun q => n ((List.mem_append.mp q).elim (fun q => by rw [List.mem_singleton.mp q]; exact List.mem_append_left _ (by simp)) (List.mem_append_right _))) e))).2
    have K5 : CmpOk w (view (A.deeper env0) [103] h5) (.ref f) (3 + fs.length) (chain (fs.map (·.2))) := K4.ext (fun b o e => by
      obtain ⟨n, e⟩ := view_get e
      have n2 : b ∉ [103, 67, 60, 37] ++ fsA (A.deeper env0) := fun q => n ((List.mem_append.mp q).elim (fun q => List.mem_append_left _ (by simp only [List.mem_cons, List.not_mem_nil, or_false] at q ⊢; rcases q with q | q | q | q <;> simp [q])) (List.mem_append_right _))
      exact view_of (fun q => n2 ((List.mem_append.mp q).elim (fun q => by rw [List.mem_singleton.mp q]; exact List.mem_append_left _ (by simp)) (List.mem_append_right _))) (up45 b o n2 e))
    have KC5 := keyCls KF5 K5 (by omega)
    have KS5 := keySrt KF5 K5 (by omega)
    (obtain q924 := Scn.makeC (frs := []) (new := (103, tabObj #[]) :: (60, o60) :: things3) env0 [103] (fun b hb => by rw [List.mem_singleton.mp hb]; exact hcs 103 (by simp)) hl (by trivial) F5 N5' (fun p hp q => nomatch q) hf0
     with_reducible refine x1_4 q924 fun things5 S5 N6' off5 all5 => ?_
     clear q924)
    have e45 : (view (A.deeper env0) [103, 67, 60, 37] h4).StaysIn (view (A.deeper env0) [103] h5) := fun b o e => by
      obtain ⟨n, e⟩ := view_get e
      exact view_of (fun q => n ((List.mem_append.mp q).elim (fun q => by rw [List.mem_singleton.mp q]; exact List.mem_append_left _ (by simp)) (List.mem_append_right _))) (up45 b o n e)
    have e15 := StaysIn.trans e13 (StaysIn.trans v34 e45)
    have hV5 : (view (A.deeper env0) [103] h5).get? 103 = none := by
      cases q : (view (A.deeper env0) [103] h5).get? 103 with
      | none => rfl
      | some o => exact absurd (List.mem_append_left _ (List.Mem.head _)) (view_get q).1
    have out : ∀ b, b ≠ L → ∀ q : Addr, b ≠ q → b ∉ [q] ++ fsA (A.deeper env0) := fun b n2 q n1 z => by
      rw [fsA_deeper hl hf0] at z
      rcases List.mem_append.mp z with z | z
      · exact n1 (List.mem_singleton.mp z)
      · rcases List.mem_cons.mp z with z | z
        · exact n2 z
        · rw [show fsA A = [] by unfold fsA; rw [hl]; rfl] at z; cases z
    have GV : ∀ b, b ≠ L → b ≠ 103 → GrownAt b h5 → GrownAt b (view (A.deeper env0) [103] h5) := fun b n2 n1 ⟨ps, e⟩ => ⟨ps, view_of (out b n2 103 n1) e⟩
    have V60 := GV 60 n60L (by decide) ⟨ps60, by have z := (N5' _ (List.Mem.tail _ (List.Mem.head _))).1; rw [e60] at z; exact z⟩
    have V67 := GV 67 (hg67 67 (by simp)).2 (by decide) (let ⟨ps, e⟩ := G67; ⟨ps, (view_get (X5.keep _ _ (view_of (out 67 (hg67 67 (by simp)).2 37 (by decide)) e))).2⟩)
    have V37 := GV 37 (hg37 37 (by simp)).2 (by decide) G37
    rw [snd_] at KC5 KS5
    generalize view (A.deeper env0) [103] h5 = V5 at S5 e15 hV5 KC5 KS5 V60 V67 V37
    have N6 : News g L h5 (((103, tabObj #[]) :: things5) ++ []) := fun p hp => by
      refine mc1 hp ?_ fun hp => ?_
      · exact N5' _ (List.Mem.head _)
      · exact N6' p hp
    clear N5' N6' N4b X5 up45 KF KF5 K5 K4 T4 X4 N3 N3b F4'
    k_steps
    unfold Stop
    rename Fr _ _ _ _ => F7_0
    rename News _ _ _ _ => N7
    (obtain q925 : ∃ m7, Fr g L _ m7 ∧ m7 (Str.ofString "numbers") = some (.ref Dn) ∧ m7 (Str.ofString "rules") = some (.ref rl) ∧ m7 (Str.ofString "key") = some (.ref CC) := (i1_4 _ F7_0 (by kd_p) (by kd_p) (by kd_p))
     with_reducible refine x1_4 q925 fun m7 F7 q1 q2 q3 => ?_
     clear q925)
    show wpAny _ (Around.deeper _ (envOf _ lawScope _ _ _)) (execs (lawBody.drop 3) (envOf _ lawScope _ _ _)) _ _ _
    with_reducible refine law_end hl hh hd hu X' T' S5 F7 N7 ?o hV5 q1 q2 q3 ?e cN dN hI hn1 hn2 ?r hr2 hru KC5 KS5 ok ?_
    case o => exact fun p hp q => off5 p hp (by rw [q]; simp)
    case e => exact e15 _ _ hN1
    case r => exact i1_3 ts (IsList.ext hts e15) htl (fun i t r e1 e2 => let ⟨u1, u2, q⟩ := htp i t r e1 e2; ⟨u1, u2, q.keeps e15⟩)
    intro h9 tk9 g9 G9
    exact ret _ _ (StaysIn.trans S5.gv g9) G9 (GrownAt.ext V67 g9) (GrownAt.ext V60 g9) (GrownAt.ext V37 g9)
end Mine
end PartN3

section PartN5
open PySem PySem.W PyProof.Rows PySem.Calls
set_option Elab.async false
set_option maxRecDepth 100000
set_option maxHeartbeats 4000000
set_option linter.unusedVariables false
set_option rowWalk.seconds 0
namespace Mine
theorem start_N5 {M : Model} {A : Around} {env : Env} {E : Value → Shared → Prop} {s : Shared} {Q : Flow → Shared → Prop} (h : Q .next s) : wpAny M A (execs [] env) Q E s := by
  w_top off
  walk1
  exact h
open TI (Frs SameUp)
open SeqAt
local macro_rules | `(tactic| walk_at "execs cons") => `(tactic| ((with_reducible show wpAny _ _ (execs (Stmt.Assign [_] (PySem.Expr.Subscript (PySem.Expr.List _ _) _ _) _ :: _) _) _ _ _); isplit))
local macro_rules | `(tactic| walk_at "execs cons") => `(tactic| ((with_reducible show wpAny _ _ (execs (Stmt.Assign [_] (PySem.Expr.Call (PySem.Expr.Name _ _) _ _ _) _ :: _) _) _ _ _); isplit))
theorem pick11 {vs : List Value} {ns : List Int} (hI : IntsAre vs ns) (h1 : 1 ≤ ns.length) : ∃ vs' ns', slicePick vs.toArray none (some 11) none = vs'.toArray ∧ IntsAre vs' ns' ∧ 1 ≤ ns'.length ∧ ns'.length ≤ 11 := by
  refine (i2_4 _ ((ns.drop 0).take (min 11 vs.length - 0)) (kms_pick_eq ..) ?_ ?_ ?_)
  · exact (hI.drop _).take _
  · have := hI.length
    rw [List.length_take, List.drop_zero]; omega
  · rw [List.length_take]; omega
theorem law_walk {w : World} {A : Around} {s : Shared} {g : Heap} {L ls a : Addr} {cd : Value} {m : Str → Option Value} {vs : List Value} {ns : List Int} {p : Program} {loose : List Str} {mean : ExcName → Option Value} {mg mb : Str → Option Value} {Q : Flow → Shared → Prop} {E : Value → Shared → Prop}
    (hl : A.frames = some []) (hh : A.handled = none) (hd : A.depth + 200 < recursionLimit) (hu : A.units + 2000 < cLine) (X' : (Mine.hd.heap_1 w.params).In g) (T' : Top p loose mean mg mb g) (F : Fr g L s.heap m) (N : News g L s.heap [(103, tabObj #[]), (67, tabObj #[]), (60, tabObj #[]), (37, tabObj #[])])
    (hm : m (Str.ofString "script") = some (.ref ls)) (hL : g.IsList ls vs.toArray) (hI : IntsAre vs ns) (hn : ns.length ≤ 63) (ok : ∀ n, PlainOk (chain ((rulesOf n).map fun r => ruleC r.1 r.2)) (rulesOf n))
    (ret : ∀ h tk, g.StaysIn h → GrownAt 103 h → GrownAt 67 h → GrownAt 60 h → GrownAt 37 h → Q (.ret (.bool true)) { s with heap := h, toks := tk }) :
    wpAny (model Challenge.rw_mg0030_01.row.prog w) (A.deeper (envOf (Str.ofString "law") lawScope L a cd)) (execs lawBody (envOf (Str.ofString "law") lawScope L a cd)) Q E s := by
  generalize hb : lawBody = body
  generalize hs : lawScope = scope
  conv at hb => lhs; whnf
  conv at hs => lhs; whnf
  subst hb hs
  revert X'
  k_fill
  intro X'
  k_steps
  unfold Stop
  have hvl := hI.length
  refine wpAny_truthy_list (IsList.ext hL F.keep) ?_ ?_
  · rw [List.size_toArray]; omega
  cases hq : vs with
  | cons v0 vs0 =>
    rw [← hq]
    have hne : (!vs.toArray.isEmpty) = true := by rw [hq]; rfl
    rw [hne]
    simp only [if_true]
    have hv1 : 1 ≤ vs.length := by rw [hq]; simp
    k_steps
    unfold Stop
    refine slice_list (s := ⟨_, _, _, _, _⟩) F N (IsList.ext hL F.keep) .none (.int _ _) ?_ (hsz := by rw [List.size_toArray, sizeLine_eq]; omega)
    intro h3 F3 N3
    (obtain q91 := pick11 hI (by omega)
     with_reducible refine x2_4 q91 fun vs' ns' e11 I11 b1 b2 => ?_
     clear q91)
    k_steps
    unfold Stop
    rename Fr _ _ _ _ => F4
    rename News _ _ _ _ => N4
    refine law_rest (oN := { cls := .type "list", data := .seq (slicePick vs.toArray none (some 11) none) }) (cN := rfl) (kN := 0) (dN := by rw [e11]) (hI := I11) (hn1 := b1) (hn2 := b2) (ok := ok) hl hh hd hu X' T' F4 (fun p hp => N4 p ?_) (by kd_p) ?_
    · simp only [List.mem_cons, List.not_mem_nil, or_false] at hp ⊢
      rcases hp with rfl | rfl | rfl | rfl | rfl <;> simp
    · intro h9 tk9 g9 a9 b9 c9 d9
      exact ret _ _ g9 a9 b9 c9 d9
  | nil =>
    have hne : (!(List.nil (α := Value)).toArray.isEmpty) = false := rfl
    rw [hne]
    simp only [Bool.false_eq_true, if_false]
    k_steps
    unfold Stop
    rename Fr _ _ _ _ => F2
    rename News _ _ _ _ => N2
    refine slice_list (s := ⟨_, _, _, _, _⟩) F2 N2 (i1_3 _ (N2.get (List.Mem.head _)) rfl ⟨_, rfl⟩) .none (.int _ _) ?_ (hsz := by rw [sizeLine_eq]; exact Nat.le_of_ble_eq_true rfl)
    intro h3 F3 N3
    (obtain q92 := pick11 (IntsAre.cons 11 _ (IntsAre.cons 5 _ (IntsAre.cons 14 _ (IntsAre.cons 3 _ (IntsAre.cons 22 _ (IntsAre.cons 5 _ (IntsAre.cons 9 _ (IntsAre.cons 26 _ (IntsAre.cons 12 _ (IntsAre.cons 2 _ (IntsAre.cons 0 _ .nil))))))))))) (by decide)
     with_reducible refine x2_4 q92 fun vs' ns' e11 I11 b1 b2 => ?_
     clear q92)
    k_steps
    unfold Stop
    rename Fr _ _ _ _ => F4
    rename News _ _ _ _ => N4
    refine law_rest (oN := { cls := .type "list", data := .seq (slicePick _ none (some 11) none) }) (cN := rfl) (kN := 0) (dN := congrArg (fun x => Data.seq x 0) e11) (hI := I11) (hn1 := b1) (hn2 := b2) (ok := ok) hl hh hd hu X' T' F4 (fun p hp => N4 p ?_) (by kd_p) ?_
    · simp only [List.mem_cons, List.not_mem_nil, or_false] at hp ⊢
      rcases hp with rfl | rfl | rfl | rfl | rfl <;> first | (simp; done) | exact Or.inl rfl
    · intro h9 tk9 g9 a9 b9 c9 d9
      exact ret _ _ g9 a9 b9 c9 d9
end Mine
end PartN5

end MacF
end MacE
section PartP4
open PySem PySem.W PyProof.Rows PySem.Calls
set_option Elab.async false
set_option maxRecDepth 100000
set_option maxHeartbeats 2000000
set_option linter.unusedVariables false
set_option rowWalk.seconds 0
namespace Mine
noncomputable def SgnOn (P : Rec → Prop) (c : Rec → Rec → Int) (κ : Rec → Int) : Prop := ∀ a b, P a → P b → (c a b < 0 ↔ κ a < κ b) ∧ (0 < c a b ↔ κ b < κ a)
theorem SgnOn.eq {P : Rec → Prop} {c : Rec → Rec → Int} {κ : Rec → Int} (h : SgnOn P c κ) {a b : Rec} (ha : P a) (hb : P b) : c a b = 0 ↔ κ a - κ b = 0 := by
  obtain ⟨h1, h2⟩ := h a b ha hb
  constructor
  · intro e
    have n1 : ¬ κ a < κ b := fun q => by have := h1.mpr q; omega
    have n2 : ¬ κ b < κ a := fun q => by have := h2.mpr q; omega
    omega
  · intro e
    have n1 : ¬ c a b < 0 := fun q => by have := h1.mp q; omega
    have n2 : ¬ 0 < c a b := fun q => by have := h2.mp q; omega
    omega
theorem byKey_sub (κ : Rec → Int) : ByKey (fun a b => κ a - κ b) κ := ⟨fun a b => by show κ a - κ b < 0 ↔ _; omega, fun a b => by show 0 < κ a - κ b ↔ _; omega⟩
theorem takeWhile_congr_mem {α : Type} {p q : α → Bool} : ∀ {l : List α}, (∀ x ∈ l, p x = q x) → l.takeWhile p = l.takeWhile q
  | [], _ => rfl
  | x :: l, h => by
    rw [List.takeWhile_cons, List.takeWhile_cons, h x (List.Mem.head _), takeWhile_congr_mem fun y hy => h y (List.Mem.tail _ hy)]
theorem skip_congr {P : Rec → Prop} {c : Rec → Rec → Int} {κ : Rec → Int} (h : SgnOn P c κ) {xs : List Rec} (hx : ∀ a ∈ xs, P a) {e : Rec} (he : P e) {i : Nat} : skip c e xs i = skip (fun a b => κ a - κ b) e xs i := by
  unfold skip
  rw [takeWhile_congr_mem fun x hm => ?_]
  exact decide_eq_decide.mpr (h.eq (hx x (List.mem_of_mem_drop hm)) he)
theorem reach_congr {P : Rec → Prop} {c : Rec → Rec → Int} {κ : Rec → Int} (h : SgnOn P c κ) {xs ys : List Rec} (hx : ∀ a ∈ xs, P a) (hy : ∀ a ∈ ys, P a) {i j : Nat} {ms us : List Nat} {b : Bool} (R : Reach c xs ys i j ms us b) : Reach (fun a b => κ a - κ b) xs ys i j ms us b := by
  induction R with
  | start => exact .start
  | endI _ h1 ih => exact .endI ih h1
  | endJ _ h1 h2 ih => exact .endJ ih h1 h2
  | @lt i j ms us e a _ he ha hc ih =>
    have pe := hx e (List.mem_of_getElem? he)
    have pa := hy a (List.mem_of_getElem? ha)
    rw [skip_congr h hx pe]
    exact .lt ih he ha (by have := (h e a pe pa).1.mp hc; show κ e - κ a < 0; omega)
  | @gt i j ms us e a _ he ha hn hc ih =>
    have pe := hx e (List.mem_of_getElem? he)
    have pa := hy a (List.mem_of_getElem? ha)
    rw [skip_congr h hy pa]
    have := (h e a pe pa).2.mp hc
    exact .gt ih he ha (by show ¬ κ e - κ a < 0; omega) (by show 0 < κ e - κ a; omega)
  | @eq i j ms us e a _ he ha hn1 hn2 ih =>
    have pe := hx e (List.mem_of_getElem? he)
    have pa := hy a (List.mem_of_getElem? ha)
    rw [skip_congr h hx pe, skip_congr h hy pa]
    have n1 : ¬ κ e < κ a := fun q => hn1 ((h e a pe pa).1.mpr q)
    have n2 : ¬ κ a < κ e := fun q => hn2 ((h e a pe pa).2.mpr q)
    exact .eq ih he ha (by show ¬ κ e - κ a < 0; omega) (by show ¬ 0 < κ e - κ a; omega)
theorem getD_P {P : Rec → Prop} {ys : List Rec} (hy : ∀ a ∈ ys, P a) {x : Nat} (h : x < ys.length) : P (ys.getD x (0, 0, 0)) := by
  rw [List.getD_eq_getElem?_getD, List.getElem?_eq_getElem h]
  exact hy _ (List.getElem_mem h)
theorem ureach_congr {P : Rec → Prop} {c : Rec → Rec → Int} {κ : Rec → Int} (h : SgnOn P c κ) {xs ys : List Rec} (hx : ∀ a ∈ xs, P a) (hy : ∀ a ∈ ys, P a) {i : Nat} {ms ids : List Nat} (R : UReach c xs ys i ms ids) : UReach (fun a b => κ a - κ b) xs ys i ms ids := by
  induction R with
  | start => exact .start
  | @hit i ms ids j e x R0 he hj hc hno ih =>
    have pe := hx e (List.mem_of_getElem? he)
    have hz := R0.in_.2.2.2
    exact .hit ih he hj ((h.eq (getD_P hy (hz x (List.mem_of_getElem? hj))) pe).mp hc) fun j' x' h1 h2 q => hno j' x' h1 h2 ((h.eq (getD_P hy (hz x' (List.mem_of_getElem? h2))) pe).mpr q)
  | @miss i ms ids e R0 he hno ih =>
    have pe := hx e (List.mem_of_getElem? he)
    have hz := R0.in_.2.2.2
    exact .miss ih he fun x h1 q => hno x h1 ((h.eq (getD_P hy (hz x h1)) pe).mpr q)
noncomputable def RnkOn (P : Rec → Prop) (ru : List (Int × Int)) (κ : Rec → Int) : Prop := ∀ a b, P a → P b → lexLt (rankOf ru a) (rankOf ru b) = decide (κ a < κ b) ∧ (rankOf ru a = rankOf ru b ↔ κ a = κ b)
theorem map_getD {f : Rec → List Int} {xs : List Rec} {p : Nat} (h : p < xs.length) : (xs.map f).getD p [] = f (xs.getD p (0, 0, 0)) := by
  rw [List.getD_eq_getElem?_getD, List.getD_eq_getElem?_getD, List.getElem?_map, List.getElem?_eq_getElem h]
  rfl
theorem mem_at {f : Rec → List Int} {xs : List Rec} {r : List Int} : r ∈ xs.map f ↔ ∃ q, q < xs.length ∧ f (xs.getD q (0, 0, 0)) = r := by
  constructor
  · intro h
    (obtain q81 := List.mem_map.mp h
     with_reducible refine x1_2 q81 fun a ha e => ?_
     clear q81)
    obtain ⟨q, hq, rfl⟩ := List.getElem_of_mem ha
    refine ⟨q, hq, ?_⟩
    rw [List.getD_eq_getElem?_getD, List.getElem?_eq_getElem hq]
    exact e
  · (rintro h9q; (with_reducible refine x1_2 h9q fun q hq r84 => ?_
                  try clear h9q
                  obtain rfl := r84))
    refine List.mem_map.mpr ⟨_, ?_, rfl⟩
    rw [List.getD_eq_getElem?_getD, List.getElem?_eq_getElem hq]
    exact List.getElem_mem hq
theorem take_getD {xs : List Rec} {p q : Nat} (h : q < p) : (xs.take p).getD q (0, 0, 0) = xs.getD q (0, 0, 0) := by
  rw [List.getD_eq_getElem?_getD, List.getD_eq_getElem?_getD, List.getElem?_take, if_pos h]
open Classical in
theorem owns_ranks {P : Rec → Prop} {ru : List (Int × Int)} {κ : Rec → Int} (h : RnkOn P ru κ) {xs ys : List Rec} (hx : ∀ a ∈ xs, P a) (hy : ∀ a ∈ ys, P a) : owns κ xs ys xs.length = ownN (xs.map (rankOf ru)) (ys.map (rankOf ru)) := by
  unfold owns ownN
  rw [List.length_map]
  refine List.filter_congr fun p hp => ?_
  have hp := List.mem_range.mp hp
  have pp := getD_P hx hp
  unfold ownB
  rw [map_getD hp]
  have e1 : rankOf ru (xs.getD p (0, 0, 0)) ∈ ys.map (rankOf ru) ↔ ∃ q, q < ys.length ∧ kR κ ys q = kR κ xs p := by
    rw [mem_at]
    exact ⟨fun ⟨q, a, b⟩ => ⟨q, a, (h _ _ (getD_P hy a) pp).2.mp b⟩, fun ⟨q, a, b⟩ => ⟨q, a, (h _ _ (getD_P hy a) pp).2.mpr b⟩⟩
  have e2 : rankOf ru (xs.getD p (0, 0, 0)) ∈ (xs.map (rankOf ru)).take p ↔ ∃ q, q < p ∧ kR κ xs q = kR κ xs p := by
    rw [← List.map_take, mem_at]
    have hl : (xs.take p).length = p := by rw [List.length_take]; omega
    rw [hl]
    refine ⟨fun ⟨q, a, b⟩ => ⟨q, a, ?_⟩, fun ⟨q, a, b⟩ => ⟨q, a, ?_⟩⟩
    · rw [take_getD a] at b; exact (h _ _ (getD_P hx (by omega)) pp).2.mp b
    · rw [take_getD a]; exact (h _ _ (getD_P hx (by omega)) pp).2.mpr b
  have e3 : ((ys.map (rankOf ru)).filter fun o => lexLt (rankOf ru (xs.getD p (0, 0, 0))) o).isEmpty = true ↔ ∀ q, q < ys.length → ¬ kR κ xs p < kR κ ys q := by
    rw [List.isEmpty_iff, List.filter_eq_nil_iff]
    refine ⟨fun H q a b => ?_, fun H r hr => ?_⟩
    · have := H _ (mem_at.mpr ⟨q, a, rfl⟩)
      rw [(h _ _ pp (getD_P hy a)).1] at this
      exact this (decide_eq_true b)
    · (obtain q85 := mem_at.mp hr
       with_reducible refine x1_2 q85 fun q a r86 => ?_
       clear q85
       obtain rfl := r86)
      rw [(h _ _ pp (getD_P hy a)).1]
      intro b
      exact H q a (of_decide_eq_true b)
  rw [Bool.eq_iff_iff, decide_eq_true_eq, Bool.and_eq_true, Bool.or_eq_true, Bool.not_eq_true', decide_eq_false_iff_not, Bool.not_eq_true', decide_eq_false_iff_not, e1, e2, e3]
  unfold Own
  constructor
  · rintro ⟨a, b⟩
    refine ⟨fun ⟨q, c, d⟩ => a q c d, ?_⟩
    rcases b with b | b
    · exact .inl fun ⟨q, c, d⟩ => b q c d
    · exact .inr b
  · rintro ⟨a, b⟩
    refine ⟨fun q c d => a ⟨q, c, d⟩, ?_⟩
    rcases b with b | b
    · exact .inl fun q c d => b ⟨q, c, d⟩
    · exact .inr b
theorem cnt_count {P : Rec → Prop} {ru : List (Int × Int)} {κ : Rec → Int} (h : RnkOn P ru κ) {ys : List Rec} (hy : ∀ a ∈ ys, P a) {a : Rec} (ha : P a) : ∀ (n : Nat), n ≤ ys.length → cntTo κ ys (κ a) n = ((ys.map (rankOf ru)).take n).count (rankOf ru a)
  | 0, _ => by simp [cntTo]
  | n + 1, hn => by
    have hlt : n < (ys.map (rankOf ru)).length := by rw [List.length_map]; omega
    rw [List.take_succ_eq_append_getElem hlt, List.count_append, ← cnt_count h hy ha n (by omega)]
    show cntTo κ ys (κ a) n + (if kR κ ys n = κ a then 1 else 0) = _
    congr 1
    have e : (ys.map (rankOf ru))[n] = rankOf ru (ys.getD n (0, 0, 0)) := by
      rw [List.getElem_map, List.getD_eq_getElem?_getD, List.getElem?_eq_getElem (by omega)]; rfl
    rw [e, List.count_singleton]
    have q := (h _ _ (getD_P hy (show n < ys.length by omega)) ha).2
    by_cases z : kR κ ys n = κ a
    · rw [if_pos z, if_pos (by rw [beq_iff_eq]; exact q.mpr z)]
    · rw [if_neg z, if_neg (by rw [beq_iff_eq]; exact fun t => z (q.mp t))]
theorem cnt_all {P : Rec → Prop} {ru : List (Int × Int)} {κ : Rec → Int} (h : RnkOn P ru κ) {ys : List Rec} (hy : ∀ a ∈ ys, P a) {a : Rec} (ha : P a) : cntTo κ ys (κ a) ys.length = (ys.map (rankOf ru)).count (rankOf ru a) := by
  rw [cnt_count h hy ha _ (Nat.le_refl _), List.take_of_length_le (by rw [List.length_map]; exact Nat.le_refl _)]
theorem cnt_from {P : Rec → Prop} {ru : List (Int × Int)} {κ : Rec → Int} (h : RnkOn P ru κ) {ys : List Rec} (hy : ∀ a ∈ ys, P a) {a : Rec} (ha : P a) {i : Nat} (hi : i ≤ ys.length) : cntFrom κ ys (κ a) i = ((ys.map (rankOf ru)).drop i).count (rankOf ru a) := by
  unfold cntFrom
  rw [cnt_all h hy ha, cnt_count h hy ha i hi]
  have e := congrArg (List.count (rankOf ru a)) (List.take_append_drop i (ys.map (rankOf ru)))
  rw [List.count_append] at e
  omega
theorem bags_ranks {P : Rec → Prop} {ru : List (Int × Int)} {κ : Rec → Int} (h : RnkOn P ru κ) {xs ys : List Rec} (hx : ∀ a ∈ xs, P a) (hy : ∀ a ∈ ys, P a) : lacks κ xs ys 0 = lackN (xs.map (rankOf ru)) (ys.map (rankOf ru)) ∧ lefts κ xs ys 0 = leftN (xs.map (rankOf ru)) (ys.map (rankOf ru)) := by
  refine ⟨?_, ?_⟩
  · unfold lacks lackN
    rw [List.length_map, Nat.sub_zero]
    have e : (List.range' 0 xs.length).reverse = (List.range xs.length).map fun t => xs.length - 1 - t := by
      rw [List.reverse_range']
      refine List.map_congr_left fun t ht => ?_
      have := List.mem_range.mp ht
      omega
    rw [e]
    refine List.filter_congr fun p hp => ?_
    have hp : p < xs.length := by
      (obtain q87 := List.mem_map.mp hp
       with_reducible refine x1_2 q87 fun t ht r88 => ?_
       clear q87
       obtain rfl := r88)
      have := List.mem_range.mp ht
      omega
    have pp := getD_P hx hp
    unfold lackB
    rw [map_getD hp, ← cnt_all h hy pp, ← cnt_from h hx pp (Nat.le_of_lt hp)]
    rfl
  · unfold lefts leftN
    rw [List.length_map]
    refine List.filter_congr fun p hp => ?_
    have hp := List.mem_range.mp hp
    have pp := getD_P hy hp
    unfold leftB
    rw [map_getD hp, ← cnt_all h hx pp, ← cnt_count h hy pp (p + 1) hp]
    refine decide_eq_decide.mpr ?_
    unfold Left
    rw [show cntFrom κ xs (kR κ ys p) 0 = cntTo κ xs (kR κ ys p) xs.length from by unfold cntFrom; rw [show cntTo κ xs (kR κ ys p) 0 = 0 from rfl]; omega]
    exact Iff.rfl
theorem sAs_len {κ : Rec → Int} {xs : List Rec} : (sAs κ xs).length = xs.length := by
  unfold sAs ordOf
  rw [List.length_map, sortP_perm.length_eq, List.length_range]
theorem sAs_P {P : Rec → Prop} {κ : Rec → Int} {xs : List Rec} (hx : ∀ a ∈ xs, P a) : ∀ a ∈ sAs κ xs, P a := by
  intro a ha
  (obtain q89 := List.mem_map.mp ha
   with_reducible refine x1_2 q89 fun i hi r810 => ?_
   clear q89
   obtain rfl := r810)
  exact getD_P hx (sortP_mem hi)
theorem sAs_srt {κ : Rec → Int} {xs : List Rec} : Srt κ (sAs κ xs) := by
  intro p q hpq hq
  rw [sAs_len] at hq
  have h := sortP_ord (κ := fun i => κ (xs.getD i (0, 0, 0))) (n := xs.length) p q hpq hq
  have e : ∀ t, t < xs.length → kR κ (sAs κ xs) t = κ (xs.getD ((ordOf κ xs).getD t 0) (0, 0, 0)) := by
    intro t ht
    have hl : t < (ordOf κ xs).length := by unfold ordOf; rw [sortP_perm.length_eq, List.length_range]; exact ht
    unfold kR sAs
    rw [List.getD_eq_getElem?_getD, List.getElem?_map, List.getD_eq_getElem?_getD (l := ordOf κ xs), List.getElem?_eq_getElem hl]
    rfl
  rw [e p (by omega), e q hq]
  exact h
theorem told_ok {P : Rec → Prop} {c : Rec → Rec → Int} {ru : List (Int × Int)} {κ : Rec → Int} (hs : SgnOn P c κ) (h : RnkOn P ru κ) {xs ys : List Rec} (hx : ∀ a ∈ xs, P a) (hy : ∀ a ∈ ys, P a) (sx : Srt κ xs) (sy : Srt κ ys) : ToldOk c xs ys (xs.map (rankOf ru)) (ys.map (rankOf ru)) := by
  intro i j ms us R
  (obtain q91 := reach_told (byKey_sub κ) sx sy (reach_congr hs hx hy R)
   with_reducible refine x0_4 q91 fun h1 h2 h3 h4 => ?_
   clear q91)
  refine ⟨fun p hp => ?_, fun p hp => ?_, h1, h2, ?_, ?_⟩
  · have : p ∈ owns κ xs ys xs.length := h3 ▸ List.mem_append_left _ hp
    exact List.mem_range.mp (List.mem_filter.mp this).1
  · have : p ∈ owns κ ys xs ys.length := h4 ▸ List.mem_append_left _ hp
    exact List.mem_range.mp (List.mem_filter.mp this).1
  · rw [h3, owns_ranks h hx hy]
  · rw [h4, owns_ranks h hy hx]
theorem bags_ok {P : Rec → Prop} {c : Rec → Rec → Int} {ru : List (Int × Int)} {κ : Rec → Int} (hs : SgnOn P c κ) (h : RnkOn P ru κ) {xs ys : List Rec} (hx : ∀ a ∈ xs, P a) (hy : ∀ a ∈ ys, P a) : BagsOk c xs ys (xs.map (rankOf ru)) (ys.map (rankOf ru)) := by
  intro ms ids R
  (obtain q811 := ureach_inv (byKey_sub κ) (ureach_congr hs hx hy R)
   with_reducible refine x0_3 q811 fun c812 h1 h2 => ?_
   clear q811
   clear c812)
  obtain ⟨b1, b2⟩ := bags_ranks h hx hy
  exact ⟨by rw [h1, b1], by rw [h2, b2]⟩
noncomputable def kap (ru : List (Int × Int)) (a : Rec) : Int := (rankOf ru a).foldl (fun k x => 5 * k + x) 0
noncomputable def rk1 (r : Int × Int) (a : Rec) : Int := if 0 < r.2 then colOf r.1 a else - colOf r.1 a
theorem three_bd {x : Int} (h : x = 0 ∨ x = 1 ∨ x = 2) : 0 ≤ x ∧ x ≤ 2 := by
  rcases h with rfl | rfl | rfl <;> decide
theorem room_lin {p : Prop} [Decidable p] {x y : Int} (h1 : 0 ≤ x) (h2 : x ≤ 2) (h3 : 0 ≤ y) (h4 : y ≤ 2) : (if p then x else -x) - (if p then y else -y) ≤ 2 ∧ -2 ≤ (if p then x else -x) - (if p then y else -y) := by
  by_cases q : p
  · rw [if_pos q, if_pos q]; exact ⟨by omega, by omega⟩
  · rw [if_neg q, if_neg q]; exact ⟨by omega, by omega⟩
theorem lin_add (x y z : Int) : y < z ↔ 5 * (5 * 0 + x) + y < 5 * (5 * 0 + x) + z := ⟨fun h => by omega, fun h => by omega⟩
theorem lin_lex {x y u v : Int} (n : x ≠ y) (h1 : u - v ≤ 2) (h2 : -2 ≤ u - v) : x < y ↔ 5 * (5 * 0 + x) + u < 5 * (5 * 0 + y) + v := ⟨fun h => by omega, fun h => by omega⟩
theorem rk1_room {r : Int × Int} (h1 : r.1 = 0 ∨ r.1 = 1) {a b : Rec} (ha : RecOk a) (hb : RecOk b) : rk1 r a - rk1 r b ≤ 2 ∧ -2 ≤ rk1 r a - rk1 r b := by
  have za : 0 ≤ colOf r.1 a ∧ colOf r.1 a ≤ 2 := by
    unfold colOf; rcases h1 with h1 | h1 <;> rw [h1]
    · exact three_bd ha.1
    · exact three_bd ha.2
  have zb : 0 ≤ colOf r.1 b ∧ colOf r.1 b ≤ 2 := by
    unfold colOf; rcases h1 with h1 | h1 <;> rw [h1]
    · exact three_bd hb.1
    · exact three_bd hb.2
  unfold rk1
  exact room_lin za.1 za.2 zb.1 zb.2
theorem rule_sgn {r : Int × Int} (h2 : r.2 = 1 ∨ r.2 = -1 ∨ r.2 = 2 ∨ r.2 = -3) (a b : Rec) : (ruleC r.1 r.2 a b < 0 ↔ rk1 r a < rk1 r b) ∧ (0 < ruleC r.1 r.2 a b ↔ rk1 r b < rk1 r a) := by
  unfold ruleC rk1 cmp3
  generalize colOf r.1 a = x
  generalize colOf r.1 b = y
  by_cases p : y < x <;> by_cases q : x < y <;> rcases h2 with h2 | h2 | h2 | h2 <;> rw [h2] <;> simp [p, q, b2i] <;> omega
theorem rule_zero {r : Int × Int} (h2 : r.2 = 1 ∨ r.2 = -1 ∨ r.2 = 2 ∨ r.2 = -3) (a b : Rec) : ruleC r.1 r.2 a b = 0 ↔ rk1 r a = rk1 r b := by
  obtain ⟨h, k⟩ := rule_sgn h2 a b
  omega
theorem plain_of {ru : List (Int × Int)} (hl : ru.length ≤ 2) (h1 : ∀ r ∈ ru, r.1 = 0 ∨ r.1 = 1) (h2 : ∀ r ∈ ru, r.2 = 1 ∨ r.2 = -1 ∨ r.2 = 2 ∨ r.2 = -3) : (∀ a, chain (ru.map fun r => ruleC r.1 r.2) a a = 0) ∧ SgnOn RecOk (chain (ru.map fun r => ruleC r.1 r.2)) (kap ru) ∧ RnkOn RecOk ru (kap ru) := by
  match ru, hl with
  | [], _ =>
    refine ⟨fun a => rfl, fun a b _ _ => ?_, fun a b _ _ => ?_⟩
    · show ((0 : Int) < 0 ↔ (0 : Int) < 0) ∧ ((0 : Int) < 0 ↔ (0 : Int) < 0)
      exact ⟨Iff.rfl, Iff.rfl⟩
    · exact ⟨rfl, ⟨fun _ => rfl, fun _ => rfl⟩⟩
  | [r], _ =>
    have w := h2 r (List.Mem.head _)
    have ec : ∀ a b, chain ([r].map fun r => ruleC r.1 r.2) a b = ruleC r.1 r.2 a b := fun a b => rfl
    have ek : ∀ a, kap [r] a = 5 * 0 + rk1 r a := fun a => rfl
    have er : ∀ a, rankOf [r] a = [rk1 r a] := fun a => rfl
    refine ⟨fun a => ?_, fun a b ha hb => ?_, fun a b ha hb => ?_⟩
    · rw [ec, rule_zero w]
    · rw [ec, ek, ek]
      obtain ⟨h, k⟩ := rule_sgn w a b
      omega
    · rw [er, er, ek, ek]
      refine ⟨?_, ?_⟩
      · show (if rk1 r a = rk1 r b then false else decide (rk1 r a < rk1 r b)) = _
        by_cases q : rk1 r a = rk1 r b
        · rw [if_pos q]; symm; rw [decide_eq_false_iff_not]; omega
        · rw [if_neg q]; exact decide_eq_decide.mpr (by omega)
      · constructor
        · intro h; injection h with h; omega
        · intro h; rw [show rk1 r a = rk1 r b by omega]
  | [r, t], _ =>
    have w := h2 r (List.Mem.head _)
    have w' := h2 t (List.Mem.tail _ (List.Mem.head _))
    have ec : ∀ a b, chain ([r, t].map fun r => ruleC r.1 r.2) a b = if ruleC r.1 r.2 a b = 0 then ruleC t.1 t.2 a b else ruleC r.1 r.2 a b := fun a b => rfl
    have ek : ∀ a, kap [r, t] a = 5 * (5 * 0 + rk1 r a) + rk1 t a := fun a => rfl
    have er : ∀ a, rankOf [r, t] a = [rk1 r a, rk1 t a] := fun a => rfl
    refine ⟨fun a => ?_, fun a b ha hb => ?_, fun a b ha hb => ?_⟩
    · rw [ec, if_pos ((rule_zero w a a).mpr rfl), (rule_zero w' a a)]
    · rw [ec, ek, ek]
      obtain ⟨h, k⟩ := rule_sgn w a b
      obtain ⟨h', k'⟩ := rule_sgn w' a b
      obtain ⟨m1, m2⟩ := rk1_room (h1 r (List.Mem.head _)) ha hb
      obtain ⟨m3, m4⟩ := rk1_room (h1 t (List.Mem.tail _ (List.Mem.head _))) ha hb
      by_cases q : ruleC r.1 r.2 a b = 0
      · rw [if_pos q, (rule_zero w a b).mp q]
        exact ⟨h'.trans (lin_add _ _ _), k'.trans (lin_add _ _ _)⟩
      · rw [if_neg q]
        have n : rk1 r a ≠ rk1 r b := fun e => q ((rule_zero w a b).mpr e)
        exact ⟨h.trans (lin_lex n m3 m4), k.trans (lin_lex n.symm (by omega) (by omega))⟩
    · obtain ⟨m1, m2⟩ := rk1_room (h1 r (List.Mem.head _)) ha hb
      obtain ⟨m3, m4⟩ := rk1_room (h1 t (List.Mem.tail _ (List.Mem.head _))) ha hb
      rw [er, er, ek, ek]
      refine ⟨?_, ?_⟩
      · show (if rk1 r a = rk1 r b then (if rk1 t a = rk1 t b then false else decide (rk1 t a < rk1 t b)) else decide (rk1 r a < rk1 r b)) = _
        by_cases q : rk1 r a = rk1 r b
        · rw [if_pos q]
          by_cases q' : rk1 t a = rk1 t b
          · rw [if_pos q']; symm; rw [decide_eq_false_iff_not]; omega
          · rw [if_neg q']; exact decide_eq_decide.mpr (by omega)
        · rw [if_neg q]; exact decide_eq_decide.mpr (by omega)
      · constructor
        · intro h; injection h with h h'; injection h' with h'; omega
        · intro h; rw [show rk1 r a = rk1 r b by omega, show rk1 t a = rk1 t b by omega]
  | _ :: _ :: _ :: _, hl => exact absurd hl (by simp)
theorem plain_ok (n : Int) : PlainOk (chain ((rulesOf n).map fun r => ruleC r.1 r.2)) (rulesOf n) := by
  (obtain q813 := plain_of (rules_len n) (rules_col n) (rules_wgt n)
   with_reducible refine x0_3 q813 fun h0 hs hr => ?_
   clear q813)
  refine ⟨h0, fun xs ys hx hy => (i1_4 (kap (rulesOf n)) ?_ ?_ ?_ ?_)⟩
  · exact ⟨fun a b ha hb => decide_eq_decide.mpr (hs a b (hx a ha) (hx b hb)).1, fun a b ha hb => (hr a b (hx a ha) (hx b hb)).1⟩
  · exact ⟨fun a b ha hb => decide_eq_decide.mpr (hs a b (hy a ha) (hy b hb)).1, fun a b ha hb => (hr a b (hy a ha) (hy b hb)).1⟩
  · exact told_ok hs hr (sAs_P hx) (sAs_P hy) sAs_srt sAs_srt
  · exact bags_ok hs hr hx hy
end Mine
end PartP4

section PartN6
open PySem PySem.W PyProof.Rows PySem.Calls
set_option Elab.async false
set_option maxRecDepth 100000
set_option maxHeartbeats 4000000
set_option linter.unusedVariables false
set_option rowWalk.seconds 0
namespace Mine
theorem start_N6 {M : Model} {A : Around} {env : Env} {E : Value → Shared → Prop} {s : Shared} {Q : Flow → Shared → Prop} (h : Q .next s) : wpAny M A (execs [] env) Q E s := by
  w_top off
  walk1
  exact h
open TI (Frs SameUp)
theorem holds_of (ok : ∀ n, PlainOk (chain ((rulesOf n).map fun r => ruleC r.1 r.2)) (rulesOf n)) : Challenge.rw_mg0030_01.Holds := holds_law said fun _ => Mine.hd (by
  k_go0
  (all_goals try k_fold)
  rename Frag.In _ _ => XX
  rename Top _ _ _ _ _ _ => TT
  rename Fr _ _ _ _ => FF
  rename News _ _ _ _ => NN
  rename IntsAre _ _ => II
  refine law_walk (A := callerA) (m := _) (by rfl) (by rfl) (by decide) (by decide) XX TT FF NN (by rfl) lifted II (by omega) ok ?_
  intro h tk st a b c d
  refine ⟨⟨.inl (i3_5 (.bool true) (.bool true) [] rfl (raisesW_false ?rs) (.bool true) ?hp unshared_nil), st, rfl, by assumption⟩, a, b, c, d, trivial⟩
  case rs => wrow_none_raised
  case hp => wrow_post)
end Mine
end PartN6

end MacC
end MacA
end MacL
open PySem PySem.W PyProof.Rows
theorem PySem.Challenge.cw_mg0030_01_holds : PySem.Challenge.rw_mg0030_01.Holds :=
  Mine.holds_of Mine.plain_ok
